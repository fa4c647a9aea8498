import JvmDerived
import JvmDerived.Pilot.@@N@@Statement
import JvmDerived.Pilot.@@N@@Code
set_option linter.unusedVariables false
set_option linter.unusedSimpArgs false
namespace Jvm.Pilot.@@N@@
open Jvm Jvm.ClassFile Sem Op Lib Jvm.Free Jvm.Stand Jvm.LawKit Jvm.RoadKit Bundle Jvm.Pilot.@@N@@.Jvm.D
/-! from a frame on, the body comes to its end as Q says -/
section OwnKit
variable {p : Program} {l : Launch} {e : Env} {R : Room} {s : State} {m : MethodId} {args : Array Value} {below : List Frame} {meth : Method} {c : Code} {T T' : State} {locs : List Loc} {cells slots C D : Nat} {Q Q' : Option Value → Heap → List Loc → Prop} {g g' : JFrame}
def Go (p : Program) (e : Env) (below : List Frame) (s : State) (C D : Nat) (Q : Option Value → Heap → List Loc → Prop) (T : State) (g : JFrame) : Prop :=
  ∃ u o, Steps p.tables e below (T.setTop g) u ∧ u.status = .running ∧ Ended u below o ∧ ∃ v L, o = .returned v ∧ Q v u.heap L ∧ FrameEnd s o u L C D
def PureQ (r : Value) (h0 : Heap) (v : Option Value) (h : Heap) (L : List Loc) : Prop := v = some r ∧ L = [] ∧ h = h0
theorem Go.step (k : ∀ t, Steps p.tables e below (T'.setTop g') t → Steps p.tables e below (T.setTop g) t) (h : Go p e below s C D Q T' g') : Go p e below s C D Q T g := by
  obtain ⟨u, o, h1, r⟩ := h
  exact ⟨u, o, k _ h1, r⟩
theorem Go.mono (h : Go p e below s C D Q T g) (q : ∀ v h L, Q v h L → Q' v h L) : Go p e below s C D Q' T g := by
  obtain ⟨u, o, h1, h2, h3, v, L, h4, h5, h6⟩ := h
  exact ⟨u, o, h1, h2, h3, v, L, h4, q _ _ _ h5, h6⟩
theorem Go.retN (X : Stand p l e R s m args below meth c T locs cells slots) (hx : p.tables.exec = Jvm.exec) (hlk : meth.locks = false) {pc : Nat} {Ls : Array Slot} {z : Int32} {t : FieldType} {rest : List Value} (hret : meth.sig.returnType = some t) (ht : t = .boolean ∨ t = .byte ∨ t = .char ∨ t = .short)
    (hd : decode c.code pc = .ok (.ireturn, 1)) (hC : cells ≤ C) (hD : slots ≤ D) (hq : Q (some (.int (nar t z))) T.heap locs) : Go p e below s C D Q T (mkF m pc Ls (.int z :: rest)) := by
  obtain ⟨fs, hr, hrun, hended, hW, hsame⟩ := X.leave (v := some (.int (nar t z))) (fun h => by rw [hret] at h; cases h) hlk
  exact ⟨_, _, Jvm.RoadKit.retN X hx hret ht hd hr, hrun, hended, _, _, rfl, hq, ⟨_, rfl⟩, hW, hsame.mono hC hD⟩
theorem Go.retW (X : Stand p l e R s m args below meth c T locs cells slots) (hx : p.tables.exec = Jvm.exec) (hlk : meth.locks = false) {pc : Nat} {Ls : Array Slot} {w : Value} {t : FieldType} {i : Instr} {rest : List Value} (hret : meth.sig.returnType = some t) (hn : narrow t w = w)
    (hi : (i = .ireturn ∧ (t = .int ∨ t = .boolean ∨ t = .byte ∨ t = .char ∨ t = .short) ∧ ∃ z, w = .int z) ∨ (i = .lreturn ∧ t = .long ∧ ∃ z, w = .long z) ∨ (i = .dreturn ∧ t = .double ∧ ∃ z, w = .double z) ∨ (i = .freturn ∧ t = .float ∧ ∃ z, w = .float z) ∨ (i = .areturn ∧ t.isReference = true ∧ w.isRef = true))
    (hd : decode c.code pc = .ok (i, 1)) (hC : cells ≤ C) (hD : slots ≤ D) (hq : Q (some w) T.heap locs) : Go p e below s C D Q T (mkF m pc Ls (w :: rest)) := by
  obtain ⟨fs, hr, hrun, hended, hW, hsame⟩ := X.leave (v := some w) (fun h => by rw [hret] at h; cases h) hlk
  exact ⟨_, _, retOut X hx hret hn hi hd hr, hrun, hended, _, _, rfl, hq, ⟨_, rfl⟩, hW, hsame.mono hC hD⟩
theorem Go.ret0 (X : Stand p l e R s m args below meth c T locs cells slots) (hx : p.tables.exec = Jvm.exec) (hlk : meth.locks = false) {pc : Nat} {Ls : Array Slot} (hret : meth.sig.returnType = none)
    (hd : decode c.code pc = .ok (.return_, 1)) (hC : cells ≤ C) (hD : slots ≤ D) (hq : Q none T.heap locs) : Go p e below s C D Q T (mkF m pc Ls []) := by
  obtain ⟨fs, hr, hrun, hended, hW, hsame⟩ := X.leave (v := none) (fun _ => rfl) hlk
  exact ⟨_, _, X.returnOut hx hret hd hr, hrun, hended, _, _, rfl, hq, ⟨_, rfl⟩, hW, hsame.mono hC hD⟩
end OwnKit
theorem pd_0 : parseMethodDescriptor "(III)I" = some ⟨[.int, .int, .int], some .int⟩ := by decide +kernel
theorem pd_1 : parseMethodDescriptor "(I)Z" = some ⟨[.int], some .boolean⟩ := by decide +kernel
theorem own_ord {t : Term} {a : Addr} {k : Int32} {args : Array Value} {s : State} {C n d : String} (ev : t.eval args s none [] s = some (.ref a)) (h : (Jvm.Cond.eq (.field t C n d) (.int k)).value args s none s [] = some true) : s.fieldOf? a C n d = some (.int k) := by
  have e := fld_at (C := C) (n := n) (dd := d) ev
  cases hf : s.fieldOf? a C n d with
  | none => rw [hf] at e; simp [Cond.value, e] at h
  | some v => rw [hf] at e; cases v <;> simp [Cond.value, e, Term.int_eval] at h ⊢; exact h
theorem own_ref {t u : Term} {a b : Addr} {args : Array Value} {s : State} {C n d : String} (ev : t.eval args s none [] s = some (.ref a)) (eu : u.eval args s none [] s = some (.ref b)) (h : (Jvm.Cond.eq (.field t C n d) u).value args s none s [] = some true) : s.fieldOf? a C n d = some (.ref b) := by
  have e := fld_at (C := C) (n := n) (dd := d) ev
  cases hf : s.fieldOf? a C n d with
  | none => rw [hf] at e; simp [Cond.value, e] at h
  | some v => rw [hf] at e; cases v <;> simp [Cond.value, e, eu] at h ⊢; exact h
theorem own_ne {a b : Addr} {v w : Value} {s : State} {C n d : String} (h1 : s.fieldOf? a C n d = some v) (h2 : s.fieldOf? b C n d = some w) (hn : v ≠ w) : a ≠ b := fun e => by
  subst e; exact hn (Option.some.inj (h1.symm.trans h2))
def own_gh (s : State) (a : Addr) : Int32 := match s.fieldOf? a "com/example/ucs_to_octets/ucstooctets/CodeSpace" "highest" "I" with | some (.int z) => z | _ => 0
theorem own_gh_of {s : State} {a : Addr} {z : Int32} (h : s.fieldOf? a "com/example/ucs_to_octets/ucstooctets/CodeSpace" "highest" "I" = some (.int z)) : own_gh s a = z := by simp [own_gh, h]
theorem d1_0 : decode method_2_code 0 = .ok (.iload_n 0, 1) := by decide +kernel
theorem d1_1 : decode method_2_code 1 = .ok (.ldc 7, 2) := by decide +kernel
theorem d1_3 : decode method_2_code 3 = .ok (.iand, 1) := by decide +kernel
theorem d1_4 : decode method_2_code 4 = .ok (.bipush 7, 2) := by decide +kernel
theorem d1_6 : decode method_2_code 6 = .ok (.irem, 1) := by decide +kernel
theorem d1_7 : decode method_2_code 7 = .ok (.istore_n 3, 1) := by decide +kernel
theorem d1_8 : decode method_2_code 8 = .ok (.iload_n 2, 1) := by decide +kernel
theorem d1_9 : decode method_2_code 9 = .ok (.bipush 15, 2) := by decide +kernel
theorem d1_11 : decode method_2_code 11 = .ok (.iand, 1) := by decide +kernel
theorem d1_12 : decode method_2_code 12 = .ok (.bipush 8, 2) := by decide +kernel
theorem d1_14 : decode method_2_code 14 = .ok (.isub, 1) := by decide +kernel
theorem d1_15 : decode method_2_code 15 = .ok (.istore 4, 2) := by decide +kernel
theorem d1_17 : decode method_2_code 17 = .ok (.iload_n 3, 1) := by decide +kernel
theorem d1_18 : decode method_2_code 18 = .ok (.ifCond .ne 5, 3) := by decide +kernel
theorem d1_21 : decode method_2_code 21 = .ok (.iload_n 1, 1) := by decide +kernel
theorem d1_22 : decode method_2_code 22 = .ok (.ireturn, 1) := by decide +kernel
theorem d1_23 : decode method_2_code 23 = .ok (.iload_n 3, 1) := by decide +kernel
theorem d1_24 : decode method_2_code 24 = .ok (.iconst 1, 1) := by decide +kernel
theorem d1_25 : decode method_2_code 25 = .ok (.if_icmp .ne 6, 3) := by decide +kernel
theorem d1_28 : decode method_2_code 28 = .ok (.iload 4, 2) := by decide +kernel
theorem d1_30 : decode method_2_code 30 = .ok (.ireturn, 1) := by decide +kernel
theorem d1_31 : decode method_2_code 31 = .ok (.iload_n 3, 1) := by decide +kernel
theorem d1_32 : decode method_2_code 32 = .ok (.iconst 2, 1) := by decide +kernel
theorem d1_33 : decode method_2_code 33 = .ok (.if_icmp .ne 9, 3) := by decide +kernel
theorem d1_36 : decode method_2_code 36 = .ok (.ldc 8, 2) := by decide +kernel
theorem d1_38 : decode method_2_code 38 = .ok (.iload 4, 2) := by decide +kernel
theorem d1_40 : decode method_2_code 40 = .ok (.iadd, 1) := by decide +kernel
theorem d1_41 : decode method_2_code 41 = .ok (.ireturn, 1) := by decide +kernel
theorem d1_42 : decode method_2_code 42 = .ok (.iload_n 3, 1) := by decide +kernel
theorem d1_43 : decode method_2_code 43 = .ok (.iconst 3, 1) := by decide +kernel
theorem d1_44 : decode method_2_code 44 = .ok (.if_icmp .ne 9, 3) := by decide +kernel
theorem d1_47 : decode method_2_code 47 = .ok (.ldc 9, 2) := by decide +kernel
theorem d1_49 : decode method_2_code 49 = .ok (.iload 4, 2) := by decide +kernel
theorem d1_51 : decode method_2_code 51 = .ok (.iadd, 1) := by decide +kernel
theorem d1_52 : decode method_2_code 52 = .ok (.ireturn, 1) := by decide +kernel
theorem d1_53 : decode method_2_code 53 = .ok (.iload_n 3, 1) := by decide +kernel
theorem d1_54 : decode method_2_code 54 = .ok (.iconst 4, 1) := by decide +kernel
theorem d1_55 : decode method_2_code 55 = .ok (.if_icmp .ne 9, 3) := by decide +kernel
theorem d1_58 : decode method_2_code 58 = .ok (.ldc 10, 2) := by decide +kernel
theorem d1_60 : decode method_2_code 60 = .ok (.iload 4, 2) := by decide +kernel
theorem d1_62 : decode method_2_code 62 = .ok (.iadd, 1) := by decide +kernel
theorem d1_63 : decode method_2_code 63 = .ok (.ireturn, 1) := by decide +kernel
theorem d1_64 : decode method_2_code 64 = .ok (.iload_n 3, 1) := by decide +kernel
theorem d1_65 : decode method_2_code 65 = .ok (.iconst 5, 1) := by decide +kernel
theorem d1_66 : decode method_2_code 66 = .ok (.if_icmp .ne 9, 3) := by decide +kernel
theorem d1_69 : decode method_2_code 69 = .ok (.ldc 7, 2) := by decide +kernel
theorem d1_71 : decode method_2_code 71 = .ok (.iload 4, 2) := by decide +kernel
theorem d1_73 : decode method_2_code 73 = .ok (.iadd, 1) := by decide +kernel
theorem d1_74 : decode method_2_code 74 = .ok (.ireturn, 1) := by decide +kernel
theorem d1_75 : decode method_2_code 75 = .ok (.ldc 13, 2) := by decide +kernel
theorem d1_77 : decode method_2_code 77 = .ok (.iload 4, 2) := by decide +kernel
theorem d1_79 : decode method_2_code 79 = .ok (.iadd, 1) := by decide +kernel
theorem d1_80 : decode method_2_code 80 = .ok (.ireturn, 1) := by decide +kernel
theorem pn_1 : plainName "com/example/ucs_to_octets/ucstooctets/CodeSpaceContainsPinLaw" = true := by first | (simp [plainName, overriddenIn]; done) | decide +kernel
theorem ef_1 (m : MethodId) (p0 : Int32) (p1 : Int32) (p2 : Int32) : entryFrame m #[(.int p0), (.int p1), (.int p2)] 5 = mkF m 0 #[.val (.int p0), .val (.int p1), .val (.int p2), .unset, .unset] [] := by first | (simp [entryFrame, mkF, argsToLocals, Value.category]; done) | rfl
def f1_75 (p2 : Int32) : Int32 := ((-2147483648 : Int32) + ((p2 &&& (15 : Int32)) - (8 : Int32)))
def f1_69 (p2 : Int32) : Int32 := ((2147483647 : Int32) + ((p2 &&& (15 : Int32)) - (8 : Int32)))
def f1_64 (p0 : Int32) (p2 : Int32) : Int32 := if ((p0 &&& (2147483647 : Int32)) % (7 : Int32)) = (5 : Int32) then (f1_69 p2) else (f1_75 p2)
def f1_58 (p2 : Int32) : Int32 := ((1114111 : Int32) + ((p2 &&& (15 : Int32)) - (8 : Int32)))
def f1_53 (p0 : Int32) (p2 : Int32) : Int32 := if ((p0 &&& (2147483647 : Int32)) % (7 : Int32)) = (4 : Int32) then (f1_58 p2) else (f1_64 p0 p2)
def f1_47 (p2 : Int32) : Int32 := ((57343 : Int32) + ((p2 &&& (15 : Int32)) - (8 : Int32)))
def f1_42 (p0 : Int32) (p2 : Int32) : Int32 := if ((p0 &&& (2147483647 : Int32)) % (7 : Int32)) = (3 : Int32) then (f1_47 p2) else (f1_53 p0 p2)
def f1_36 (p2 : Int32) : Int32 := ((55296 : Int32) + ((p2 &&& (15 : Int32)) - (8 : Int32)))
def f1_31 (p0 : Int32) (p2 : Int32) : Int32 := if ((p0 &&& (2147483647 : Int32)) % (7 : Int32)) = (2 : Int32) then (f1_36 p2) else (f1_42 p0 p2)
def f1_28 (p2 : Int32) : Int32 := ((p2 &&& (15 : Int32)) - (8 : Int32))
def f1_23 (p0 : Int32) (p2 : Int32) : Int32 := if ((p0 &&& (2147483647 : Int32)) % (7 : Int32)) = (1 : Int32) then (f1_28 p2) else (f1_31 p0 p2)
def f1_21 (p1 : Int32) : Int32 := p1
def f1_0 (p0 : Int32) (p1 : Int32) (p2 : Int32) : Int32 := if ((p0 &&& (2147483647 : Int32)) % (7 : Int32)) = (0 : Int32) then (f1_21 p1) else (f1_23 p0 p2)
set_option maxRecDepth 65536 in
set_option maxHeartbeats 40000000 in
theorem rm1 (l : Launch) (Z : State) (a0 : Array Value) (hw : ∀ d ∈ tables_1, d.before a0 Z = true) (ws : List Jvm.Cond) (p0 : Int32) (p1 : Int32) (p2 : Int32)  (h0 : Heap) :
    MetFree l (⟨"com/example/ucs_to_octets/ucstooctets/CodeSpaceContainsPinLaw", "pick", "(III)I"⟩ : MethodName) (head1 (Jvm.Cond.code (⟨"com/example/ucs_to_octets/ucstooctets/CodeSpaceContainsPinLaw", "pick", "(III)I"⟩ : MethodName) method_2_code 5 (some .int) :: ws) ({ frames := 0, cells := 0, slots := 0, locals := 0 } : Room)) (fun a U => a = #[(.int p0), (.int p1), (.int p2)] ∧ Z.Warmed39 U.vm ∧ U.heap = h0) (fun _ _ _ _ _ => True) (fun _ U o U' => ∃ v L, o = .returned v ∧ (PureQ (.int (f1_0 p0 p1 p2)) h0) v U'.heap L ∧ FrameEnd U o U' L ({ frames := 0, cells := 0, slots := 0, locals := 0 } : Room).cells ({ frames := 0, cells := 0, slots := 0, locals := 0 } : Room).slots) := by
  refine MetFree.of_bodySF (plainFor_of_name pn_1) hisR ?_
  intro p e s m args below meth c s₁ Bd hml0 hP hK
  obtain ⟨rfl, hZ, hh⟩ := hP
  have hx := Bd.exec
  have hby := Bd.bytes
  have hlk : meth.locks = false := BodyLoose.notSynchronized Bd
  have hml : c.maxLocals = 5 := hml0
  have hown : s.vm.findClass "com/example/ucs_to_octets/ucstooctets/CodeSpaceContainsPinLaw" = some m.cls := findClass_of_methodNamed Bd.named
  have hnm := (name_of_methodNamed Bd.named Bd.method).1
  have X0 : Stand p l e ({ frames := 0, cells := 0, slots := 0, locals := 0 } : Room) s m #[(.int p0), (.int p1), (.int p2)] below meth c s₁ ([] : List Loc) 0 0 := Stand.of_body Bd
  have e0 : s₁.heap = h0 := by rw [← hh, Bd.state]; rfl
  show Go p e below s 0 0 (PureQ (.int (f1_0 p0 p1 p2)) h0) s₁ (entryFrame m #[(.int p0), (.int p1), (.int p2)] 5)
  rw [ef_1 m p0 p1 p2]
  refine Go.step (g' := (mkF m 1 #[.val (.int p0), .val (.int p1), .val (.int p2), .unset, .unset] [(.int p0)])) (fun _ k => XS.iloadN X0.here hx rfl (hb hby d1_0) rfl  k) ?_
  refine Go.step (g' := (mkF m 3 #[.val (.int p0), .val (.int p1), .val (.int p2), .unset, .unset] [(.int (2147483647 : Int32)), (.int p0)])) (fun _ k => X0.ldcI hx hown (mvT hZ (hw _ (List.mem_of_getElem? (i := 7) rfl))) rfl (hb hby d1_1) k) ?_
  refine Go.step (g' := (mkF m 4 #[.val (.int p0), .val (.int p1), .val (.int p2), .unset, .unset] [(.int (p0 &&& (2147483647 : Int32)))])) (fun _ k => XS.iand X0.here hx rfl (hb hby d1_3) rfl k) ?_
  refine Go.step (g' := (mkF m 6 #[.val (.int p0), .val (.int p1), .val (.int p2), .unset, .unset] [(.int (7 : Int32)), (.int (p0 &&& (2147483647 : Int32)))])) (fun _ k => XS.bipush X0.here hx rfl (hb hby d1_4) k) ?_
  refine Go.step (g' := (mkF m 7 #[.val (.int p0), .val (.int p1), .val (.int p2), .unset, .unset] [(.int ((p0 &&& (2147483647 : Int32)) % (7 : Int32)))])) (fun _ k => Jvm.RoadKit.iremM X0 hx rfl (hb hby d1_6) rfl (by decide) k) ?_
  refine Go.step (g' := (mkF m 8 #[.val (.int p0), .val (.int p1), .val (.int p2), .val (.int ((p0 &&& (2147483647 : Int32)) % (7 : Int32))), .unset] [])) (fun _ k => XS.istoreN X0.here hx rfl (hb hby d1_7) rfl (l' := #[.val (.int p0), .val (.int p1), .val (.int p2), .val (.int ((p0 &&& (2147483647 : Int32)) % (7 : Int32))), .unset]) rfl k) ?_
  refine Go.step (g' := (mkF m 9 #[.val (.int p0), .val (.int p1), .val (.int p2), .val (.int ((p0 &&& (2147483647 : Int32)) % (7 : Int32))), .unset] [(.int p2)])) (fun _ k => XS.iloadN X0.here hx rfl (hb hby d1_8) rfl  k) ?_
  refine Go.step (g' := (mkF m 11 #[.val (.int p0), .val (.int p1), .val (.int p2), .val (.int ((p0 &&& (2147483647 : Int32)) % (7 : Int32))), .unset] [(.int (15 : Int32)), (.int p2)])) (fun _ k => XS.bipush X0.here hx rfl (hb hby d1_9) k) ?_
  refine Go.step (g' := (mkF m 12 #[.val (.int p0), .val (.int p1), .val (.int p2), .val (.int ((p0 &&& (2147483647 : Int32)) % (7 : Int32))), .unset] [(.int (p2 &&& (15 : Int32)))])) (fun _ k => XS.iand X0.here hx rfl (hb hby d1_11) rfl k) ?_
  refine Go.step (g' := (mkF m 14 #[.val (.int p0), .val (.int p1), .val (.int p2), .val (.int ((p0 &&& (2147483647 : Int32)) % (7 : Int32))), .unset] [(.int (8 : Int32)), (.int (p2 &&& (15 : Int32)))])) (fun _ k => XS.bipush X0.here hx rfl (hb hby d1_12) k) ?_
  refine Go.step (g' := (mkF m 15 #[.val (.int p0), .val (.int p1), .val (.int p2), .val (.int ((p0 &&& (2147483647 : Int32)) % (7 : Int32))), .unset] [(.int ((p2 &&& (15 : Int32)) - (8 : Int32)))])) (fun _ k => XS.isub X0.here hx rfl (hb hby d1_14) rfl k) ?_
  refine Go.step (g' := (mkF m 17 #[.val (.int p0), .val (.int p1), .val (.int p2), .val (.int ((p0 &&& (2147483647 : Int32)) % (7 : Int32))), .val (.int ((p2 &&& (15 : Int32)) - (8 : Int32)))] [])) (fun _ k => XS.istore X0.here hx rfl (hb hby d1_15) rfl (l' := #[.val (.int p0), .val (.int p1), .val (.int p2), .val (.int ((p0 &&& (2147483647 : Int32)) % (7 : Int32))), .val (.int ((p2 &&& (15 : Int32)) - (8 : Int32)))]) rfl k) ?_
  refine Go.step (g' := (mkF m 18 #[.val (.int p0), .val (.int p1), .val (.int p2), .val (.int ((p0 &&& (2147483647 : Int32)) % (7 : Int32))), .val (.int ((p2 &&& (15 : Int32)) - (8 : Int32)))] [(.int ((p0 &&& (2147483647 : Int32)) % (7 : Int32)))])) (fun _ k => XS.iloadN X0.here hx rfl (hb hby d1_17) rfl  k) ?_
  by_cases hc18 : ((p0 &&& (2147483647 : Int32)) % (7 : Int32)) = (0 : Int32)
  · rw [show (f1_0 p0 p1 p2) = (f1_21 p1) from if_pos hc18]
    refine Go.step (g' := (mkF m 21 #[.val (.int p0), .val (.int p1), .val (.int p2), .val (.int ((p0 &&& (2147483647 : Int32)) % (7 : Int32))), .val (.int ((p2 &&& (15 : Int32)) - (8 : Int32)))] [])) (fun _ k => XS.ifNo X0.here hx rfl (hb hby d1_18) rfl ((if0 _ _).trans (teq hc18).2) k) ?_
    refine Go.step (g' := (mkF m 22 #[.val (.int p0), .val (.int p1), .val (.int p2), .val (.int ((p0 &&& (2147483647 : Int32)) % (7 : Int32))), .val (.int ((p2 &&& (15 : Int32)) - (8 : Int32)))] [(.int p1)])) (fun _ k => XS.iloadN X0.here hx rfl (hb hby d1_21) rfl  k) ?_
    exact Go.retW X0 hx hlk (t := .int) Bd.returns rfl (Or.inl ⟨rfl, Or.inl rfl, _, rfl⟩) (hb hby d1_22) (by decide) (by decide) ⟨rfl, rfl, e0⟩
  · rw [show (f1_0 p0 p1 p2) = (f1_23 p0 p2) from if_neg hc18]
    refine Go.step (g' := (mkF m 23 #[.val (.int p0), .val (.int p1), .val (.int p2), .val (.int ((p0 &&& (2147483647 : Int32)) % (7 : Int32))), .val (.int ((p2 &&& (15 : Int32)) - (8 : Int32)))] [])) (fun _ k => XS.ifYes X0.here hx rfl (pc0 := 18) (pc' := 23) rfl (hb hby d1_18) rfl ((if0 _ _).trans (feq hc18).2) (by decide) (by decide) k) ?_
    refine Go.step (g' := (mkF m 24 #[.val (.int p0), .val (.int p1), .val (.int p2), .val (.int ((p0 &&& (2147483647 : Int32)) % (7 : Int32))), .val (.int ((p2 &&& (15 : Int32)) - (8 : Int32)))] [(.int ((p0 &&& (2147483647 : Int32)) % (7 : Int32)))])) (fun _ k => XS.iloadN X0.here hx rfl (hb hby d1_23) rfl  k) ?_
    refine Go.step (g' := (mkF m 25 #[.val (.int p0), .val (.int p1), .val (.int p2), .val (.int ((p0 &&& (2147483647 : Int32)) % (7 : Int32))), .val (.int ((p2 &&& (15 : Int32)) - (8 : Int32)))] [(.int (1 : Int32)), (.int ((p0 &&& (2147483647 : Int32)) % (7 : Int32)))])) (fun _ k => XS.iconst X0.here hx rfl (hb hby d1_24) k) ?_
    by_cases hc25 : ((p0 &&& (2147483647 : Int32)) % (7 : Int32)) = (1 : Int32)
    · rw [show (f1_23 p0 p2) = (f1_28 p2) from if_pos hc25]
      refine Go.step (g' := (mkF m 28 #[.val (.int p0), .val (.int p1), .val (.int p2), .val (.int ((p0 &&& (2147483647 : Int32)) % (7 : Int32))), .val (.int ((p2 &&& (15 : Int32)) - (8 : Int32)))] [])) (fun _ k => XS.icmpNo X0.here hx rfl (hb hby d1_25) rfl (teq hc25).2 k) ?_
      refine Go.step (g' := (mkF m 30 #[.val (.int p0), .val (.int p1), .val (.int p2), .val (.int ((p0 &&& (2147483647 : Int32)) % (7 : Int32))), .val (.int ((p2 &&& (15 : Int32)) - (8 : Int32)))] [(.int ((p2 &&& (15 : Int32)) - (8 : Int32)))])) (fun _ k => XS.iload X0.here hx rfl (hb hby d1_28) rfl  k) ?_
      exact Go.retW X0 hx hlk (t := .int) Bd.returns rfl (Or.inl ⟨rfl, Or.inl rfl, _, rfl⟩) (hb hby d1_30) (by decide) (by decide) ⟨rfl, rfl, e0⟩
    · rw [show (f1_23 p0 p2) = (f1_31 p0 p2) from if_neg hc25]
      refine Go.step (g' := (mkF m 31 #[.val (.int p0), .val (.int p1), .val (.int p2), .val (.int ((p0 &&& (2147483647 : Int32)) % (7 : Int32))), .val (.int ((p2 &&& (15 : Int32)) - (8 : Int32)))] [])) (fun _ k => XS.icmpYes X0.here hx rfl (pc0 := 25) (pc' := 31) rfl (hb hby d1_25) rfl (feq hc25).2 (by decide) (by decide) k) ?_
      refine Go.step (g' := (mkF m 32 #[.val (.int p0), .val (.int p1), .val (.int p2), .val (.int ((p0 &&& (2147483647 : Int32)) % (7 : Int32))), .val (.int ((p2 &&& (15 : Int32)) - (8 : Int32)))] [(.int ((p0 &&& (2147483647 : Int32)) % (7 : Int32)))])) (fun _ k => XS.iloadN X0.here hx rfl (hb hby d1_31) rfl  k) ?_
      refine Go.step (g' := (mkF m 33 #[.val (.int p0), .val (.int p1), .val (.int p2), .val (.int ((p0 &&& (2147483647 : Int32)) % (7 : Int32))), .val (.int ((p2 &&& (15 : Int32)) - (8 : Int32)))] [(.int (2 : Int32)), (.int ((p0 &&& (2147483647 : Int32)) % (7 : Int32)))])) (fun _ k => XS.iconst X0.here hx rfl (hb hby d1_32) k) ?_
      by_cases hc33 : ((p0 &&& (2147483647 : Int32)) % (7 : Int32)) = (2 : Int32)
      · rw [show (f1_31 p0 p2) = (f1_36 p2) from if_pos hc33]
        refine Go.step (g' := (mkF m 36 #[.val (.int p0), .val (.int p1), .val (.int p2), .val (.int ((p0 &&& (2147483647 : Int32)) % (7 : Int32))), .val (.int ((p2 &&& (15 : Int32)) - (8 : Int32)))] [])) (fun _ k => XS.icmpNo X0.here hx rfl (hb hby d1_33) rfl (teq hc33).2 k) ?_
        refine Go.step (g' := (mkF m 38 #[.val (.int p0), .val (.int p1), .val (.int p2), .val (.int ((p0 &&& (2147483647 : Int32)) % (7 : Int32))), .val (.int ((p2 &&& (15 : Int32)) - (8 : Int32)))] [(.int (55296 : Int32))])) (fun _ k => X0.ldcI hx hown (mvT hZ (hw _ (List.mem_of_getElem? (i := 10) rfl))) rfl (hb hby d1_36) k) ?_
        refine Go.step (g' := (mkF m 40 #[.val (.int p0), .val (.int p1), .val (.int p2), .val (.int ((p0 &&& (2147483647 : Int32)) % (7 : Int32))), .val (.int ((p2 &&& (15 : Int32)) - (8 : Int32)))] [(.int ((p2 &&& (15 : Int32)) - (8 : Int32))), (.int (55296 : Int32))])) (fun _ k => XS.iload X0.here hx rfl (hb hby d1_38) rfl  k) ?_
        refine Go.step (g' := (mkF m 41 #[.val (.int p0), .val (.int p1), .val (.int p2), .val (.int ((p0 &&& (2147483647 : Int32)) % (7 : Int32))), .val (.int ((p2 &&& (15 : Int32)) - (8 : Int32)))] [(.int ((55296 : Int32) + ((p2 &&& (15 : Int32)) - (8 : Int32))))])) (fun _ k => XS.iadd X0.here hx rfl (hb hby d1_40) rfl k) ?_
        exact Go.retW X0 hx hlk (t := .int) Bd.returns rfl (Or.inl ⟨rfl, Or.inl rfl, _, rfl⟩) (hb hby d1_41) (by decide) (by decide) ⟨rfl, rfl, e0⟩
      · rw [show (f1_31 p0 p2) = (f1_42 p0 p2) from if_neg hc33]
        refine Go.step (g' := (mkF m 42 #[.val (.int p0), .val (.int p1), .val (.int p2), .val (.int ((p0 &&& (2147483647 : Int32)) % (7 : Int32))), .val (.int ((p2 &&& (15 : Int32)) - (8 : Int32)))] [])) (fun _ k => XS.icmpYes X0.here hx rfl (pc0 := 33) (pc' := 42) rfl (hb hby d1_33) rfl (feq hc33).2 (by decide) (by decide) k) ?_
        refine Go.step (g' := (mkF m 43 #[.val (.int p0), .val (.int p1), .val (.int p2), .val (.int ((p0 &&& (2147483647 : Int32)) % (7 : Int32))), .val (.int ((p2 &&& (15 : Int32)) - (8 : Int32)))] [(.int ((p0 &&& (2147483647 : Int32)) % (7 : Int32)))])) (fun _ k => XS.iloadN X0.here hx rfl (hb hby d1_42) rfl  k) ?_
        refine Go.step (g' := (mkF m 44 #[.val (.int p0), .val (.int p1), .val (.int p2), .val (.int ((p0 &&& (2147483647 : Int32)) % (7 : Int32))), .val (.int ((p2 &&& (15 : Int32)) - (8 : Int32)))] [(.int (3 : Int32)), (.int ((p0 &&& (2147483647 : Int32)) % (7 : Int32)))])) (fun _ k => XS.iconst X0.here hx rfl (hb hby d1_43) k) ?_
        by_cases hc44 : ((p0 &&& (2147483647 : Int32)) % (7 : Int32)) = (3 : Int32)
        · rw [show (f1_42 p0 p2) = (f1_47 p2) from if_pos hc44]
          refine Go.step (g' := (mkF m 47 #[.val (.int p0), .val (.int p1), .val (.int p2), .val (.int ((p0 &&& (2147483647 : Int32)) % (7 : Int32))), .val (.int ((p2 &&& (15 : Int32)) - (8 : Int32)))] [])) (fun _ k => XS.icmpNo X0.here hx rfl (hb hby d1_44) rfl (teq hc44).2 k) ?_
          refine Go.step (g' := (mkF m 49 #[.val (.int p0), .val (.int p1), .val (.int p2), .val (.int ((p0 &&& (2147483647 : Int32)) % (7 : Int32))), .val (.int ((p2 &&& (15 : Int32)) - (8 : Int32)))] [(.int (57343 : Int32))])) (fun _ k => X0.ldcI hx hown (mvT hZ (hw _ (List.mem_of_getElem? (i := 8) rfl))) rfl (hb hby d1_47) k) ?_
          refine Go.step (g' := (mkF m 51 #[.val (.int p0), .val (.int p1), .val (.int p2), .val (.int ((p0 &&& (2147483647 : Int32)) % (7 : Int32))), .val (.int ((p2 &&& (15 : Int32)) - (8 : Int32)))] [(.int ((p2 &&& (15 : Int32)) - (8 : Int32))), (.int (57343 : Int32))])) (fun _ k => XS.iload X0.here hx rfl (hb hby d1_49) rfl  k) ?_
          refine Go.step (g' := (mkF m 52 #[.val (.int p0), .val (.int p1), .val (.int p2), .val (.int ((p0 &&& (2147483647 : Int32)) % (7 : Int32))), .val (.int ((p2 &&& (15 : Int32)) - (8 : Int32)))] [(.int ((57343 : Int32) + ((p2 &&& (15 : Int32)) - (8 : Int32))))])) (fun _ k => XS.iadd X0.here hx rfl (hb hby d1_51) rfl k) ?_
          exact Go.retW X0 hx hlk (t := .int) Bd.returns rfl (Or.inl ⟨rfl, Or.inl rfl, _, rfl⟩) (hb hby d1_52) (by decide) (by decide) ⟨rfl, rfl, e0⟩
        · rw [show (f1_42 p0 p2) = (f1_53 p0 p2) from if_neg hc44]
          refine Go.step (g' := (mkF m 53 #[.val (.int p0), .val (.int p1), .val (.int p2), .val (.int ((p0 &&& (2147483647 : Int32)) % (7 : Int32))), .val (.int ((p2 &&& (15 : Int32)) - (8 : Int32)))] [])) (fun _ k => XS.icmpYes X0.here hx rfl (pc0 := 44) (pc' := 53) rfl (hb hby d1_44) rfl (feq hc44).2 (by decide) (by decide) k) ?_
          refine Go.step (g' := (mkF m 54 #[.val (.int p0), .val (.int p1), .val (.int p2), .val (.int ((p0 &&& (2147483647 : Int32)) % (7 : Int32))), .val (.int ((p2 &&& (15 : Int32)) - (8 : Int32)))] [(.int ((p0 &&& (2147483647 : Int32)) % (7 : Int32)))])) (fun _ k => XS.iloadN X0.here hx rfl (hb hby d1_53) rfl  k) ?_
          refine Go.step (g' := (mkF m 55 #[.val (.int p0), .val (.int p1), .val (.int p2), .val (.int ((p0 &&& (2147483647 : Int32)) % (7 : Int32))), .val (.int ((p2 &&& (15 : Int32)) - (8 : Int32)))] [(.int (4 : Int32)), (.int ((p0 &&& (2147483647 : Int32)) % (7 : Int32)))])) (fun _ k => XS.iconst X0.here hx rfl (hb hby d1_54) k) ?_
          by_cases hc55 : ((p0 &&& (2147483647 : Int32)) % (7 : Int32)) = (4 : Int32)
          · rw [show (f1_53 p0 p2) = (f1_58 p2) from if_pos hc55]
            refine Go.step (g' := (mkF m 58 #[.val (.int p0), .val (.int p1), .val (.int p2), .val (.int ((p0 &&& (2147483647 : Int32)) % (7 : Int32))), .val (.int ((p2 &&& (15 : Int32)) - (8 : Int32)))] [])) (fun _ k => XS.icmpNo X0.here hx rfl (hb hby d1_55) rfl (teq hc55).2 k) ?_
            refine Go.step (g' := (mkF m 60 #[.val (.int p0), .val (.int p1), .val (.int p2), .val (.int ((p0 &&& (2147483647 : Int32)) % (7 : Int32))), .val (.int ((p2 &&& (15 : Int32)) - (8 : Int32)))] [(.int (1114111 : Int32))])) (fun _ k => X0.ldcI hx hown (mvT hZ (hw _ (List.mem_of_getElem? (i := 9) rfl))) rfl (hb hby d1_58) k) ?_
            refine Go.step (g' := (mkF m 62 #[.val (.int p0), .val (.int p1), .val (.int p2), .val (.int ((p0 &&& (2147483647 : Int32)) % (7 : Int32))), .val (.int ((p2 &&& (15 : Int32)) - (8 : Int32)))] [(.int ((p2 &&& (15 : Int32)) - (8 : Int32))), (.int (1114111 : Int32))])) (fun _ k => XS.iload X0.here hx rfl (hb hby d1_60) rfl  k) ?_
            refine Go.step (g' := (mkF m 63 #[.val (.int p0), .val (.int p1), .val (.int p2), .val (.int ((p0 &&& (2147483647 : Int32)) % (7 : Int32))), .val (.int ((p2 &&& (15 : Int32)) - (8 : Int32)))] [(.int ((1114111 : Int32) + ((p2 &&& (15 : Int32)) - (8 : Int32))))])) (fun _ k => XS.iadd X0.here hx rfl (hb hby d1_62) rfl k) ?_
            exact Go.retW X0 hx hlk (t := .int) Bd.returns rfl (Or.inl ⟨rfl, Or.inl rfl, _, rfl⟩) (hb hby d1_63) (by decide) (by decide) ⟨rfl, rfl, e0⟩
          · rw [show (f1_53 p0 p2) = (f1_64 p0 p2) from if_neg hc55]
            refine Go.step (g' := (mkF m 64 #[.val (.int p0), .val (.int p1), .val (.int p2), .val (.int ((p0 &&& (2147483647 : Int32)) % (7 : Int32))), .val (.int ((p2 &&& (15 : Int32)) - (8 : Int32)))] [])) (fun _ k => XS.icmpYes X0.here hx rfl (pc0 := 55) (pc' := 64) rfl (hb hby d1_55) rfl (feq hc55).2 (by decide) (by decide) k) ?_
            refine Go.step (g' := (mkF m 65 #[.val (.int p0), .val (.int p1), .val (.int p2), .val (.int ((p0 &&& (2147483647 : Int32)) % (7 : Int32))), .val (.int ((p2 &&& (15 : Int32)) - (8 : Int32)))] [(.int ((p0 &&& (2147483647 : Int32)) % (7 : Int32)))])) (fun _ k => XS.iloadN X0.here hx rfl (hb hby d1_64) rfl  k) ?_
            refine Go.step (g' := (mkF m 66 #[.val (.int p0), .val (.int p1), .val (.int p2), .val (.int ((p0 &&& (2147483647 : Int32)) % (7 : Int32))), .val (.int ((p2 &&& (15 : Int32)) - (8 : Int32)))] [(.int (5 : Int32)), (.int ((p0 &&& (2147483647 : Int32)) % (7 : Int32)))])) (fun _ k => XS.iconst X0.here hx rfl (hb hby d1_65) k) ?_
            by_cases hc66 : ((p0 &&& (2147483647 : Int32)) % (7 : Int32)) = (5 : Int32)
            · rw [show (f1_64 p0 p2) = (f1_69 p2) from if_pos hc66]
              refine Go.step (g' := (mkF m 69 #[.val (.int p0), .val (.int p1), .val (.int p2), .val (.int ((p0 &&& (2147483647 : Int32)) % (7 : Int32))), .val (.int ((p2 &&& (15 : Int32)) - (8 : Int32)))] [])) (fun _ k => XS.icmpNo X0.here hx rfl (hb hby d1_66) rfl (teq hc66).2 k) ?_
              refine Go.step (g' := (mkF m 71 #[.val (.int p0), .val (.int p1), .val (.int p2), .val (.int ((p0 &&& (2147483647 : Int32)) % (7 : Int32))), .val (.int ((p2 &&& (15 : Int32)) - (8 : Int32)))] [(.int (2147483647 : Int32))])) (fun _ k => X0.ldcI hx hown (mvT hZ (hw _ (List.mem_of_getElem? (i := 7) rfl))) rfl (hb hby d1_69) k) ?_
              refine Go.step (g' := (mkF m 73 #[.val (.int p0), .val (.int p1), .val (.int p2), .val (.int ((p0 &&& (2147483647 : Int32)) % (7 : Int32))), .val (.int ((p2 &&& (15 : Int32)) - (8 : Int32)))] [(.int ((p2 &&& (15 : Int32)) - (8 : Int32))), (.int (2147483647 : Int32))])) (fun _ k => XS.iload X0.here hx rfl (hb hby d1_71) rfl  k) ?_
              refine Go.step (g' := (mkF m 74 #[.val (.int p0), .val (.int p1), .val (.int p2), .val (.int ((p0 &&& (2147483647 : Int32)) % (7 : Int32))), .val (.int ((p2 &&& (15 : Int32)) - (8 : Int32)))] [(.int ((2147483647 : Int32) + ((p2 &&& (15 : Int32)) - (8 : Int32))))])) (fun _ k => XS.iadd X0.here hx rfl (hb hby d1_73) rfl k) ?_
              exact Go.retW X0 hx hlk (t := .int) Bd.returns rfl (Or.inl ⟨rfl, Or.inl rfl, _, rfl⟩) (hb hby d1_74) (by decide) (by decide) ⟨rfl, rfl, e0⟩
            · rw [show (f1_64 p0 p2) = (f1_75 p2) from if_neg hc66]
              refine Go.step (g' := (mkF m 75 #[.val (.int p0), .val (.int p1), .val (.int p2), .val (.int ((p0 &&& (2147483647 : Int32)) % (7 : Int32))), .val (.int ((p2 &&& (15 : Int32)) - (8 : Int32)))] [])) (fun _ k => XS.icmpYes X0.here hx rfl (pc0 := 66) (pc' := 75) rfl (hb hby d1_66) rfl (feq hc66).2 (by decide) (by decide) k) ?_
              refine Go.step (g' := (mkF m 77 #[.val (.int p0), .val (.int p1), .val (.int p2), .val (.int ((p0 &&& (2147483647 : Int32)) % (7 : Int32))), .val (.int ((p2 &&& (15 : Int32)) - (8 : Int32)))] [(.int (-2147483648 : Int32))])) (fun _ k => X0.ldcI hx hown (mvT hZ (hw _ (List.mem_of_getElem? (i := 22) rfl))) rfl (hb hby d1_75) k) ?_
              refine Go.step (g' := (mkF m 79 #[.val (.int p0), .val (.int p1), .val (.int p2), .val (.int ((p0 &&& (2147483647 : Int32)) % (7 : Int32))), .val (.int ((p2 &&& (15 : Int32)) - (8 : Int32)))] [(.int ((p2 &&& (15 : Int32)) - (8 : Int32))), (.int (-2147483648 : Int32))])) (fun _ k => XS.iload X0.here hx rfl (hb hby d1_77) rfl  k) ?_
              refine Go.step (g' := (mkF m 80 #[.val (.int p0), .val (.int p1), .val (.int p2), .val (.int ((p0 &&& (2147483647 : Int32)) % (7 : Int32))), .val (.int ((p2 &&& (15 : Int32)) - (8 : Int32)))] [(.int ((-2147483648 : Int32) + ((p2 &&& (15 : Int32)) - (8 : Int32))))])) (fun _ k => XS.iadd X0.here hx rfl (hb hby d1_79) rfl k) ?_
              exact Go.retW X0 hx hlk (t := .int) Bd.returns rfl (Or.inl ⟨rfl, Or.inl rfl, _, rfl⟩) (hb hby d1_80) (by decide) (by decide) ⟨rfl, rfl, e0⟩
theorem d2_0 : decode prog_2_method_5_code 0 = .ok (.iload_n 1, 1) := by decide +kernel
theorem d2_1 : decode prog_2_method_5_code 1 = .ok (.ifCond .lt 27, 3) := by decide +kernel
theorem d2_4 : decode prog_2_method_5_code 4 = .ok (.iload_n 1, 1) := by decide +kernel
theorem d2_5 : decode prog_2_method_5_code 5 = .ok (.aload_n 0, 1) := by decide +kernel
theorem d2_6 : decode prog_2_method_5_code 6 = .ok (.getfield 29, 3) := by decide +kernel
theorem d2_9 : decode prog_2_method_5_code 9 = .ok (.if_icmp .gt 19, 3) := by decide +kernel
theorem d2_12 : decode prog_2_method_5_code 12 = .ok (.iload_n 1, 1) := by decide +kernel
theorem d2_13 : decode prog_2_method_5_code 13 = .ok (.ldc 33, 2) := by decide +kernel
theorem d2_15 : decode prog_2_method_5_code 15 = .ok (.if_icmp .lt 9, 3) := by decide +kernel
theorem d2_18 : decode prog_2_method_5_code 18 = .ok (.iload_n 1, 1) := by decide +kernel
theorem d2_19 : decode prog_2_method_5_code 19 = .ok (.ldc 34, 2) := by decide +kernel
theorem d2_21 : decode prog_2_method_5_code 21 = .ok (.if_icmp .le 7, 3) := by decide +kernel
theorem d2_24 : decode prog_2_method_5_code 24 = .ok (.iconst 1, 1) := by decide +kernel
theorem d2_25 : decode prog_2_method_5_code 25 = .ok (.goto 4, 3) := by decide +kernel
theorem d2_28 : decode prog_2_method_5_code 28 = .ok (.iconst 0, 1) := by decide +kernel
theorem d2_29 : decode prog_2_method_5_code 29 = .ok (.ireturn, 1) := by decide +kernel
theorem pn_2 : plainName "com/example/ucs_to_octets/ucstooctets/CodeSpace" = true := by first | (simp [plainName, overriddenIn]; done) | decide +kernel
theorem ef_2 (m : MethodId) (o0 : Addr) (p1 : Int32) : entryFrame m #[(.ref o0), (.int p1)] 2 = mkF m 0 #[.val (.ref o0), .val (.int p1)] [] := by first | (simp [entryFrame, mkF, argsToLocals, Value.category]; done) | rfl
def f2_29 (v29_s0 : Int32) : Int32 := (nar .boolean v29_s0)
def f2_28 : Int32 := (f2_29 (0 : Int32))
def f2_24 : Int32 := (f2_29 (1 : Int32))
def f2_18 (p1 : Int32) : Int32 := if (57343 : Int32) < p1 then f2_24 else f2_28
def f2_12 (p1 : Int32) : Int32 := if p1 < (55296 : Int32) then f2_24 else (f2_18 p1)
def f2_4 (p1 : Int32) (hi : Int32) : Int32 := if hi < p1 then f2_28 else (f2_12 p1)
def f2_0 (p1 : Int32) (hi : Int32) : Int32 := if p1 < (0 : Int32) then f2_28 else (f2_4 p1 hi)
set_option maxRecDepth 65536 in
set_option maxHeartbeats 40000000 in
theorem rm2 (l : Launch) (Z : State) (a0 : Array Value) (hw : ∀ d ∈ tables_1, d.before a0 Z = true) (ws : List Jvm.Cond) (o0 : Addr) (p1 : Int32) (hi : Int32) (h0 : Heap) (F_hi : Fld Z h0 o0 "com/example/ucs_to_octets/ucstooctets/CodeSpace" "highest" "I" (.int hi)) :
    MetFree l (⟨"com/example/ucs_to_octets/ucstooctets/CodeSpace", "contains", "(I)Z"⟩ : MethodName) (head1 (Jvm.Cond.code (⟨"com/example/ucs_to_octets/ucstooctets/CodeSpace", "contains", "(I)Z"⟩ : MethodName) prog_2_method_5_code 2 (some .boolean) :: ws) ({ frames := 0, cells := 0, slots := 0, locals := 0 } : Room)) (fun a U => a = #[(.ref o0), (.int p1)] ∧ Z.Warmed39 U.vm ∧ U.heap = h0) (fun _ _ _ _ _ => True) (fun _ U o U' => ∃ v L, o = .returned v ∧ (PureQ (.int (f2_0 p1 hi)) h0) v U'.heap L ∧ FrameEnd U o U' L ({ frames := 0, cells := 0, slots := 0, locals := 0 } : Room).cells ({ frames := 0, cells := 0, slots := 0, locals := 0 } : Room).slots) := by
  refine MetFree.of_bodySF (plainFor_of_name pn_2) hisR ?_
  intro p e s m args below meth c s₁ Bd hml0 hP hK
  obtain ⟨rfl, hZ, hh⟩ := hP
  have hx := Bd.exec
  have hby := Bd.bytes
  have hlk : meth.locks = false := BodyLoose.notSynchronized Bd
  have hml : c.maxLocals = 2 := hml0
  have hown : s.vm.findClass "com/example/ucs_to_octets/ucstooctets/CodeSpace" = some m.cls := findClass_of_methodNamed Bd.named
  have hnm := (name_of_methodNamed Bd.named Bd.method).1
  have X0 : Stand p l e ({ frames := 0, cells := 0, slots := 0, locals := 0 } : Room) s m #[(.ref o0), (.int p1)] below meth c s₁ ([] : List Loc) 0 0 := Stand.of_body Bd
  have e0 : s₁.heap = h0 := by rw [← hh, Bd.state]; rfl
  show Go p e below s 0 0 (PureQ (.int (f2_0 p1 hi)) h0) s₁ (entryFrame m #[(.ref o0), (.int p1)] 2)
  rw [ef_2 m o0 p1]
  refine Go.step (g' := (mkF m 1 #[.val (.ref o0), .val (.int p1)] [(.int p1)])) (fun _ k => XS.iloadN X0.here hx rfl (hb hby d2_0) rfl  k) ?_
  have t29 : ∀ (T_29 : State) (X_29 : Stand p l e ({ frames := 0, cells := 0, slots := 0, locals := 0 } : Room) s m #[(.ref o0), (.int p1)] below meth c T_29 ([] : List Loc) 0 0) (e_29 : T_29.heap = h0) (v29_s0 : Int32), Go p e below s 0 0 (PureQ (.int (f2_29 v29_s0)) h0) T_29 (mkF m 29 #[.val (.ref o0), .val (.int p1)] [(.int v29_s0)]) := by
    intro T_29 X_29 e_29 v29_s0
    exact Go.retN X_29 hx hlk (t := .boolean) Bd.returns (by simp) (hb hby d2_29) (by decide) (by decide) ⟨rfl, rfl, e_29⟩
  have t28 : ∀ (T_28 : State) (X_28 : Stand p l e ({ frames := 0, cells := 0, slots := 0, locals := 0 } : Room) s m #[(.ref o0), (.int p1)] below meth c T_28 ([] : List Loc) 0 0) (e_28 : T_28.heap = h0), Go p e below s 0 0 (PureQ (.int f2_28) h0) T_28 (mkF m 28 #[.val (.ref o0), .val (.int p1)] []) := by
    intro T_28 X_28 e_28
    refine Go.step (g' := (mkF m 29 #[.val (.ref o0), .val (.int p1)] [(.int (0 : Int32))])) (fun _ k => XS.iconst X_28.here hx rfl (hb hby d2_28) k) ?_
    rw [show f2_28 = (f2_29 (0 : Int32)) from rfl]
    exact t29 T_28 X_28 e_28 (0 : Int32)
  by_cases hc1 : p1 < (0 : Int32)
  · rw [show (f2_0 p1 hi) = f2_28 from if_pos hc1]
    refine Go.step (g' := (mkF m 28 #[.val (.ref o0), .val (.int p1)] [])) (fun _ k => XS.ifYes X0.here hx rfl (pc0 := 1) (pc' := 28) rfl (hb hby d2_1) rfl ((if0 _ _).trans (tlt hc1).1) (by decide) (by decide) k) ?_
    exact t28 s₁ X0 e0
  · rw [show (f2_0 p1 hi) = (f2_4 p1 hi) from if_neg hc1]
    refine Go.step (g' := (mkF m 4 #[.val (.ref o0), .val (.int p1)] [])) (fun _ k => XS.ifNo X0.here hx rfl (hb hby d2_1) rfl ((if0 _ _).trans (flt hc1).1) k) ?_
    refine Go.step (g' := (mkF m 5 #[.val (.ref o0), .val (.int p1)] [(.int p1)])) (fun _ k => XS.iloadN X0.here hx rfl (hb hby d2_4) rfl  k) ?_
    refine Go.step (g' := (mkF m 6 #[.val (.ref o0), .val (.int p1)] [(.ref o0), (.int p1)])) (fun _ k => XS.aloadN X0.here hx rfl (hb hby d2_5) rfl rfl  k) ?_
    obtain ⟨T1, X1, e1, st1⟩ := getF X0 hx hZ hown (host := "") (Or.inl (hw _ (List.mem_of_getElem? (i := 16) rfl))) Via.refl e0 F_hi (g := (mkF m 6 #[.val (.ref o0), .val (.int p1)] [(.ref o0), (.int p1)])) rfl rfl (hb hby d2_6)
    refine Go.step (g' := (mkF m 9 #[.val (.ref o0), .val (.int p1)] [(.int hi), (.int p1)])) st1 ?_
    by_cases hc9 : hi < p1
    · rw [show (f2_4 p1 hi) = f2_28 from if_pos hc9]
      refine Go.step (g' := (mkF m 28 #[.val (.ref o0), .val (.int p1)] [])) (fun _ k => XS.icmpYes X1.here hx rfl (pc0 := 9) (pc' := 28) rfl (hb hby d2_9) rfl (tlt hc9).2.2.1 (by decide) (by decide) k) ?_
      exact t28 T1 X1 e1
    · rw [show (f2_4 p1 hi) = (f2_12 p1) from if_neg hc9]
      refine Go.step (g' := (mkF m 12 #[.val (.ref o0), .val (.int p1)] [])) (fun _ k => XS.icmpNo X1.here hx rfl (hb hby d2_9) rfl (flt hc9).2.2.1 k) ?_
      refine Go.step (g' := (mkF m 13 #[.val (.ref o0), .val (.int p1)] [(.int p1)])) (fun _ k => XS.iloadN X1.here hx rfl (hb hby d2_12) rfl  k) ?_
      refine Go.step (g' := (mkF m 15 #[.val (.ref o0), .val (.int p1)] [(.int (55296 : Int32)), (.int p1)])) (fun _ k => X1.ldcI hx hown (mvT hZ (hw _ (List.mem_of_getElem? (i := 18) rfl))) rfl (hb hby d2_13) k) ?_
      have t24 : Go p e below s 0 0 (PureQ (.int f2_24) h0) T1 (mkF m 24 #[.val (.ref o0), .val (.int p1)] []) := by
        refine Go.step (g' := (mkF m 25 #[.val (.ref o0), .val (.int p1)] [(.int (1 : Int32))])) (fun _ k => XS.iconst X1.here hx rfl (hb hby d2_24) k) ?_
        refine Go.step (g' := (mkF m 29 #[.val (.ref o0), .val (.int p1)] [(.int (1 : Int32))])) (fun _ k => XS.goto X1.here hx rfl (pc0 := 25) (pc' := 29) rfl (hb hby d2_25) (by decide) (by decide) k) ?_
        rw [show f2_24 = (f2_29 (1 : Int32)) from rfl]
        exact t29 T1 X1 e1 (1 : Int32)
      by_cases hc15 : p1 < (55296 : Int32)
      · rw [show (f2_12 p1) = f2_24 from if_pos hc15]
        refine Go.step (g' := (mkF m 24 #[.val (.ref o0), .val (.int p1)] [])) (fun _ k => XS.icmpYes X1.here hx rfl (pc0 := 15) (pc' := 24) rfl (hb hby d2_15) rfl (tlt hc15).1 (by decide) (by decide) k) ?_
        exact t24 
      · rw [show (f2_12 p1) = (f2_18 p1) from if_neg hc15]
        refine Go.step (g' := (mkF m 18 #[.val (.ref o0), .val (.int p1)] [])) (fun _ k => XS.icmpNo X1.here hx rfl (hb hby d2_15) rfl (flt hc15).1 k) ?_
        refine Go.step (g' := (mkF m 19 #[.val (.ref o0), .val (.int p1)] [(.int p1)])) (fun _ k => XS.iloadN X1.here hx rfl (hb hby d2_18) rfl  k) ?_
        refine Go.step (g' := (mkF m 21 #[.val (.ref o0), .val (.int p1)] [(.int (57343 : Int32)), (.int p1)])) (fun _ k => X1.ldcI hx hown (mvT hZ (hw _ (List.mem_of_getElem? (i := 19) rfl))) rfl (hb hby d2_19) k) ?_
        by_cases hc21 : (57343 : Int32) < p1
        · rw [show (f2_18 p1) = f2_24 from if_pos hc21]
          refine Go.step (g' := (mkF m 24 #[.val (.ref o0), .val (.int p1)] [])) (fun _ k => XS.icmpNo X1.here hx rfl (hb hby d2_21) rfl (tlt hc21).2.2.2 k) ?_
          exact t24 
        · rw [show (f2_18 p1) = f2_28 from if_neg hc21]
          refine Go.step (g' := (mkF m 28 #[.val (.ref o0), .val (.int p1)] [])) (fun _ k => XS.icmpYes X1.here hx rfl (pc0 := 21) (pc' := 28) rfl (hb hby d2_21) rfl (flt hc21).2.2.2 (by decide) (by decide) k) ?_
          exact t28 T1 X1 e1
theorem pn_0 : plainName "com/example/ucs_to_octets/ucstooctets/CodeSpaceContainsPinLaw" = true := by first | (simp [plainName, overriddenIn]; done) | decide +kernel
theorem ef_0 (m : MethodId) (p0 : Int32) (p1 : Int32) (p2 : Int32) (p3 : Int32) : entryFrame m #[(.int p0), (.int p1), (.int p2), (.int p3)] maxLocals = mkF m 0 #[.val (.int p0), .val (.int p1), .val (.int p2), .val (.int p3), .unset, .unset, .unset, .unset, .unset, .unset] [] := by first | (simp [entryFrame, mkF, argsToLocals, Value.category, maxLocals]; done) | rfl
def f0_128 (v128_s0 : Int32) : Int32 := (nar .boolean v128_s0)
def f0_127 : Int32 := (f0_128 (0 : Int32))
def f0_123 : Int32 := (f0_128 (1 : Int32))
def f0_109 (p1 : Int32) (p2 : Int32) (p3 : Int32) (gh : Addr → Int32) (v27_s0 : Addr) (v109_s0 : Int32) : Int32 := if (f2_0 (f1_0 p1 p2 p3) (gh v27_s0)) = v109_s0 then f0_123 else f0_127
def f0_108 (p1 : Int32) (p2 : Int32) (p3 : Int32) (gh : Addr → Int32) (v27_s0 : Addr) : Int32 := (f0_109 p1 p2 p3 gh v27_s0 (0 : Int32))
def f0_104 (p1 : Int32) (p2 : Int32) (p3 : Int32) (gh : Addr → Int32) (v27_s0 : Addr) : Int32 := (f0_109 p1 p2 p3 gh v27_s0 (1 : Int32))
def f0_99 (p1 : Int32) (p2 : Int32) (p3 : Int32) (gh : Addr → Int32) (v27_s0 : Addr) (v92_s0 : Int32) : Int32 := if v92_s0 = (0 : Int32) then (f0_104 p1 p2 p3 gh v27_s0) else (f0_108 p1 p2 p3 gh v27_s0)
def f0_92 (p1 : Int32) (p2 : Int32) (p3 : Int32) (gh : Addr → Int32) (v27_s0 : Addr) (v73_7 : Int32) (v92_s0 : Int32) : Int32 := if v73_7 = (0 : Int32) then (f0_108 p1 p2 p3 gh v27_s0) else (f0_99 p1 p2 p3 gh v27_s0 v92_s0)
def f0_91 (p1 : Int32) (p2 : Int32) (p3 : Int32) (gh : Addr → Int32) (v27_s0 : Addr) (v73_7 : Int32) : Int32 := (f0_92 p1 p2 p3 gh v27_s0 v73_7 (0 : Int32))
def f0_87 (p1 : Int32) (p2 : Int32) (p3 : Int32) (gh : Addr → Int32) (v27_s0 : Addr) (v73_7 : Int32) : Int32 := (f0_92 p1 p2 p3 gh v27_s0 v73_7 (1 : Int32))
def f0_80 (p1 : Int32) (p2 : Int32) (p3 : Int32) (gh : Addr → Int32) (v27_s0 : Addr) (v73_7 : Int32) : Int32 := if (57343 : Int32) < (f1_0 p1 p2 p3) then (f0_91 p1 p2 p3 gh v27_s0 v73_7) else (f0_87 p1 p2 p3 gh v27_s0 v73_7)
def f0_73 (p1 : Int32) (p2 : Int32) (p3 : Int32) (gh : Addr → Int32) (v27_s0 : Addr) (v73_7 : Int32) : Int32 := if (f1_0 p1 p2 p3) < (55296 : Int32) then (f0_91 p1 p2 p3 gh v27_s0 v73_7) else (f0_80 p1 p2 p3 gh v27_s0 v73_7)
def f0_70 (p1 : Int32) (p2 : Int32) (p3 : Int32) (gh : Addr → Int32) (v27_s0 : Addr) : Int32 := (f0_73 p1 p2 p3 gh v27_s0 (1 : Int32))
def f0_65 (p1 : Int32) (p2 : Int32) (p3 : Int32) (gh : Addr → Int32) (v27_s0 : Addr) (v65_s0 : Int32) : Int32 := (f0_73 p1 p2 p3 gh v27_s0 v65_s0)
def f0_64 (p1 : Int32) (p2 : Int32) (p3 : Int32) (gh : Addr → Int32) (v27_s0 : Addr) : Int32 := (f0_65 p1 p2 p3 gh v27_s0 (0 : Int32))
def f0_60 (p1 : Int32) (p2 : Int32) (p3 : Int32) (gh : Addr → Int32) (v27_s0 : Addr) : Int32 := (f0_65 p1 p2 p3 gh v27_s0 (1 : Int32))
def f0_53 (p1 : Int32) (p2 : Int32) (p3 : Int32) (gh : Addr → Int32) (v27_s0 : Addr) : Int32 := if (1114111 : Int32) < (f1_0 p1 p2 p3) then (f0_64 p1 p2 p3 gh v27_s0) else (f0_60 p1 p2 p3 gh v27_s0)
def f0_48 (p1 : Int32) (p2 : Int32) (p3 : Int32) (gh : Addr → Int32) (v11_s0 : Int32) (v27_s0 : Addr) : Int32 := if v11_s0 = (0 : Int32) then (f0_70 p1 p2 p3 gh v27_s0) else (f0_53 p1 p2 p3 gh v27_s0)
def f0_42 (p1 : Int32) (p2 : Int32) (p3 : Int32) (gh : Addr → Int32) (v27_s0 : Addr) : Int32 := (f0_73 p1 p2 p3 gh v27_s0 (0 : Int32))
def f0_27 (p1 : Int32) (p2 : Int32) (p3 : Int32) (gh : Addr → Int32) (v11_s0 : Int32) (v27_s0 : Addr) : Int32 := if (f1_0 p1 p2 p3) < (0 : Int32) then (f0_42 p1 p2 p3 gh v27_s0) else (f0_48 p1 p2 p3 gh v11_s0 v27_s0)
def f0_24 (p1 : Int32) (p2 : Int32) (p3 : Int32) (w_LEGACY : Addr) (gh : Addr → Int32) (v11_s0 : Int32) : Int32 := (f0_27 p1 p2 p3 gh v11_s0 w_LEGACY)
def f0_18 (p1 : Int32) (p2 : Int32) (p3 : Int32) (w_UNICODE : Addr) (gh : Addr → Int32) (v11_s0 : Int32) : Int32 := (f0_27 p1 p2 p3 gh v11_s0 w_UNICODE)
def f0_11 (p1 : Int32) (p2 : Int32) (p3 : Int32) (w_UNICODE : Addr) (w_LEGACY : Addr) (gh : Addr → Int32) (v11_s0 : Int32) : Int32 := if v11_s0 = (0 : Int32) then (f0_24 p1 p2 p3 w_LEGACY gh v11_s0) else (f0_18 p1 p2 p3 w_UNICODE gh v11_s0)
def f0_10 (p1 : Int32) (p2 : Int32) (p3 : Int32) (w_UNICODE : Addr) (w_LEGACY : Addr) (gh : Addr → Int32) : Int32 := (f0_11 p1 p2 p3 w_UNICODE w_LEGACY gh (0 : Int32))
def f0_6 (p1 : Int32) (p2 : Int32) (p3 : Int32) (w_UNICODE : Addr) (w_LEGACY : Addr) (gh : Addr → Int32) : Int32 := (f0_11 p1 p2 p3 w_UNICODE w_LEGACY gh (1 : Int32))
def f0_0 (p0 : Int32) (p1 : Int32) (p2 : Int32) (p3 : Int32) (w_UNICODE : Addr) (w_LEGACY : Addr) (gh : Addr → Int32) : Int32 := if (p0 &&& (1 : Int32)) = (0 : Int32) then (f0_6 p1 p2 p3 w_UNICODE w_LEGACY gh) else (f0_10 p1 p2 p3 w_UNICODE w_LEGACY gh)
set_option maxRecDepth 65536 in
set_option maxHeartbeats 40000000 in
theorem rm0 (l : Launch) (Z : State) (a0 : Array Value) (hw : ∀ d ∈ tables_1, d.before a0 Z = true) (ws : List Jvm.Cond) (p0 : Int32) (p1 : Int32) (p2 : Int32) (p3 : Int32) (w_UNICODE : Addr) (w_LEGACY : Addr) (gh : Addr → Int32) (h0 : Heap) (S_UNICODE : Sta Z h0 "com/example/ucs_to_octets/ucstooctets/CodeSpace" "UNICODE" "Lcom/example/ucs_to_octets/ucstooctets/CodeSpace;" (.ref w_UNICODE)) (S_LEGACY : Sta Z h0 "com/example/ucs_to_octets/ucstooctets/CodeSpace" "LEGACY" "Lcom/example/ucs_to_octets/ucstooctets/CodeSpace;" (.ref w_LEGACY)) (E_UNICODE : Exa Z h0 w_UNICODE "com/example/ucs_to_octets/ucstooctets/CodeSpace") (E_LEGACY : Exa Z h0 w_LEGACY "com/example/ucs_to_octets/ucstooctets/CodeSpace") (F_UNICODE : Fld Z h0 w_UNICODE "com/example/ucs_to_octets/ucstooctets/CodeSpace" "highest" "I" (.int (gh w_UNICODE))) (F_LEGACY : Fld Z h0 w_LEGACY "com/example/ucs_to_octets/ucstooctets/CodeSpace" "highest" "I" (.int (gh w_LEGACY))) :
    MetFree l x (head1 (Jvm.Cond.code x code maxLocals ret :: ws) room_1) (fun a U => a = #[(.int p0), (.int p1), (.int p2), (.int p3)] ∧ Z.Warmed39 U.vm ∧ U.heap = h0) (fun _ _ _ _ _ => True) (fun _ U o U' => ∃ v L, o = .returned v ∧ (PureQ (.int (f0_0 p0 p1 p2 p3 w_UNICODE w_LEGACY gh)) h0) v U'.heap L ∧ FrameEnd U o U' L room_1.cells room_1.slots) := by
  refine MetFree.of_bodySF (plainFor_of_name pn_0) hisR ?_
  intro p e s m args below meth c s₁ Bd hml0 hP hK
  obtain ⟨rfl, hZ, hh⟩ := hP
  have hx := Bd.exec
  have hby := Bd.bytes
  have hlk : meth.locks = false := BodyLoose.notSynchronized Bd
  have hml : c.maxLocals = 10 := hml0
  have hown : s.vm.findClass "com/example/ucs_to_octets/ucstooctets/CodeSpaceContainsPinLaw" = some m.cls := findClass_of_methodNamed Bd.named
  have hnm := (name_of_methodNamed Bd.named Bd.method).1
  have X0 : Stand p l e room_1 s m #[(.int p0), (.int p1), (.int p2), (.int p3)] below meth c s₁ ([] : List Loc) 0 0 := Stand.of_body Bd
  have e0 : s₁.heap = h0 := by rw [← hh, Bd.state]; rfl
  show Go p e below s room_1.cells room_1.slots (PureQ (.int (f0_0 p0 p1 p2 p3 w_UNICODE w_LEGACY gh)) h0) s₁ (entryFrame m #[(.int p0), (.int p1), (.int p2), (.int p3)] maxLocals)
  rw [ef_0 m p0 p1 p2 p3]
  refine Go.step (g' := (mkF m 1 #[.val (.int p0), .val (.int p1), .val (.int p2), .val (.int p3), .unset, .unset, .unset, .unset, .unset, .unset] [(.int p0)])) (fun _ k => XS.iloadN X0.here hx rfl (hb hby at_0) rfl  k) ?_
  refine Go.step (g' := (mkF m 2 #[.val (.int p0), .val (.int p1), .val (.int p2), .val (.int p3), .unset, .unset, .unset, .unset, .unset, .unset] [(.int (1 : Int32)), (.int p0)])) (fun _ k => XS.iconst X0.here hx rfl (hb hby at_1) k) ?_
  refine Go.step (g' := (mkF m 3 #[.val (.int p0), .val (.int p1), .val (.int p2), .val (.int p3), .unset, .unset, .unset, .unset, .unset, .unset] [(.int (p0 &&& (1 : Int32)))])) (fun _ k => XS.iand X0.here hx rfl (hb hby at_2) rfl k) ?_
  have t11 : ∀ (v11_s0 : Int32), Go p e below s room_1.cells room_1.slots (PureQ (.int (f0_11 p1 p2 p3 w_UNICODE w_LEGACY gh v11_s0)) h0) s₁ (mkF m 11 #[.val (.int p0), .val (.int p1), .val (.int p2), .val (.int p3), .unset, .unset, .unset, .unset, .unset, .unset] [(.int v11_s0)]) := by
    intro v11_s0
    refine Go.step (g' := (mkF m 13 #[.val (.int p0), .val (.int p1), .val (.int p2), .val (.int p3), .val (.int v11_s0), .unset, .unset, .unset, .unset, .unset] [])) (fun _ k => XS.istore X0.here hx rfl (hb hby at_11) rfl (l' := #[.val (.int p0), .val (.int p1), .val (.int p2), .val (.int p3), .val (.int v11_s0), .unset, .unset, .unset, .unset, .unset]) rfl k) ?_
    refine Go.step (g' := (mkF m 15 #[.val (.int p0), .val (.int p1), .val (.int p2), .val (.int p3), .val (.int v11_s0), .unset, .unset, .unset, .unset, .unset] [(.int v11_s0)])) (fun _ k => XS.iload X0.here hx rfl (hb hby at_13) rfl  k) ?_
    have t27 : ∀ (T_27 : State) (X_27 : Stand p l e room_1 s m #[(.int p0), (.int p1), (.int p2), (.int p3)] below meth c T_27 ([] : List Loc) 0 0) (e_27 : T_27.heap = h0) (v27_s0 : Addr) (E27 : Exa Z h0 v27_s0 "com/example/ucs_to_octets/ucstooctets/CodeSpace") (F27 : Fld Z h0 v27_s0 "com/example/ucs_to_octets/ucstooctets/CodeSpace" "highest" "I" (.int (gh v27_s0))), Go p e below s room_1.cells room_1.slots (PureQ (.int (f0_27 p1 p2 p3 gh v11_s0 v27_s0)) h0) T_27 (mkF m 27 #[.val (.int p0), .val (.int p1), .val (.int p2), .val (.int p3), .val (.int v11_s0), .unset, .unset, .unset, .unset, .unset] [(.ref v27_s0)]) := by
      intro T_27 X_27 e_27 v27_s0 E27 F27
      refine Go.step (g' := (mkF m 29 #[.val (.int p0), .val (.int p1), .val (.int p2), .val (.int p3), .val (.int v11_s0), .val (.ref v27_s0), .unset, .unset, .unset, .unset] [])) (fun _ k => XS.astore X_27.here hx rfl (hb hby at_27) rfl rfl (l' := #[.val (.int p0), .val (.int p1), .val (.int p2), .val (.int p3), .val (.int v11_s0), .val (.ref v27_s0), .unset, .unset, .unset, .unset]) rfl k) ?_
      refine Go.step (g' := (mkF m 30 #[.val (.int p0), .val (.int p1), .val (.int p2), .val (.int p3), .val (.int v11_s0), .val (.ref v27_s0), .unset, .unset, .unset, .unset] [(.int p1)])) (fun _ k => XS.iloadN X_27.here hx rfl (hb hby at_29) rfl  k) ?_
      refine Go.step (g' := (mkF m 31 #[.val (.int p0), .val (.int p1), .val (.int p2), .val (.int p3), .val (.int v11_s0), .val (.ref v27_s0), .unset, .unset, .unset, .unset] [(.int p2), (.int p1)])) (fun _ k => XS.iloadN X_27.here hx rfl (hb hby at_30) rfl  k) ?_
      refine Go.step (g' := (mkF m 32 #[.val (.int p0), .val (.int p1), .val (.int p2), .val (.int p3), .val (.int v11_s0), .val (.ref v27_s0), .unset, .unset, .unset, .unset] [(.int p3), (.int p2), (.int p1)])) (fun _ k => XS.iloadN X_27.here hx rfl (hb hby at_31) rfl  k) ?_
      obtain ⟨_, _, ⟨T3, L3, k3, n3⟩, -, X3, ⟨Lc3, hQ3, l3, y3, z3⟩, st3⟩ := Jvm.LawKit.callS X_27 hx (y := (⟨"com/example/ucs_to_octets/ucstooctets/CodeSpaceContainsPinLaw", "pick", "(III)I"⟩ : MethodName)) hown (mvT hZ (hw _ (List.mem_of_getElem? (i := 3) rfl))) (mvT hZ (hw _ (List.mem_of_getElem? (i := 4) rfl))) (mvT hZ (hw _ (List.mem_of_getElem? (i := 5) rfl))) (mvT hZ (hw _ (List.mem_of_getElem? (i := 6) rfl))) (by decide) (backOf (W := 0) (rm1 l Z a0 hw [] p1 p2 p3 h0 ) hZ (hw _ (List.mem_of_getElem? (i := 6) rfl)) (hw _ (List.mem_of_getElem? (i := 5) rfl)) (by decide) (by decide)) (g := (mkF m 32 #[.val (.int p0), .val (.int p1), .val (.int p2), .val (.int p3), .val (.int v11_s0), .val (.ref v27_s0), .unset, .unset, .unset, .unset] [(.int p3), (.int p2), (.int p1)])) rfl (by rw [hml]; rfl) (argsL := [(.int p1), (.int p2), (.int p3)]) (rest := []) (lenOf pd_0 rfl) rfl (by show 2 * 0 + _ ≤ _; exact Nat.le_of_eq rfl) (hb hby at_32) (fun _ _ => ⟨rfl, e_27, (by decide : 0 + 0 ≤ _), (by decide : 0 + 0 ≤ _)⟩)
      dsimp only [Pt.U, Pt.locs, Pt.cells, Pt.slots] at X3 l3 y3 z3 st3 hQ3
      subst l3 y3 z3
      obtain ⟨rfl, rfl, e3⟩ := hQ3
      try rw [List.append_nil] at X3
      refine Go.step (g' := (mkF m 35 #[.val (.int p0), .val (.int p1), .val (.int p2), .val (.int p3), .val (.int v11_s0), .val (.ref v27_s0), .unset, .unset, .unset, .unset] [(.int (f1_0 p1 p2 p3))])) st3 ?_
      refine Go.step (g' := (mkF m 37 #[.val (.int p0), .val (.int p1), .val (.int p2), .val (.int p3), .val (.int v11_s0), .val (.ref v27_s0), .val (.int (f1_0 p1 p2 p3)), .unset, .unset, .unset] [])) (fun _ k => XS.istore X3.here hx rfl (hb hby at_35) rfl (l' := #[.val (.int p0), .val (.int p1), .val (.int p2), .val (.int p3), .val (.int v11_s0), .val (.ref v27_s0), .val (.int (f1_0 p1 p2 p3)), .unset, .unset, .unset]) rfl k) ?_
      refine Go.step (g' := (mkF m 39 #[.val (.int p0), .val (.int p1), .val (.int p2), .val (.int p3), .val (.int v11_s0), .val (.ref v27_s0), .val (.int (f1_0 p1 p2 p3)), .unset, .unset, .unset] [(.int (f1_0 p1 p2 p3))])) (fun _ k => XS.iload X3.here hx rfl (hb hby at_37) rfl  k) ?_
      have t73 : ∀ (v73_7 : Int32), Go p e below s room_1.cells room_1.slots (PureQ (.int (f0_73 p1 p2 p3 gh v27_s0 v73_7)) h0) T3 (mkF m 73 #[.val (.int p0), .val (.int p1), .val (.int p2), .val (.int p3), .val (.int v11_s0), .val (.ref v27_s0), .val (.int (f1_0 p1 p2 p3)), .val (.int v73_7), .unset, .unset] []) := by
        intro v73_7
        refine Go.step (g' := (mkF m 75 #[.val (.int p0), .val (.int p1), .val (.int p2), .val (.int p3), .val (.int v11_s0), .val (.ref v27_s0), .val (.int (f1_0 p1 p2 p3)), .val (.int v73_7), .unset, .unset] [(.int (f1_0 p1 p2 p3))])) (fun _ k => XS.iload X3.here hx rfl (hb hby at_73) rfl  k) ?_
        refine Go.step (g' := (mkF m 77 #[.val (.int p0), .val (.int p1), .val (.int p2), .val (.int p3), .val (.int v11_s0), .val (.ref v27_s0), .val (.int (f1_0 p1 p2 p3)), .val (.int v73_7), .unset, .unset] [(.int (55296 : Int32)), (.int (f1_0 p1 p2 p3))])) (fun _ k => X3.ldcI hx hown (mvT hZ (hw _ (List.mem_of_getElem? (i := 10) rfl))) rfl (hb hby at_75) k) ?_
        have t92 : ∀ (v92_s0 : Int32), Go p e below s room_1.cells room_1.slots (PureQ (.int (f0_92 p1 p2 p3 gh v27_s0 v73_7 v92_s0)) h0) T3 (mkF m 92 #[.val (.int p0), .val (.int p1), .val (.int p2), .val (.int p3), .val (.int v11_s0), .val (.ref v27_s0), .val (.int (f1_0 p1 p2 p3)), .val (.int v73_7), .unset, .unset] [(.int v92_s0)]) := by
          intro v92_s0
          refine Go.step (g' := (mkF m 94 #[.val (.int p0), .val (.int p1), .val (.int p2), .val (.int p3), .val (.int v11_s0), .val (.ref v27_s0), .val (.int (f1_0 p1 p2 p3)), .val (.int v73_7), .val (.int v92_s0), .unset] [])) (fun _ k => XS.istore X3.here hx rfl (hb hby at_92) rfl (l' := #[.val (.int p0), .val (.int p1), .val (.int p2), .val (.int p3), .val (.int v11_s0), .val (.ref v27_s0), .val (.int (f1_0 p1 p2 p3)), .val (.int v73_7), .val (.int v92_s0), .unset]) rfl k) ?_
          refine Go.step (g' := (mkF m 96 #[.val (.int p0), .val (.int p1), .val (.int p2), .val (.int p3), .val (.int v11_s0), .val (.ref v27_s0), .val (.int (f1_0 p1 p2 p3)), .val (.int v73_7), .val (.int v92_s0), .unset] [(.int v73_7)])) (fun _ k => XS.iload X3.here hx rfl (hb hby at_94) rfl  k) ?_
          have t109 : ∀ (v109_s0 : Int32), Go p e below s room_1.cells room_1.slots (PureQ (.int (f0_109 p1 p2 p3 gh v27_s0 v109_s0)) h0) T3 (mkF m 109 #[.val (.int p0), .val (.int p1), .val (.int p2), .val (.int p3), .val (.int v11_s0), .val (.ref v27_s0), .val (.int (f1_0 p1 p2 p3)), .val (.int v73_7), .val (.int v92_s0), .unset] [(.int v109_s0)]) := by
            intro v109_s0
            refine Go.step (g' := (mkF m 111 #[.val (.int p0), .val (.int p1), .val (.int p2), .val (.int p3), .val (.int v11_s0), .val (.ref v27_s0), .val (.int (f1_0 p1 p2 p3)), .val (.int v73_7), .val (.int v92_s0), .val (.int v109_s0)] [])) (fun _ k => XS.istore X3.here hx rfl (hb hby at_109) rfl (l' := #[.val (.int p0), .val (.int p1), .val (.int p2), .val (.int p3), .val (.int v11_s0), .val (.ref v27_s0), .val (.int (f1_0 p1 p2 p3)), .val (.int v73_7), .val (.int v92_s0), .val (.int v109_s0)]) rfl k) ?_
            refine Go.step (g' := (mkF m 113 #[.val (.int p0), .val (.int p1), .val (.int p2), .val (.int p3), .val (.int v11_s0), .val (.ref v27_s0), .val (.int (f1_0 p1 p2 p3)), .val (.int v73_7), .val (.int v92_s0), .val (.int v109_s0)] [(.ref v27_s0)])) (fun _ k => XS.aload X3.here hx rfl (hb hby at_111) rfl rfl  k) ?_
            refine Go.step (g' := (mkF m 115 #[.val (.int p0), .val (.int p1), .val (.int p2), .val (.int p3), .val (.int v11_s0), .val (.ref v27_s0), .val (.int (f1_0 p1 p2 p3)), .val (.int v73_7), .val (.int v92_s0), .val (.int v109_s0)] [(.int (f1_0 p1 p2 p3)), (.ref v27_s0)])) (fun _ k => XS.iload X3.here hx rfl (hb hby at_113) rfl  k) ?_
            obtain ⟨cq4, kq4, q4a, q4b, q4c⟩ := isOf hZ e3 E27
            obtain ⟨_, _, ⟨T4, L4, k4, n4⟩, -, X4, ⟨Lc4, hQ4, l4, y4, z4⟩, st4⟩ := X3.virtualBack hx (y := (⟨"com/example/ucs_to_octets/ucstooctets/CodeSpace", "contains", "(I)Z"⟩ : MethodName)) (z := (⟨"com/example/ucs_to_octets/ucstooctets/CodeSpace", "contains", "(I)Z"⟩ : MethodName)) hown (mvT hZ (hw _ (List.mem_of_getElem? (i := 11) rfl))) (mvT hZ (hw _ (List.mem_of_getElem? (i := 12) rfl))) (notFace_of_selects (args := #[]) (mvT hZ (hw _ (List.mem_of_getElem? (i := 14) rfl)))) (mvT hZ (hw _ (List.mem_of_getElem? (i := 14) rfl))) (mvT hZ (hw _ (List.mem_of_getElem? (i := 13) rfl))) (by decide) (backOf (W := 0) (rm2 l Z a0 hw [] v27_s0 (f1_0 p1 p2 p3) (gh v27_s0) h0 F27) hZ (hw _ (List.mem_of_getElem? (i := 15) rfl)) (hw _ (List.mem_of_getElem? (i := 1) rfl)) (by decide) (by decide)) q4a q4c (g := (mkF m 115 #[.val (.int p0), .val (.int p1), .val (.int p2), .val (.int p3), .val (.int v11_s0), .val (.ref v27_s0), .val (.int (f1_0 p1 p2 p3)), .val (.int v73_7), .val (.int v92_s0), .val (.int v109_s0)] [(.int (f1_0 p1 p2 p3)), (.ref v27_s0)])) rfl (by rw [hml]; rfl) (Steps.refl _) (argsL := [(.int (f1_0 p1 p2 p3))]) (rest := []) (lenOf pd_1 rfl) rfl (by show 2 * 0 + _ ≤ _; exact Nat.le_of_eq rfl) (hb hby at_115) (fun _ _ => ⟨rfl, e3, (by decide : 0 + 0 ≤ _), (by decide : 0 + 0 ≤ _)⟩)
            dsimp only [Pt.U, Pt.locs, Pt.cells, Pt.slots] at X4 l4 y4 z4 st4 hQ4
            subst l4 y4 z4
            obtain ⟨rfl, rfl, e4⟩ := hQ4
            try rw [List.append_nil] at X4
            refine Go.step (g' := (mkF m 118 #[.val (.int p0), .val (.int p1), .val (.int p2), .val (.int p3), .val (.int v11_s0), .val (.ref v27_s0), .val (.int (f1_0 p1 p2 p3)), .val (.int v73_7), .val (.int v92_s0), .val (.int v109_s0)] [(.int (f2_0 (f1_0 p1 p2 p3) (gh v27_s0)))])) (fun _ k => st4.trans k) ?_
            refine Go.step (g' := (mkF m 120 #[.val (.int p0), .val (.int p1), .val (.int p2), .val (.int p3), .val (.int v11_s0), .val (.ref v27_s0), .val (.int (f1_0 p1 p2 p3)), .val (.int v73_7), .val (.int v92_s0), .val (.int v109_s0)] [(.int v109_s0), (.int (f2_0 (f1_0 p1 p2 p3) (gh v27_s0)))])) (fun _ k => XS.iload X4.here hx rfl (hb hby at_118) rfl  k) ?_
            have t128 : ∀ (v128_s0 : Int32), Go p e below s room_1.cells room_1.slots (PureQ (.int (f0_128 v128_s0)) h0) T4 (mkF m 128 #[.val (.int p0), .val (.int p1), .val (.int p2), .val (.int p3), .val (.int v11_s0), .val (.ref v27_s0), .val (.int (f1_0 p1 p2 p3)), .val (.int v73_7), .val (.int v92_s0), .val (.int v109_s0)] [(.int v128_s0)]) := by
              intro v128_s0
              exact Go.retN X4 hx hlk (t := .boolean) Bd.returns (by simp) (hb hby at_128) (by decide) (by decide) ⟨rfl, rfl, e4⟩
            by_cases hc120 : (f2_0 (f1_0 p1 p2 p3) (gh v27_s0)) = v109_s0
            · rw [show (f0_109 p1 p2 p3 gh v27_s0 v109_s0) = f0_123 from if_pos hc120]
              refine Go.step (g' := (mkF m 123 #[.val (.int p0), .val (.int p1), .val (.int p2), .val (.int p3), .val (.int v11_s0), .val (.ref v27_s0), .val (.int (f1_0 p1 p2 p3)), .val (.int v73_7), .val (.int v92_s0), .val (.int v109_s0)] [])) (fun _ k => XS.icmpNo X4.here hx rfl (hb hby at_120) rfl (teq hc120).2 k) ?_
              refine Go.step (g' := (mkF m 124 #[.val (.int p0), .val (.int p1), .val (.int p2), .val (.int p3), .val (.int v11_s0), .val (.ref v27_s0), .val (.int (f1_0 p1 p2 p3)), .val (.int v73_7), .val (.int v92_s0), .val (.int v109_s0)] [(.int (1 : Int32))])) (fun _ k => XS.iconst X4.here hx rfl (hb hby at_123) k) ?_
              refine Go.step (g' := (mkF m 128 #[.val (.int p0), .val (.int p1), .val (.int p2), .val (.int p3), .val (.int v11_s0), .val (.ref v27_s0), .val (.int (f1_0 p1 p2 p3)), .val (.int v73_7), .val (.int v92_s0), .val (.int v109_s0)] [(.int (1 : Int32))])) (fun _ k => XS.goto X4.here hx rfl (pc0 := 124) (pc' := 128) rfl (hb hby at_124) (by decide) (by decide) k) ?_
              rw [show f0_123 = (f0_128 (1 : Int32)) from rfl]
              exact t128 (1 : Int32)
            · rw [show (f0_109 p1 p2 p3 gh v27_s0 v109_s0) = f0_127 from if_neg hc120]
              refine Go.step (g' := (mkF m 127 #[.val (.int p0), .val (.int p1), .val (.int p2), .val (.int p3), .val (.int v11_s0), .val (.ref v27_s0), .val (.int (f1_0 p1 p2 p3)), .val (.int v73_7), .val (.int v92_s0), .val (.int v109_s0)] [])) (fun _ k => XS.icmpYes X4.here hx rfl (pc0 := 120) (pc' := 127) rfl (hb hby at_120) rfl (feq hc120).2 (by decide) (by decide) k) ?_
              refine Go.step (g' := (mkF m 128 #[.val (.int p0), .val (.int p1), .val (.int p2), .val (.int p3), .val (.int v11_s0), .val (.ref v27_s0), .val (.int (f1_0 p1 p2 p3)), .val (.int v73_7), .val (.int v92_s0), .val (.int v109_s0)] [(.int (0 : Int32))])) (fun _ k => XS.iconst X4.here hx rfl (hb hby at_127) k) ?_
              rw [show f0_127 = (f0_128 (0 : Int32)) from rfl]
              exact t128 (0 : Int32)
          have t108 : Go p e below s room_1.cells room_1.slots (PureQ (.int (f0_108 p1 p2 p3 gh v27_s0)) h0) T3 (mkF m 108 #[.val (.int p0), .val (.int p1), .val (.int p2), .val (.int p3), .val (.int v11_s0), .val (.ref v27_s0), .val (.int (f1_0 p1 p2 p3)), .val (.int v73_7), .val (.int v92_s0), .unset] []) := by
            refine Go.step (g' := (mkF m 109 #[.val (.int p0), .val (.int p1), .val (.int p2), .val (.int p3), .val (.int v11_s0), .val (.ref v27_s0), .val (.int (f1_0 p1 p2 p3)), .val (.int v73_7), .val (.int v92_s0), .unset] [(.int (0 : Int32))])) (fun _ k => XS.iconst X3.here hx rfl (hb hby at_108) k) ?_
            rw [show (f0_108 p1 p2 p3 gh v27_s0) = (f0_109 p1 p2 p3 gh v27_s0 (0 : Int32)) from rfl]
            exact t109 (0 : Int32)
          by_cases hc96 : v73_7 = (0 : Int32)
          · rw [show (f0_92 p1 p2 p3 gh v27_s0 v73_7 v92_s0) = (f0_108 p1 p2 p3 gh v27_s0) from if_pos hc96]
            refine Go.step (g' := (mkF m 108 #[.val (.int p0), .val (.int p1), .val (.int p2), .val (.int p3), .val (.int v11_s0), .val (.ref v27_s0), .val (.int (f1_0 p1 p2 p3)), .val (.int v73_7), .val (.int v92_s0), .unset] [])) (fun _ k => XS.ifYes X3.here hx rfl (pc0 := 96) (pc' := 108) rfl (hb hby at_96) rfl ((if0 _ _).trans (teq hc96).1) (by decide) (by decide) k) ?_
            exact t108 
          · rw [show (f0_92 p1 p2 p3 gh v27_s0 v73_7 v92_s0) = (f0_99 p1 p2 p3 gh v27_s0 v92_s0) from if_neg hc96]
            refine Go.step (g' := (mkF m 99 #[.val (.int p0), .val (.int p1), .val (.int p2), .val (.int p3), .val (.int v11_s0), .val (.ref v27_s0), .val (.int (f1_0 p1 p2 p3)), .val (.int v73_7), .val (.int v92_s0), .unset] [])) (fun _ k => XS.ifNo X3.here hx rfl (hb hby at_96) rfl ((if0 _ _).trans (feq hc96).1) k) ?_
            refine Go.step (g' := (mkF m 101 #[.val (.int p0), .val (.int p1), .val (.int p2), .val (.int p3), .val (.int v11_s0), .val (.ref v27_s0), .val (.int (f1_0 p1 p2 p3)), .val (.int v73_7), .val (.int v92_s0), .unset] [(.int v92_s0)])) (fun _ k => XS.iload X3.here hx rfl (hb hby at_99) rfl  k) ?_
            by_cases hc101 : v92_s0 = (0 : Int32)
            · rw [show (f0_99 p1 p2 p3 gh v27_s0 v92_s0) = (f0_104 p1 p2 p3 gh v27_s0) from if_pos hc101]
              refine Go.step (g' := (mkF m 104 #[.val (.int p0), .val (.int p1), .val (.int p2), .val (.int p3), .val (.int v11_s0), .val (.ref v27_s0), .val (.int (f1_0 p1 p2 p3)), .val (.int v73_7), .val (.int v92_s0), .unset] [])) (fun _ k => XS.ifNo X3.here hx rfl (hb hby at_101) rfl ((if0 _ _).trans (teq hc101).2) k) ?_
              refine Go.step (g' := (mkF m 105 #[.val (.int p0), .val (.int p1), .val (.int p2), .val (.int p3), .val (.int v11_s0), .val (.ref v27_s0), .val (.int (f1_0 p1 p2 p3)), .val (.int v73_7), .val (.int v92_s0), .unset] [(.int (1 : Int32))])) (fun _ k => XS.iconst X3.here hx rfl (hb hby at_104) k) ?_
              refine Go.step (g' := (mkF m 109 #[.val (.int p0), .val (.int p1), .val (.int p2), .val (.int p3), .val (.int v11_s0), .val (.ref v27_s0), .val (.int (f1_0 p1 p2 p3)), .val (.int v73_7), .val (.int v92_s0), .unset] [(.int (1 : Int32))])) (fun _ k => XS.goto X3.here hx rfl (pc0 := 105) (pc' := 109) rfl (hb hby at_105) (by decide) (by decide) k) ?_
              rw [show (f0_104 p1 p2 p3 gh v27_s0) = (f0_109 p1 p2 p3 gh v27_s0 (1 : Int32)) from rfl]
              exact t109 (1 : Int32)
            · rw [show (f0_99 p1 p2 p3 gh v27_s0 v92_s0) = (f0_108 p1 p2 p3 gh v27_s0) from if_neg hc101]
              refine Go.step (g' := (mkF m 108 #[.val (.int p0), .val (.int p1), .val (.int p2), .val (.int p3), .val (.int v11_s0), .val (.ref v27_s0), .val (.int (f1_0 p1 p2 p3)), .val (.int v73_7), .val (.int v92_s0), .unset] [])) (fun _ k => XS.ifYes X3.here hx rfl (pc0 := 101) (pc' := 108) rfl (hb hby at_101) rfl ((if0 _ _).trans (feq hc101).2) (by decide) (by decide) k) ?_
              exact t108 
        have t91 : Go p e below s room_1.cells room_1.slots (PureQ (.int (f0_91 p1 p2 p3 gh v27_s0 v73_7)) h0) T3 (mkF m 91 #[.val (.int p0), .val (.int p1), .val (.int p2), .val (.int p3), .val (.int v11_s0), .val (.ref v27_s0), .val (.int (f1_0 p1 p2 p3)), .val (.int v73_7), .unset, .unset] []) := by
          refine Go.step (g' := (mkF m 92 #[.val (.int p0), .val (.int p1), .val (.int p2), .val (.int p3), .val (.int v11_s0), .val (.ref v27_s0), .val (.int (f1_0 p1 p2 p3)), .val (.int v73_7), .unset, .unset] [(.int (0 : Int32))])) (fun _ k => XS.iconst X3.here hx rfl (hb hby at_91) k) ?_
          rw [show (f0_91 p1 p2 p3 gh v27_s0 v73_7) = (f0_92 p1 p2 p3 gh v27_s0 v73_7 (0 : Int32)) from rfl]
          exact t92 (0 : Int32)
        by_cases hc77 : (f1_0 p1 p2 p3) < (55296 : Int32)
        · rw [show (f0_73 p1 p2 p3 gh v27_s0 v73_7) = (f0_91 p1 p2 p3 gh v27_s0 v73_7) from if_pos hc77]
          refine Go.step (g' := (mkF m 91 #[.val (.int p0), .val (.int p1), .val (.int p2), .val (.int p3), .val (.int v11_s0), .val (.ref v27_s0), .val (.int (f1_0 p1 p2 p3)), .val (.int v73_7), .unset, .unset] [])) (fun _ k => XS.icmpYes X3.here hx rfl (pc0 := 77) (pc' := 91) rfl (hb hby at_77) rfl (tlt hc77).1 (by decide) (by decide) k) ?_
          exact t91 
        · rw [show (f0_73 p1 p2 p3 gh v27_s0 v73_7) = (f0_80 p1 p2 p3 gh v27_s0 v73_7) from if_neg hc77]
          refine Go.step (g' := (mkF m 80 #[.val (.int p0), .val (.int p1), .val (.int p2), .val (.int p3), .val (.int v11_s0), .val (.ref v27_s0), .val (.int (f1_0 p1 p2 p3)), .val (.int v73_7), .unset, .unset] [])) (fun _ k => XS.icmpNo X3.here hx rfl (hb hby at_77) rfl (flt hc77).1 k) ?_
          refine Go.step (g' := (mkF m 82 #[.val (.int p0), .val (.int p1), .val (.int p2), .val (.int p3), .val (.int v11_s0), .val (.ref v27_s0), .val (.int (f1_0 p1 p2 p3)), .val (.int v73_7), .unset, .unset] [(.int (f1_0 p1 p2 p3))])) (fun _ k => XS.iload X3.here hx rfl (hb hby at_80) rfl  k) ?_
          refine Go.step (g' := (mkF m 84 #[.val (.int p0), .val (.int p1), .val (.int p2), .val (.int p3), .val (.int v11_s0), .val (.ref v27_s0), .val (.int (f1_0 p1 p2 p3)), .val (.int v73_7), .unset, .unset] [(.int (57343 : Int32)), (.int (f1_0 p1 p2 p3))])) (fun _ k => X3.ldcI hx hown (mvT hZ (hw _ (List.mem_of_getElem? (i := 8) rfl))) rfl (hb hby at_82) k) ?_
          by_cases hc84 : (57343 : Int32) < (f1_0 p1 p2 p3)
          · rw [show (f0_80 p1 p2 p3 gh v27_s0 v73_7) = (f0_91 p1 p2 p3 gh v27_s0 v73_7) from if_pos hc84]
            refine Go.step (g' := (mkF m 91 #[.val (.int p0), .val (.int p1), .val (.int p2), .val (.int p3), .val (.int v11_s0), .val (.ref v27_s0), .val (.int (f1_0 p1 p2 p3)), .val (.int v73_7), .unset, .unset] [])) (fun _ k => XS.icmpYes X3.here hx rfl (pc0 := 84) (pc' := 91) rfl (hb hby at_84) rfl (tlt hc84).2.2.1 (by decide) (by decide) k) ?_
            exact t91 
          · rw [show (f0_80 p1 p2 p3 gh v27_s0 v73_7) = (f0_87 p1 p2 p3 gh v27_s0 v73_7) from if_neg hc84]
            refine Go.step (g' := (mkF m 87 #[.val (.int p0), .val (.int p1), .val (.int p2), .val (.int p3), .val (.int v11_s0), .val (.ref v27_s0), .val (.int (f1_0 p1 p2 p3)), .val (.int v73_7), .unset, .unset] [])) (fun _ k => XS.icmpNo X3.here hx rfl (hb hby at_84) rfl (flt hc84).2.2.1 k) ?_
            refine Go.step (g' := (mkF m 88 #[.val (.int p0), .val (.int p1), .val (.int p2), .val (.int p3), .val (.int v11_s0), .val (.ref v27_s0), .val (.int (f1_0 p1 p2 p3)), .val (.int v73_7), .unset, .unset] [(.int (1 : Int32))])) (fun _ k => XS.iconst X3.here hx rfl (hb hby at_87) k) ?_
            refine Go.step (g' := (mkF m 92 #[.val (.int p0), .val (.int p1), .val (.int p2), .val (.int p3), .val (.int v11_s0), .val (.ref v27_s0), .val (.int (f1_0 p1 p2 p3)), .val (.int v73_7), .unset, .unset] [(.int (1 : Int32))])) (fun _ k => XS.goto X3.here hx rfl (pc0 := 88) (pc' := 92) rfl (hb hby at_88) (by decide) (by decide) k) ?_
            rw [show (f0_87 p1 p2 p3 gh v27_s0 v73_7) = (f0_92 p1 p2 p3 gh v27_s0 v73_7 (1 : Int32)) from rfl]
            exact t92 (1 : Int32)
      by_cases hc39 : (f1_0 p1 p2 p3) < (0 : Int32)
      · rw [show (f0_27 p1 p2 p3 gh v11_s0 v27_s0) = (f0_42 p1 p2 p3 gh v27_s0) from if_pos hc39]
        refine Go.step (g' := (mkF m 42 #[.val (.int p0), .val (.int p1), .val (.int p2), .val (.int p3), .val (.int v11_s0), .val (.ref v27_s0), .val (.int (f1_0 p1 p2 p3)), .unset, .unset, .unset] [])) (fun _ k => XS.ifNo X3.here hx rfl (hb hby at_39) rfl ((if0 _ _).trans (tlt hc39).2.1) k) ?_
        refine Go.step (g' := (mkF m 43 #[.val (.int p0), .val (.int p1), .val (.int p2), .val (.int p3), .val (.int v11_s0), .val (.ref v27_s0), .val (.int (f1_0 p1 p2 p3)), .unset, .unset, .unset] [(.int (0 : Int32))])) (fun _ k => XS.iconst X3.here hx rfl (hb hby at_42) k) ?_
        refine Go.step (g' := (mkF m 45 #[.val (.int p0), .val (.int p1), .val (.int p2), .val (.int p3), .val (.int v11_s0), .val (.ref v27_s0), .val (.int (f1_0 p1 p2 p3)), .val (.int (0 : Int32)), .unset, .unset] [])) (fun _ k => XS.istore X3.here hx rfl (hb hby at_43) rfl (l' := #[.val (.int p0), .val (.int p1), .val (.int p2), .val (.int p3), .val (.int v11_s0), .val (.ref v27_s0), .val (.int (f1_0 p1 p2 p3)), .val (.int (0 : Int32)), .unset, .unset]) rfl k) ?_
        refine Go.step (g' := (mkF m 73 #[.val (.int p0), .val (.int p1), .val (.int p2), .val (.int p3), .val (.int v11_s0), .val (.ref v27_s0), .val (.int (f1_0 p1 p2 p3)), .val (.int (0 : Int32)), .unset, .unset] [])) (fun _ k => XS.goto X3.here hx rfl (pc0 := 45) (pc' := 73) rfl (hb hby at_45) (by decide) (by decide) k) ?_
        rw [show (f0_42 p1 p2 p3 gh v27_s0) = (f0_73 p1 p2 p3 gh v27_s0 (0 : Int32)) from rfl]
        exact t73 (0 : Int32)
      · rw [show (f0_27 p1 p2 p3 gh v11_s0 v27_s0) = (f0_48 p1 p2 p3 gh v11_s0 v27_s0) from if_neg hc39]
        refine Go.step (g' := (mkF m 48 #[.val (.int p0), .val (.int p1), .val (.int p2), .val (.int p3), .val (.int v11_s0), .val (.ref v27_s0), .val (.int (f1_0 p1 p2 p3)), .unset, .unset, .unset] [])) (fun _ k => XS.ifYes X3.here hx rfl (pc0 := 39) (pc' := 48) rfl (hb hby at_39) rfl ((if0 _ _).trans (flt hc39).2.1) (by decide) (by decide) k) ?_
        refine Go.step (g' := (mkF m 50 #[.val (.int p0), .val (.int p1), .val (.int p2), .val (.int p3), .val (.int v11_s0), .val (.ref v27_s0), .val (.int (f1_0 p1 p2 p3)), .unset, .unset, .unset] [(.int v11_s0)])) (fun _ k => XS.iload X3.here hx rfl (hb hby at_48) rfl  k) ?_
        by_cases hc50 : v11_s0 = (0 : Int32)
        · rw [show (f0_48 p1 p2 p3 gh v11_s0 v27_s0) = (f0_70 p1 p2 p3 gh v27_s0) from if_pos hc50]
          refine Go.step (g' := (mkF m 70 #[.val (.int p0), .val (.int p1), .val (.int p2), .val (.int p3), .val (.int v11_s0), .val (.ref v27_s0), .val (.int (f1_0 p1 p2 p3)), .unset, .unset, .unset] [])) (fun _ k => XS.ifYes X3.here hx rfl (pc0 := 50) (pc' := 70) rfl (hb hby at_50) rfl ((if0 _ _).trans (teq hc50).1) (by decide) (by decide) k) ?_
          refine Go.step (g' := (mkF m 71 #[.val (.int p0), .val (.int p1), .val (.int p2), .val (.int p3), .val (.int v11_s0), .val (.ref v27_s0), .val (.int (f1_0 p1 p2 p3)), .unset, .unset, .unset] [(.int (1 : Int32))])) (fun _ k => XS.iconst X3.here hx rfl (hb hby at_70) k) ?_
          refine Go.step (g' := (mkF m 73 #[.val (.int p0), .val (.int p1), .val (.int p2), .val (.int p3), .val (.int v11_s0), .val (.ref v27_s0), .val (.int (f1_0 p1 p2 p3)), .val (.int (1 : Int32)), .unset, .unset] [])) (fun _ k => XS.istore X3.here hx rfl (hb hby at_71) rfl (l' := #[.val (.int p0), .val (.int p1), .val (.int p2), .val (.int p3), .val (.int v11_s0), .val (.ref v27_s0), .val (.int (f1_0 p1 p2 p3)), .val (.int (1 : Int32)), .unset, .unset]) rfl k) ?_
          rw [show (f0_70 p1 p2 p3 gh v27_s0) = (f0_73 p1 p2 p3 gh v27_s0 (1 : Int32)) from rfl]
          exact t73 (1 : Int32)
        · rw [show (f0_48 p1 p2 p3 gh v11_s0 v27_s0) = (f0_53 p1 p2 p3 gh v27_s0) from if_neg hc50]
          refine Go.step (g' := (mkF m 53 #[.val (.int p0), .val (.int p1), .val (.int p2), .val (.int p3), .val (.int v11_s0), .val (.ref v27_s0), .val (.int (f1_0 p1 p2 p3)), .unset, .unset, .unset] [])) (fun _ k => XS.ifNo X3.here hx rfl (hb hby at_50) rfl ((if0 _ _).trans (feq hc50).1) k) ?_
          refine Go.step (g' := (mkF m 55 #[.val (.int p0), .val (.int p1), .val (.int p2), .val (.int p3), .val (.int v11_s0), .val (.ref v27_s0), .val (.int (f1_0 p1 p2 p3)), .unset, .unset, .unset] [(.int (f1_0 p1 p2 p3))])) (fun _ k => XS.iload X3.here hx rfl (hb hby at_53) rfl  k) ?_
          refine Go.step (g' := (mkF m 57 #[.val (.int p0), .val (.int p1), .val (.int p2), .val (.int p3), .val (.int v11_s0), .val (.ref v27_s0), .val (.int (f1_0 p1 p2 p3)), .unset, .unset, .unset] [(.int (1114111 : Int32)), (.int (f1_0 p1 p2 p3))])) (fun _ k => X3.ldcI hx hown (mvT hZ (hw _ (List.mem_of_getElem? (i := 9) rfl))) rfl (hb hby at_55) k) ?_
          have t65 : ∀ (v65_s0 : Int32), Go p e below s room_1.cells room_1.slots (PureQ (.int (f0_65 p1 p2 p3 gh v27_s0 v65_s0)) h0) T3 (mkF m 65 #[.val (.int p0), .val (.int p1), .val (.int p2), .val (.int p3), .val (.int v11_s0), .val (.ref v27_s0), .val (.int (f1_0 p1 p2 p3)), .unset, .unset, .unset] [(.int v65_s0)]) := by
            intro v65_s0
            refine Go.step (g' := (mkF m 67 #[.val (.int p0), .val (.int p1), .val (.int p2), .val (.int p3), .val (.int v11_s0), .val (.ref v27_s0), .val (.int (f1_0 p1 p2 p3)), .val (.int v65_s0), .unset, .unset] [])) (fun _ k => XS.istore X3.here hx rfl (hb hby at_65) rfl (l' := #[.val (.int p0), .val (.int p1), .val (.int p2), .val (.int p3), .val (.int v11_s0), .val (.ref v27_s0), .val (.int (f1_0 p1 p2 p3)), .val (.int v65_s0), .unset, .unset]) rfl k) ?_
            refine Go.step (g' := (mkF m 73 #[.val (.int p0), .val (.int p1), .val (.int p2), .val (.int p3), .val (.int v11_s0), .val (.ref v27_s0), .val (.int (f1_0 p1 p2 p3)), .val (.int v65_s0), .unset, .unset] [])) (fun _ k => XS.goto X3.here hx rfl (pc0 := 67) (pc' := 73) rfl (hb hby at_67) (by decide) (by decide) k) ?_
            rw [show (f0_65 p1 p2 p3 gh v27_s0 v65_s0) = (f0_73 p1 p2 p3 gh v27_s0 v65_s0) from rfl]
            exact t73 v65_s0
          by_cases hc57 : (1114111 : Int32) < (f1_0 p1 p2 p3)
          · rw [show (f0_53 p1 p2 p3 gh v27_s0) = (f0_64 p1 p2 p3 gh v27_s0) from if_pos hc57]
            refine Go.step (g' := (mkF m 64 #[.val (.int p0), .val (.int p1), .val (.int p2), .val (.int p3), .val (.int v11_s0), .val (.ref v27_s0), .val (.int (f1_0 p1 p2 p3)), .unset, .unset, .unset] [])) (fun _ k => XS.icmpYes X3.here hx rfl (pc0 := 57) (pc' := 64) rfl (hb hby at_57) rfl (tlt hc57).2.2.1 (by decide) (by decide) k) ?_
            refine Go.step (g' := (mkF m 65 #[.val (.int p0), .val (.int p1), .val (.int p2), .val (.int p3), .val (.int v11_s0), .val (.ref v27_s0), .val (.int (f1_0 p1 p2 p3)), .unset, .unset, .unset] [(.int (0 : Int32))])) (fun _ k => XS.iconst X3.here hx rfl (hb hby at_64) k) ?_
            rw [show (f0_64 p1 p2 p3 gh v27_s0) = (f0_65 p1 p2 p3 gh v27_s0 (0 : Int32)) from rfl]
            exact t65 (0 : Int32)
          · rw [show (f0_53 p1 p2 p3 gh v27_s0) = (f0_60 p1 p2 p3 gh v27_s0) from if_neg hc57]
            refine Go.step (g' := (mkF m 60 #[.val (.int p0), .val (.int p1), .val (.int p2), .val (.int p3), .val (.int v11_s0), .val (.ref v27_s0), .val (.int (f1_0 p1 p2 p3)), .unset, .unset, .unset] [])) (fun _ k => XS.icmpNo X3.here hx rfl (hb hby at_57) rfl (flt hc57).2.2.1 k) ?_
            refine Go.step (g' := (mkF m 61 #[.val (.int p0), .val (.int p1), .val (.int p2), .val (.int p3), .val (.int v11_s0), .val (.ref v27_s0), .val (.int (f1_0 p1 p2 p3)), .unset, .unset, .unset] [(.int (1 : Int32))])) (fun _ k => XS.iconst X3.here hx rfl (hb hby at_60) k) ?_
            refine Go.step (g' := (mkF m 65 #[.val (.int p0), .val (.int p1), .val (.int p2), .val (.int p3), .val (.int v11_s0), .val (.ref v27_s0), .val (.int (f1_0 p1 p2 p3)), .unset, .unset, .unset] [(.int (1 : Int32))])) (fun _ k => XS.goto X3.here hx rfl (pc0 := 61) (pc' := 65) rfl (hb hby at_61) (by decide) (by decide) k) ?_
            rw [show (f0_60 p1 p2 p3 gh v27_s0) = (f0_65 p1 p2 p3 gh v27_s0 (1 : Int32)) from rfl]
            exact t65 (1 : Int32)
    by_cases hc15 : v11_s0 = (0 : Int32)
    · rw [show (f0_11 p1 p2 p3 w_UNICODE w_LEGACY gh v11_s0) = (f0_24 p1 p2 p3 w_LEGACY gh v11_s0) from if_pos hc15]
      refine Go.step (g' := (mkF m 24 #[.val (.int p0), .val (.int p1), .val (.int p2), .val (.int p3), .val (.int v11_s0), .unset, .unset, .unset, .unset, .unset] [])) (fun _ k => XS.ifYes X0.here hx rfl (pc0 := 15) (pc' := 24) rfl (hb hby at_15) rfl ((if0 _ _).trans (teq hc15).1) (by decide) (by decide) k) ?_
      obtain ⟨T2, X2, e2, st2⟩ := getS2 X0 hx hZ hown (host := "") (Or.inl (hw _ (List.mem_of_getElem? (i := 20) rfl))) Via.refl e0 S_LEGACY (g := (mkF m 24 #[.val (.int p0), .val (.int p1), .val (.int p2), .val (.int p3), .val (.int v11_s0), .unset, .unset, .unset, .unset, .unset] [])) rfl (hb hby at_24)
      refine Go.step (g' := (mkF m 27 #[.val (.int p0), .val (.int p1), .val (.int p2), .val (.int p3), .val (.int v11_s0), .unset, .unset, .unset, .unset, .unset] [(.ref w_LEGACY)])) st2 ?_
      rw [show (f0_24 p1 p2 p3 w_LEGACY gh v11_s0) = (f0_27 p1 p2 p3 gh v11_s0 w_LEGACY) from rfl]
      exact t27 T2 X2 e2 w_LEGACY (by assumption) (by assumption)
    · rw [show (f0_11 p1 p2 p3 w_UNICODE w_LEGACY gh v11_s0) = (f0_18 p1 p2 p3 w_UNICODE gh v11_s0) from if_neg hc15]
      refine Go.step (g' := (mkF m 18 #[.val (.int p0), .val (.int p1), .val (.int p2), .val (.int p3), .val (.int v11_s0), .unset, .unset, .unset, .unset, .unset] [])) (fun _ k => XS.ifNo X0.here hx rfl (hb hby at_15) rfl ((if0 _ _).trans (feq hc15).1) k) ?_
      obtain ⟨T1, X1, e1, st1⟩ := getS2 X0 hx hZ hown (host := "") (Or.inl (hw _ (List.mem_of_getElem? (i := 0) rfl))) Via.refl e0 S_UNICODE (g := (mkF m 18 #[.val (.int p0), .val (.int p1), .val (.int p2), .val (.int p3), .val (.int v11_s0), .unset, .unset, .unset, .unset, .unset] [])) rfl (hb hby at_18)
      refine Go.step (g' := (mkF m 21 #[.val (.int p0), .val (.int p1), .val (.int p2), .val (.int p3), .val (.int v11_s0), .unset, .unset, .unset, .unset, .unset] [(.ref w_UNICODE)])) st1 ?_
      refine Go.step (g' := (mkF m 27 #[.val (.int p0), .val (.int p1), .val (.int p2), .val (.int p3), .val (.int v11_s0), .unset, .unset, .unset, .unset, .unset] [(.ref w_UNICODE)])) (fun _ k => XS.goto X1.here hx rfl (pc0 := 21) (pc' := 27) rfl (hb hby at_21) (by decide) (by decide) k) ?_
      rw [show (f0_18 p1 p2 p3 w_UNICODE gh v11_s0) = (f0_27 p1 p2 p3 gh v11_s0 w_UNICODE) from rfl]
      exact t27 T1 X1 e1 w_UNICODE (by assumption) (by assumption)
  by_cases hc3 : (p0 &&& (1 : Int32)) = (0 : Int32)
  · rw [show (f0_0 p0 p1 p2 p3 w_UNICODE w_LEGACY gh) = (f0_6 p1 p2 p3 w_UNICODE w_LEGACY gh) from if_pos hc3]
    refine Go.step (g' := (mkF m 6 #[.val (.int p0), .val (.int p1), .val (.int p2), .val (.int p3), .unset, .unset, .unset, .unset, .unset, .unset] [])) (fun _ k => XS.ifNo X0.here hx rfl (hb hby at_3) rfl ((if0 _ _).trans (teq hc3).2) k) ?_
    refine Go.step (g' := (mkF m 7 #[.val (.int p0), .val (.int p1), .val (.int p2), .val (.int p3), .unset, .unset, .unset, .unset, .unset, .unset] [(.int (1 : Int32))])) (fun _ k => XS.iconst X0.here hx rfl (hb hby at_6) k) ?_
    refine Go.step (g' := (mkF m 11 #[.val (.int p0), .val (.int p1), .val (.int p2), .val (.int p3), .unset, .unset, .unset, .unset, .unset, .unset] [(.int (1 : Int32))])) (fun _ k => XS.goto X0.here hx rfl (pc0 := 7) (pc' := 11) rfl (hb hby at_7) (by decide) (by decide) k) ?_
    rw [show (f0_6 p1 p2 p3 w_UNICODE w_LEGACY gh) = (f0_11 p1 p2 p3 w_UNICODE w_LEGACY gh (1 : Int32)) from rfl]
    exact t11 (1 : Int32)
  · rw [show (f0_0 p0 p1 p2 p3 w_UNICODE w_LEGACY gh) = (f0_10 p1 p2 p3 w_UNICODE w_LEGACY gh) from if_neg hc3]
    refine Go.step (g' := (mkF m 10 #[.val (.int p0), .val (.int p1), .val (.int p2), .val (.int p3), .unset, .unset, .unset, .unset, .unset, .unset] [])) (fun _ k => XS.ifYes X0.here hx rfl (pc0 := 3) (pc' := 10) rfl (hb hby at_3) rfl ((if0 _ _).trans (feq hc3).2) (by decide) (by decide) k) ?_
    refine Go.step (g' := (mkF m 11 #[.val (.int p0), .val (.int p1), .val (.int p2), .val (.int p3), .unset, .unset, .unset, .unset, .unset, .unset] [(.int (0 : Int32))])) (fun _ k => XS.iconst X0.here hx rfl (hb hby at_10) k) ?_
    rw [show (f0_10 p1 p2 p3 w_UNICODE w_LEGACY gh) = (f0_11 p1 p2 p3 w_UNICODE w_LEGACY gh (0 : Int32)) from rfl]
    exact t11 (0 : Int32)
theorem law_eq (kd sel raw off : Int32) (w_UNICODE w_LEGACY : Addr) (gh : Addr → Int32) (hU : gh w_UNICODE = 1114111) (hL : gh w_LEGACY = 2147483647) : (f0_0 kd sel raw off w_UNICODE w_LEGACY gh) = 1 := by
  have n1 : nar .boolean 1 = 1 := by decide
  have n0 : nar .boolean 0 = 0 := by decide
  simp only [f2_29, f2_28, f2_24, f2_18, f2_12, f2_4, f2_0, f0_128, f0_127, f0_123, f0_109, f0_108, f0_104, f0_99, f0_92, f0_91, f0_87, f0_80, f0_73, f0_70, f0_65, f0_64, f0_60, f0_53, f0_48, f0_42, f0_27, f0_24, f0_18, f0_11, f0_10, f0_6, f0_0]
  generalize f1_0 sel raw off = v
  have hm : ¬ (2147483647 : Int32) < v := by
    have q : (2147483647 : Int32).toInt = 2147483647 := by decide
    have r := rng32 v
    rw [Int32.lt_iff_toInt_lt, q]; omega
  by_cases hk : kd &&& 1 = 0 <;> by_cases h1 : v < 0 <;> by_cases h2 : 1114111 < v <;> by_cases h3 : v < 55296 <;> by_cases h4 : 57343 < v <;> simp [hk, h1, h2, h3, h4, hU, hL, hm, n1, n0]
set_option maxRecDepth 65536 in
set_option maxHeartbeats 40000000 in
theorem comes_1 {Post : Tables → Env → Array Value → State → Outcome → State → Prop} (hpost : ∀ tb e args s v u, (limb_1_1.after args s (.returned v) u = true ∧ limb_1_2.after args s (.returned v) u = true) → FrameEnd s (.returned v) u (Jvm.fieldLocs frame_1_writes args s ++ Jvm.arrayLocs frame_1_arrays args s ++ Jvm.staticLocs frame_1_statics s) 0 0 → Post tb e args s (.returned v) u) :
    ArmFor flags0 classFile x code maxLocals ret World_1 tables_1 room_1 Calls_1 rest_1 Pre_1 Post := by
  intro l hfl _ _ p e ha hc hk s m args below hf hA hF happ hP
  obtain ⟨hcalls, hrest, hpre⟩ := hP
  obtain ⟨-, -, -, hnamed, -, -, -, hat⟩ := (Spec.applies_iff hf).mp happ
  obtain ⟨hg, hn⟩ := and_e (Cond.before_iff.mp (show (Jvm.Cond.and given_1 narrow_1).before args s = true from hpre))
  obtain ⟨gc, hg⟩ := and_e hg
  obtain ⟨g0, hg⟩ := and_e hg
  obtain ⟨g1, hg⟩ := and_e hg
  obtain ⟨g2, hg⟩ := and_e hg
  have g3 := hg
  obtain ⟨w0, w1, w2, w3, rfl⟩ : ∃ w0 w1 w2 w3 : Value, args = #[w0, w1, w2, w3] := by
    have hs : args.size = 4 := by simpa [Cond.value, given_1] using gc
    obtain ⟨L⟩ := args
    match L, hs with
    | [w0, w1, w2, w3], _ => exact ⟨w0, w1, w2, w3, rfl⟩
  have hw := fun d (hd : d ∈ tables_1) => atoms_spec (ws := Jvm.Cond.code x code maxLocals ret :: tables_1) hat d (List.mem_cons_of_mem _ hd)
  have hfit : Fit s := fun {y c} hc i hi => by
    obtain ⟨ha, rfl⟩ := Array.getElem?_eq_some_iff.mp hc
    have q := List.all_eq_true.mp ((Array.all_eq_true_iff_forall_mem.mp hF) _ (Array.getElem_mem ha)) i (List.mem_range.mpr hi)
    simpa [Array.getElem?_eq_getElem hi] using q
  obtain ⟨i0, ei0⟩ := is_v g0
  obtain rfl : w0 = (.int i0) := Option.some.inj ei0
  obtain ⟨i1, ei1⟩ := is_v g1
  obtain rfl : w1 = (.int i1) := Option.some.inj ei1
  obtain ⟨i2, ei2⟩ := is_v g2
  obtain rfl : w2 = (.int i2) := Option.some.inj ei2
  obtain ⟨i3, ei3⟩ := is_v g3
  obtain rfl : w3 = (.int i3) := Option.some.inj ei3
  obtain ⟨na0, nb0⟩ := and_e hn
  obtain ⟨na1, nb1⟩ := and_e nb0
  obtain ⟨na2, nb2⟩ := and_e nb1
  obtain ⟨w_UNICODE, ev_UNICODE⟩ := exa_v na0
  have E_UNICODE : Exa s s.heap w_UNICODE "com/example/ucs_to_octets/ucstooctets/CodeSpace" := Exa.start ev_UNICODE na0
  have S_UNICODE : Sta s s.heap "com/example/ucs_to_octets/ucstooctets/CodeSpace" "UNICODE" "Lcom/example/ucs_to_octets/ucstooctets/CodeSpace;" (.ref w_UNICODE) := Sta.start ev_UNICODE (Or.inr ⟨(hw _ (List.mem_of_getElem? (i := 1) rfl)), (hw _ (List.mem_of_getElem? (i := 2) rfl))⟩)
  obtain ⟨w_LEGACY, ev_LEGACY⟩ := exa_v na2
  have E_LEGACY : Exa s s.heap w_LEGACY "com/example/ucs_to_octets/ucstooctets/CodeSpace" := Exa.start ev_LEGACY na2
  have S_LEGACY : Sta s s.heap "com/example/ucs_to_octets/ucstooctets/CodeSpace" "LEGACY" "Lcom/example/ucs_to_octets/ucstooctets/CodeSpace;" (.ref w_LEGACY) := Sta.start ev_LEGACY (Or.inr ⟨(hw _ (List.mem_of_getElem? (i := 1) rfl)), (hw _ (List.mem_of_getElem? (i := 21) rfl))⟩)
  have O_UNICODE := own_ord ev_UNICODE na1
  have F_UNICODE : Fld s s.heap w_UNICODE "com/example/ucs_to_octets/ucstooctets/CodeSpace" "highest" "I" (.int (own_gh s w_UNICODE)) := Fld.start (by rw [own_gh_of O_UNICODE]; exact O_UNICODE)
  have O_LEGACY := own_ord ev_LEGACY nb2
  have F_LEGACY : Fld s s.heap w_LEGACY "com/example/ucs_to_octets/ucstooctets/CodeSpace" "highest" "I" (.int (own_gh s w_LEGACY)) := Fld.start (by rw [own_gh_of O_LEGACY]; exact O_LEGACY)
  obtain ⟨n, o, h1, h2, h3, v, L, rfl, hQ, hq⟩ := rm0 l s _ hw tables_1 i0 i1 i2 i3 w_UNICODE w_LEGACY (own_gh s) s.heap  S_UNICODE S_LEGACY E_UNICODE E_LEGACY F_UNICODE F_LEGACY p e ha hc hk s m _ below hf ((Spec.applies_iff_loose hf).mp happ).1 ⟨rfl, State.Warmed39.refl s, rfl⟩ trivial
  obtain ⟨rfl, rfl, -⟩ := hQ
  rw [law_eq _ _ _ _ w_UNICODE w_LEGACY (own_gh s) (own_gh_of O_UNICODE) (own_gh_of O_LEGACY)] at *
  refine ⟨n, _, h1, h2, h3, hpost _ _ _ _ _ _ ⟨Cond.after_iff.mpr rfl, Cond.after_iff.mpr (eq_i res_at (Term.int_eval (1)) rfl)⟩ ⟨hq.1, hq.2.1, (hq.2.2.sift fun y hy => nomatch hy).mono (by decide) (by decide)⟩⟩
theorem main_1_1 : Claimed_1_1 := comes_1 fun _ _ _ _ _ _ h hF => ⟨h.1, hF⟩
theorem main_1_2 : Claimed_1_2 := comes_1 fun _ _ _ _ _ _ h hF => ⟨h.2, hF⟩
end Jvm.Pilot.@@N@@
namespace Jvm.Pilot.@@N@@
open Jvm Jvm.ClassFile Sem Op Lib Jvm.Free Jvm.Stand Jvm.Pilot.@@N@@.Jvm.D
/-! MADE BY PROGRAM (witnessworld.py) out of the Statement's table words and the real class files: 12 classes; the members and pool entries that the words name. The judged class is class 1, her method 2. -/
namespace start1
open Jvm.ClassFile
def u (s : String) : CpInfo := .utf8 (stringToUtf16 s)
/-- a pool by its gaps: so many unusable entries, then the entry; so many at the end -/
def gap : Nat → List CpInfo → List CpInfo
  | 0, r => r
  | n + 1, r => .unusable :: gap n r
def poolList (es : List (Nat × CpInfo)) (last : Nat) : List CpInfo := es.foldr (fun e r => gap e.1 (e.2 :: r)) (gap last [])
def pool (es : List (Nat × CpInfo)) (last : Nat) : Array CpInfo := ⟨poolList es last⟩
def fileOf (pool : Array CpInfo) (this : Nat) (attrs : Array Attribute := #[]) (ms : Array MethodInfo := #[]) (fl : Nat := 33) (sup : Nat := 0) (ifs : Array Nat := #[]) (fds : Array FieldInfo := #[]) : ClassFile where
  minorVersion := 0
  majorVersion := 65
  constantPool := pool
  accessFlags := fl
  thisClass := this
  superClass := sup
  interfaces := ifs
  fields := fds
  methods := ms
  attributes := attrs
def plain (name : String) (sup : Option ClassId) : Class where
  name := name
  kind := .ordinary
  loader := none
  accessFlags := 33
  super := sup
  interfaces := #[]
  cf := none
  fields := #[]
  methods := #[]
  instanceTypes := #[]
  staticTypes := #[]
  resolved := #[]
  callSites := []
  init := .initialized
  statics := none
  mirror := none

def pool0 : Array CpInfo := pool [(5, u "<init>"), (0, u "()V"), (1, .class_ 10), (1, u "java/lang/Object")] 113

def k0m0 : Method := { name := "<init>", desc := "()V", sig := { parameters := [], returnType := none }, accessFlags := 1, code := none }
/-- java/lang/Object -/
def k0 : Class := { plain "java/lang/Object" none with
  accessFlags := 33
  interfaces := #[]
  cf := some (fileOf pool0 8 #[] #[{ accessFlags := 1, nameIndex := 5, descriptorIndex := 6, attributes := #[] }] 33 0 #[] #[])
  fields := #[]
  methods := #[k0m0]
  instanceTypes := #[]
  staticTypes := #[]
  resolved := Array.replicate 124 none
  statics := none }

def pool1 : Array CpInfo := pool [(2, .class_ 4), (1, u "java/lang/Object"), (0, u "<init>"), (0, u "()V"), (0, .integer 2147483647), (0, .integer 55296), (0, .integer 57343), (0, .integer 1114111), (2, .integer 2147483648), (0, .fieldref 15 16), (0, .class_ 17), (0, .nameAndType 18 19), (0, u "com/example/ucs_to_octets/ucstooctets/CodeSpace"), (0, u "UNICODE"), (0, u "Lcom/example/ucs_to_octets/ucstooctets/CodeSpace;"), (0, .fieldref 15 21), (0, .nameAndType 22 19), (0, u "LEGACY"), (0, .methodref 24 25), (0, .class_ 26), (0, .nameAndType 27 28), (0, u "com/example/ucs_to_octets/ucstooctets/CodeSpaceContainsPinLaw"), (0, u "pick"), (0, u "(III)I"), (0, .methodref 15 30), (0, .nameAndType 31 32), (0, u "contains"), (0, u "(I)Z"), (3, u "law"), (0, u "(IIII)Z")] 2

def k1m0 : Method := { name := "<init>", desc := "()V", sig := { parameters := [], returnType := none }, accessFlags := 2, code := none }
def k1c1 : Code := { maxStack := 2, maxLocals := 5, code := method_2_code, exceptionTable := #[], attributes := #[] }
def k1m1 : Method := { name := "pick", desc := "(III)I", sig := { parameters := [.int, .int, .int], returnType := some .int }, accessFlags := 10, code := some k1c1 }
def k1c2 : Code := { maxStack := 3, maxLocals := 10, code := code, exceptionTable := #[], attributes := #[] }
def k1m2 : Method := { name := "law", desc := "(IIII)Z", sig := { parameters := [.int, .int, .int, .int], returnType := some .boolean }, accessFlags := 9, code := some k1c2 }
/-- com/example/ucs_to_octets/ucstooctets/CodeSpaceContainsPinLaw -/
def k1 : Class := { plain "com/example/ucs_to_octets/ucstooctets/CodeSpaceContainsPinLaw" (some 0) with
  accessFlags := 49
  interfaces := #[]
  cf := some (fileOf pool1 24 #[] #[{ accessFlags := 2, nameIndex := 5, descriptorIndex := 6, attributes := #[] }, { accessFlags := 10, nameIndex := 27, descriptorIndex := 28, attributes := #[] }, { accessFlags := 9, nameIndex := 36, descriptorIndex := 37, attributes := #[] }] 49 2 #[] #[])
  fields := #[]
  methods := #[k1m0, k1m1, k1m2]
  instanceTypes := #[]
  staticTypes := #[]
  resolved := Array.replicate 40 none
  statics := none }

def pool2 : Array CpInfo := pool [(1, .class_ 2), (0, u "java/lang/constant/Constable"), (0, .class_ 4), (0, u "java/lang/Object")] 6

/-- java/lang/constant/Constable -/
def k2 : Class := { plain "java/lang/constant/Constable" (some 0) with
  accessFlags := 1537
  interfaces := #[]
  cf := some (fileOf pool2 1 #[] #[] 1537 3 #[] #[])
  fields := #[]
  methods := #[]
  instanceTypes := #[]
  staticTypes := #[]
  resolved := Array.replicate 11 none
  statics := none }

def pool3 : Array CpInfo := pool [(1, .class_ 2), (0, u "java/lang/Comparable"), (0, .class_ 4), (0, u "java/lang/Object")] 7

/-- java/lang/Comparable -/
def k3 : Class := { plain "java/lang/Comparable" (some 0) with
  accessFlags := 1537
  interfaces := #[]
  cf := some (fileOf pool3 1 #[] #[] 1537 3 #[] #[])
  fields := #[]
  methods := #[]
  instanceTypes := #[]
  staticTypes := #[]
  resolved := Array.replicate 12 none
  statics := none }

def pool4 : Array CpInfo := pool [(1, .class_ 2), (0, u "java/io/Serializable"), (0, .class_ 4), (0, u "java/lang/Object")] 2

/-- java/io/Serializable -/
def k4 : Class := { plain "java/io/Serializable" (some 0) with
  accessFlags := 1537
  interfaces := #[]
  cf := some (fileOf pool4 1 #[] #[] 1537 3 #[] #[])
  fields := #[]
  methods := #[]
  instanceTypes := #[]
  staticTypes := #[]
  resolved := Array.replicate 7 none
  statics := none }

def pool5 : Array CpInfo := pool [(2, .class_ 4), (1, u "java/lang/Enum"), (0, u "name"), (0, u "Ljava/lang/String;"), (2, u "ordinal"), (0, u "I"), (1, .class_ 14), (1, u "java/lang/Object"), (4, u "hash"), (86, .class_ 108), (1, u "java/lang/Enum$EnumDesc"), (2, .class_ 112), (0, u "java/lang/constant/Constable"), (0, .class_ 114), (0, u "java/lang/Comparable"), (0, .class_ 116), (0, u "java/io/Serializable")] 87

/-- java/lang/Enum -/
def k5 : Class := { plain "java/lang/Enum" (some 0) with
  accessFlags := 1057
  interfaces := #[2, 3, 4]
  cf := some (fileOf pool5 2 #[.nestMembers #[106]] #[] 1057 12 #[111, 113, 115] #[{ accessFlags := 18, nameIndex := 5, descriptorIndex := 6, attributes := #[] }, { accessFlags := 18, nameIndex := 9, descriptorIndex := 10, attributes := #[] }, { accessFlags := 2, nameIndex := 19, descriptorIndex := 10, attributes := #[] }])
  fields := #[{ name := "name", type := (.object "java/lang/String"), accessFlags := 18, slot := 0, constantValue := 0 }, { name := "ordinal", type := .int, accessFlags := 18, slot := 1, constantValue := 0 }, { name := "hash", type := .int, accessFlags := 2, slot := 2, constantValue := 0 }]
  methods := #[]
  instanceTypes := #[(.object "java/lang/String"), .int, .int]
  staticTypes := #[]
  resolved := Array.replicate 204 none
  statics := none }

def pool6 : Array CpInfo := pool [(1, .class_ 2), (0, u "com/example/ucs_to_octets/ucstooctets/CodeSpace"), (2, u "UNICODE"), (0, u "Lcom/example/ucs_to_octets/ucstooctets/CodeSpace;"), (2, u "LEGACY"), (2, u "$VALUES"), (0, u "[Lcom/example/ucs_to_octets/ucstooctets/CodeSpace;"), (6, .class_ 22), (1, u "java/lang/Enum"), (6, .fieldref 1 30), (0, .nameAndType 31 32), (0, u "highest"), (0, u "I"), (0, .integer 55296), (0, .integer 57343), (11, u "MIN_SURROGATE"), (1, u "MAX_SURROGATE"), (8, u "contains"), (0, u "(I)Z")] 6

def k6c0 : Code := { maxStack := 2, maxLocals := 2, code := prog_2_method_5_code, exceptionTable := #[], attributes := #[] }
def k6m0 : Method := { name := "contains", desc := "(I)Z", sig := { parameters := [.int], returnType := some .boolean }, accessFlags := 1, code := some k6c0 }
/-- com/example/ucs_to_octets/ucstooctets/CodeSpace -/
def k6 : Class := { plain "com/example/ucs_to_octets/ucstooctets/CodeSpace" (some 5) with
  accessFlags := 16433
  interfaces := #[]
  cf := some (fileOf pool6 1 #[] #[{ accessFlags := 1, nameIndex := 57, descriptorIndex := 58, attributes := #[] }] 16433 20 #[] #[{ accessFlags := 16409, nameIndex := 5, descriptorIndex := 6, attributes := #[] }, { accessFlags := 16409, nameIndex := 9, descriptorIndex := 6, attributes := #[] }, { accessFlags := 26, nameIndex := 46, descriptorIndex := 32, attributes := #[] }, { accessFlags := 26, nameIndex := 48, descriptorIndex := 32, attributes := #[] }, { accessFlags := 18, nameIndex := 31, descriptorIndex := 32, attributes := #[] }, { accessFlags := 4122, nameIndex := 12, descriptorIndex := 13, attributes := #[] }])
  fields := #[{ name := "UNICODE", type := (.object "com/example/ucs_to_octets/ucstooctets/CodeSpace"), accessFlags := 16409, slot := 0, constantValue := 0 }, { name := "LEGACY", type := (.object "com/example/ucs_to_octets/ucstooctets/CodeSpace"), accessFlags := 16409, slot := 1, constantValue := 0 }, { name := "MIN_SURROGATE", type := .int, accessFlags := 26, slot := 2, constantValue := 0 }, { name := "MAX_SURROGATE", type := .int, accessFlags := 26, slot := 3, constantValue := 0 }, { name := "highest", type := .int, accessFlags := 18, slot := 3, constantValue := 0 }, { name := "$VALUES", type := (.array (.object "com/example/ucs_to_octets/ucstooctets/CodeSpace")), accessFlags := 4122, slot := 4, constantValue := 0 }]
  methods := #[k6m0]
  instanceTypes := #[(.object "java/lang/String"), .int, .int, .int]
  staticTypes := #[(.object "com/example/ucs_to_octets/ucstooctets/CodeSpace"), (.object "com/example/ucs_to_octets/ucstooctets/CodeSpace"), .int, .int, (.array (.object "com/example/ucs_to_octets/ucstooctets/CodeSpace"))]
  resolved := Array.replicate 65 none
  statics := some 0 }

def pool7 : Array CpInfo := pool [(1, u "java/lang/Cloneable"), (0, .class_ 1), (0, u "java/lang/Object"), (0, .class_ 3)] 3

/-- java/lang/Cloneable -/
def k7 : Class := { plain "java/lang/Cloneable" (some 0) with
  accessFlags := 1537
  interfaces := #[]
  cf := some (fileOf pool7 2 #[] #[] 1537 4 #[] #[])
  fields := #[]
  methods := #[]
  instanceTypes := #[]
  staticTypes := #[]
  resolved := Array.replicate 8 none
  statics := none }

/-- the primitive byte -/
def k8 : Class := { plain "byte" none with kind := .primitive 'B', accessFlags := 0x411 }
/-- [B -/
def k9 : Class := { plain "[B" (some 0) with kind := .array 8 .byte, interfaces := #[7, 4], accessFlags := 1041 }

/-- the primitive int -/
def k10 : Class := { plain "int" none with kind := .primitive 'I', accessFlags := 0x411 }
/-- [I -/
def k11 : Class := { plain "[I" (some 0) with kind := .array 10 .int, interfaces := #[7, 4], accessFlags := 1041 }

def heap : Heap := #[{ cls := 6, slots := #[.ref 1, .ref 2, .int 0, .int 0, .null], vm := .statics 6 },
  { cls := 6, slots := #[.null, .int 0, .int 0, .int 1114111], vm := .none },
  { cls := 6, slots := #[.null, .int 1, .int 0, .int 2147483647], vm := .none }]
def classes : Array Class := #[k0, k1, k2, k3, k4, k5, k6, k7, k8, k9, k10, k11]
def interned : List (Array UInt16 × Addr) := []
def slotsUsed : Nat := 13
def theMethod : MethodId := ⟨1, 2⟩
def args0 : Array Value := #[.int 0, .int 1, .int 65, .int 9]
def aboutOver (below : List Frame) : State where
  vm := { classes := classes, interned := interned.toArray }
  heap := heap
  slotsUsed := slotsUsed
  threads := #[{ frames := .invoking theMethod args0 :: below }]
def below0 : List Frame := [.native { method := ⟨0, 0⟩, args := #[] }]
def about1 : State := aboutOver below0
def p0 : Program := .bare "" "" ""
def e0 : Env := launch0.env 0 0 0
theorem w_frames : about1.frames = Frame.invoking theMethod args0 :: below0 := rfl
set_option maxRecDepth 65536 in
theorem w_args : argsFit about1.vm theMethod args0 = true := by decide +kernel
set_option maxRecDepth 65536 in
theorem w_heap : heapFits about1 = true := by decide +kernel
set_option maxRecDepth 65536 in
theorem w_runnable : about1.curStatus? = some .runnable := by decide +kernel
set_option maxRecDepth 65536 in
theorem w_alone : about1.alone = true := by decide +kernel
set_option maxRecDepth 65536 in
theorem w_named : about1.methodNamed? x = some theMethod := by decide +kernel
set_option maxRecDepth 65536 in
theorem w_hears : about1.hears theMethod below0 = true := by decide +kernel
set_option maxRecDepth 65536 in
theorem w_ripe : about1.ripe theMethod args0 below0 = true := by decide +kernel
theorem w_running : about1.status = .running := rfl
set_option maxRecDepth 65536 in
theorem w_room : about1.hasRoom e0.platform room_1 = true :=
  launch0.hasRoom_least _ room_1 (by decide +kernel) (by decide +kernel) (by decide +kernel) (by decide +kernel) (by decide +kernel) (by decide +kernel)
theorem allAtoms_all (ts : List Jvm.Cond) (a : Array Jvm.Value) (st : Jvm.State) : (allAtoms ts).before a st = ts.all (fun c => c.before a st) := by
  induction ts with
  | nil => rfl
  | cons c t ih =>
    show (Jvm.Cond.and c (allAtoms t)).before a st = _
    rw [Jvm.Cond.before_and, ih, List.all_cons]
def words1 : List Jvm.Cond := Jvm.Cond.code x code maxLocals ret :: tables_1
/-- a 'code' word, met by the world's own term for the bytes: nothing is compared byte by byte -/
theorem code_word {y : MethodName} {bytes : ByteArray} {mx : Nat} {rt : Option FieldType} {a : Array Value} {s : State} {m : MethodId} {meth : Method} {c : Code} (h1 : s.methodNamed? y = some m) (h2 : s.vm.method? m = some meth) (h3 : meth.code = some c) (h4 : c.code = bytes)
    (h5 : (c.maxLocals == mx && c.exceptionTable.isEmpty && decide (c.maxStack ≤ mostOperands) && decide (meth.sig.returnType = rt) && !meth.locks && decide (parseMethodDescriptor y.desc = some meth.sig)) = true) : (Jvm.Cond.code y bytes mx rt).before a s = true := by
  simp only [Bool.and_eq_true, beq_iff_eq, Bool.not_eq_true', decide_eq_true_eq] at h5
  obtain ⟨⟨⟨⟨⟨g1, g2⟩, g3⟩, g4⟩, g5⟩, g6⟩ := h5
  simp [Cond.before, Cond.holds, Cond.value, h1, h2, h3, h4, g1, g2, g3, g4, g5, g6]
def isCode : Jvm.Cond → Bool
  | .code _ _ _ _ => true
  | _ => false
theorem all_split {L : List Jvm.Cond} {P : Jvm.Cond → Bool} (h1 : L.all (fun c => isCode c || P c) = true) (h2 : ∀ c ∈ L.filter isCode, P c = true) : L.all P = true := by
  refine List.all_eq_true.mpr fun c hc => ?_
  have h := List.all_eq_true.mp h1 c hc
  rcases Bool.eq_false_or_eq_true (isCode c) with hi | hi
  · exact h2 c (List.mem_filter.mpr ⟨hc, hi⟩)
  · simpa [hi] using h
set_option maxRecDepth 65536 in
theorem w_c0 : (Jvm.Cond.code x code maxLocals ret).before args0 about1 = true := code_word (m := ⟨1, 2⟩) (meth := k1m2) (c := k1c2) (by decide +kernel) rfl rfl rfl (by decide +kernel)
set_option maxRecDepth 65536 in
theorem w_c1 : (Jvm.Cond.code ({ cls := "com/example/ucs_to_octets/ucstooctets/CodeSpaceContainsPinLaw", name := "pick", desc := "(III)I" } : Jvm.MethodName) method_2_code (5 : Nat) (Option.some Jvm.ClassFile.FieldType.int)).before args0 about1 = true := code_word (m := ⟨1, 1⟩) (meth := k1m1) (c := k1c1) (by decide +kernel) rfl rfl rfl (by decide +kernel)
set_option maxRecDepth 65536 in
theorem w_c2 : (Jvm.Cond.code ({ cls := "com/example/ucs_to_octets/ucstooctets/CodeSpace", name := "contains", desc := "(I)Z" } : Jvm.MethodName) prog_2_method_5_code (2 : Nat) (Option.some Jvm.ClassFile.FieldType.boolean)).before args0 about1 = true := code_word (m := ⟨6, 0⟩) (meth := k6m0) (c := k6c0) (by decide +kernel) rfl rfl rfl (by decide +kernel)
def codes1 : List Jvm.Cond := [Jvm.Cond.code x code maxLocals ret, Jvm.Cond.code ({ cls := "com/example/ucs_to_octets/ucstooctets/CodeSpaceContainsPinLaw", name := "pick", desc := "(III)I" } : Jvm.MethodName) method_2_code (5 : Nat) (Option.some Jvm.ClassFile.FieldType.int), Jvm.Cond.code ({ cls := "com/example/ucs_to_octets/ucstooctets/CodeSpace", name := "contains", desc := "(I)Z" } : Jvm.MethodName) prog_2_method_5_code (2 : Nat) (Option.some Jvm.ClassFile.FieldType.boolean)]
set_option maxRecDepth 65536 in
theorem codes_eq : words1.filter isCode = codes1 := rfl
theorem w_codes : ∀ c ∈ words1.filter isCode, c.before args0 about1 = true := by
  rw [codes_eq]
  intro c hc
  simp only [codes1, List.mem_cons, List.not_mem_nil, or_false] at hc
  rcases hc with rfl | rfl | rfl
  · exact w_c0
  · exact w_c1
  · exact w_c2
set_option maxRecDepth 65536 in
theorem w_t1 : words1.all (fun c => isCode c || c.before args0 about1) = true := by decide +kernel
theorem w_tables : (allAtoms (Jvm.Cond.code x code maxLocals ret :: tables_1)).before args0 about1 = true := by
  rw [allAtoms_all]
  show words1.all (fun c => c.before args0 about1) = true
  refine all_split ?_ w_codes
  rw [w_t1]
set_option maxRecDepth 65536 in
theorem w_case : (Jvm.Cond.and given_1 narrow_1).before args0 about1 = true := by decide +kernel
theorem w_applies : (headSpec (Jvm.Cond.code x code maxLocals ret :: tables_1) room_1).applies x e0.platform about1 = true :=
  (Spec.applies_iff w_frames).mpr ⟨w_running, w_runnable, w_alone, w_named, w_hears, w_ripe, w_room, w_tables⟩
theorem atStart : AtStart classFile x code maxLocals ret World_1 tables_1 room_1 Calls_1 rest_1 Pre_1 launch0 p0 e0 about1 theMethod args0 below0 :=
  ⟨lists_1, trivial, launch0.admits_env _ _ _, launch0.least_env, fairChoices_fair.cas, fairChoices_fair.clock, w_frames, w_args, w_heap, w_applies, trivial, trivial, w_case⟩
end start1
theorem witness_1 : WitnessClaimed_1 := ⟨start1.p0, start1.e0, start1.about1, start1.theMethod, start1.args0, start1.below0, start1.atStart⟩
end Jvm.Pilot.@@N@@
