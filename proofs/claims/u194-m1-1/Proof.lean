import JvmDerived
import JvmDerived.Pilot.@@N@@Statement
import JvmDerived.Pilot.@@N@@Code
set_option linter.unusedVariables false
set_option linter.unusedSimpArgs false
namespace Jvm.Pilot.@@N@@
open Jvm Jvm.ClassFile Sem Op Lib Jvm.Free Jvm.Stand Jvm.LawKit Jvm.RoadKit Bundle Jvm.Pilot.@@N@@.Jvm.D
/-! from a frame on, the body comes to its end as Q says -/
section OwnKit
variable {p : Program} {l : Launch} {e : Env} {R : Room} {s : State} {m : MethodId} {args : Array Value} {below : List Frame} {meth : Method} {c : Code} {T T' : State} {locs : List Loc} {cells slots C D : Nat} {Q Q' : Option Value → Heap → List Loc → Prop} {g g' : JFrame}
def Go (p : Program) (e : Env) (below : List Frame) (s : State) (C D : Nat) (Q : Option Value → Heap → List Loc → Prop) (T : State) (g : JFrame) : Prop :=
  ∃ u o, Steps p.tables e below (T.setTop g) u ∧ u.status = .running ∧ Ended u below o ∧ ∃ v L, o = .returned v ∧ Q v u.heap L ∧ FrameEnd s o u L C D
def PureQ (r : Value) (h0 : Heap) (v : Option Value) (h : Heap) (L : List Loc) : Prop := v = some r ∧ L = [] ∧ h = h0
theorem Go.step (k : ∀ t, Steps p.tables e below (T'.setTop g') t → Steps p.tables e below (T.setTop g) t) (h : Go p e below s C D Q T' g') : Go p e below s C D Q T g := by
  obtain ⟨u, o, h1, r⟩ := h
  exact ⟨u, o, k _ h1, r⟩
theorem Go.mono (h : Go p e below s C D Q T g) (q : ∀ v h L, Q v h L → Q' v h L) : Go p e below s C D Q' T g := by
  obtain ⟨u, o, h1, h2, h3, v, L, h4, h5, h6⟩ := h
  exact ⟨u, o, h1, h2, h3, v, L, h4, q _ _ _ h5, h6⟩
theorem Go.retN (X : Stand p l e R s m args below meth c T locs cells slots) (hx : p.tables.exec = Jvm.exec) (hlk : meth.locks = false) {pc : Nat} {Ls : Array Slot} {z : Int32} {t : FieldType} {rest : List Value} (hret : meth.sig.returnType = some t) (ht : t = .boolean ∨ t = .byte ∨ t = .char ∨ t = .short)
    (hd : decode c.code pc = .ok (.ireturn, 1)) (hC : cells ≤ C) (hD : slots ≤ D) (hq : Q (some (.int (nar t z))) T.heap locs) : Go p e below s C D Q T (mkF m pc Ls (.int z :: rest)) := by
  obtain ⟨fs, hr, hrun, hended, hW, hsame⟩ := X.leave (v := some (.int (nar t z))) (fun h => by rw [hret] at h; cases h) hlk
  exact ⟨_, _, Jvm.RoadKit.retN X hx hret ht hd hr, hrun, hended, _, _, rfl, hq, ⟨_, rfl⟩, hW, hsame.mono hC hD⟩
theorem Go.retW (X : Stand p l e R s m args below meth c T locs cells slots) (hx : p.tables.exec = Jvm.exec) (hlk : meth.locks = false) {pc : Nat} {Ls : Array Slot} {w : Value} {t : FieldType} {i : Instr} {rest : List Value} (hret : meth.sig.returnType = some t) (hn : narrow t w = w)
    (hi : (i = .ireturn ∧ (t = .int ∨ t = .boolean ∨ t = .byte ∨ t = .char ∨ t = .short) ∧ ∃ z, w = .int z) ∨ (i = .lreturn ∧ t = .long ∧ ∃ z, w = .long z) ∨ (i = .dreturn ∧ t = .double ∧ ∃ z, w = .double z) ∨ (i = .freturn ∧ t = .float ∧ ∃ z, w = .float z) ∨ (i = .areturn ∧ t.isReference = true ∧ w.isRef = true))
    (hd : decode c.code pc = .ok (i, 1)) (hC : cells ≤ C) (hD : slots ≤ D) (hq : Q (some w) T.heap locs) : Go p e below s C D Q T (mkF m pc Ls (w :: rest)) := by
  obtain ⟨fs, hr, hrun, hended, hW, hsame⟩ := X.leave (v := some w) (fun h => by rw [hret] at h; cases h) hlk
  exact ⟨_, _, retOut X hx hret hn hi hd hr, hrun, hended, _, _, rfl, hq, ⟨_, rfl⟩, hW, hsame.mono hC hD⟩
theorem Go.ret0 (X : Stand p l e R s m args below meth c T locs cells slots) (hx : p.tables.exec = Jvm.exec) (hlk : meth.locks = false) {pc : Nat} {Ls : Array Slot} (hret : meth.sig.returnType = none)
    (hd : decode c.code pc = .ok (.return_, 1)) (hC : cells ≤ C) (hD : slots ≤ D) (hq : Q none T.heap locs) : Go p e below s C D Q T (mkF m pc Ls []) := by
  obtain ⟨fs, hr, hrun, hended, hW, hsame⟩ := X.leave (v := none) (fun _ => rfl) hlk
  exact ⟨_, _, X.returnOut hx hret hd hr, hrun, hended, _, _, rfl, hq, ⟨_, rfl⟩, hW, hsame.mono hC hD⟩
end OwnKit
theorem pd_0 : parseMethodDescriptor "(JDD)V" = some ⟨[.long, .double, .double], none⟩ := by decide +kernel
theorem pd_1 : parseMethodDescriptor "()V" = some ⟨[], none⟩ := by decide +kernel
theorem pd_2 : parseMethodDescriptor "(D)V" = some ⟨[.double], none⟩ := by decide +kernel
theorem pd_3 : parseMethodDescriptor "()Lcom/example/laelaps/laelaps/testbed/ScoreMoments;" = some ⟨[], some (.object "com/example/laelaps/laelaps/testbed/ScoreMoments")⟩ := by decide +kernel
theorem pd_4 : parseMethodDescriptor "()J" = some ⟨[], some .long⟩ := by decide +kernel
theorem pd_5 : parseMethodDescriptor "()D" = some ⟨[], some .double⟩ := by decide +kernel
section OwnHeap
variable {p : Program} {l : Launch} {e : Env} {R : Room} {s : State} {m : MethodId} {args : Array Value} {below : List Frame} {meth : Method} {c : Code} {T : State} {locs : List Loc} {cells slots n0 : Nat}
variable {Z : State} {h h' : Heap} {a b : Addr} {ty : FieldType} {n sl : Nat} {f : Nat → Value} {v : Value} {ws : List Addr} {j : Int32} {gf : JFrame} {rest : List Value}
def IA (Z : State) (h : Heap) (a : Addr) (ty : FieldType) (n : Nat) (f : Nat → Value) : Prop := ∃ c : Cell, Arr Z h a c ty ∧ c.slots.size = n ∧ ∀ k, k < n → c.slots[k]? = some (f k)
def upd {α : Type} (g : Nat → α) (j : Nat) (v : α) (k : Nat) : α := if k = j then v else g k
theorem IA.lt (F : IA Z h a ty n f) : a < h.size := by obtain ⟨c, A, -⟩ := F; exact A.lt
theorem IA.ext (F : IA Z h a ty n f) (E : Ext h h') : IA Z h' a ty n f := by obtain ⟨c, A, r⟩ := F; exact ⟨c, A.ext E, r⟩
theorem IA.other (F : IA Z h b ty n f) (W : Wr h h' a sl v) (q : b ≠ a) : IA Z h' b ty n f := by obtain ⟨c, A, r⟩ := F; exact ⟨c, A.other W q, r⟩
theorem IA.keep (F : IA Z h a ty n f) (K : Keep h h' ws) (q : a ∉ ws) : IA Z h' a ty n f := by obtain ⟨c, A, r⟩ := F; exact ⟨c, ⟨K.2.1 a c A.1 q, A.2⟩, r⟩
theorem IA.of_new {k : ClassId} {z : Int32} (A : Arr Z h a (newA k ty z) ty) (hn : z.toNatClampNeg = n) : IA Z h a ty n (fun _ => defaultValue ty) :=
  ⟨_, A, (sz_new _ _ _).trans hn, fun i hi => by subst hn; simp [newA, hi]⟩
theorem IA.set {c : Cell} {F : Nat → Value} (A : Arr Z h a c ty) (S : c.slots.size = n) (H : ∀ k, k < n → c.slots[k]? = some (F k)) (hj : ¬ (j < 0 ∨ n ≤ j.toNatClampNeg)) (W : Wr h h' a j.toNatClampNeg v) : IA Z h' a ty n (upd F j.toNatClampNeg v) := by
  refine ⟨_, A.same W, (sz_set _ _ _).trans S, fun k hk => ?_⟩
  by_cases q : k = j.toNatClampNeg
  · subst q; simp [Cell.setSlot, upd, S, hk]
  · simp only [Cell.setSlot, upd, if_neg q]
    rw [Array.getElem?_setIfInBounds_ne (Ne.symm q)]; exact H k hk
theorem IA.cong {f' : Nat → Value} (F : IA Z h a ty n f) (q : ∀ k, k < n → f k = f' k) : IA Z h a ty n f' := by
  obtain ⟨c, A, S, H⟩ := F; exact ⟨c, A, S, fun k hk => by rw [H k hk, q k hk]⟩
theorem own_pack (X : Stand p l e R s m args below meth c T locs cells slots) (N : Fr n0 locs) : ∃ lc, Stand p l e R s m args below meth c T lc cells slots ∧ Fr n0 lc := ⟨_, X, N⟩
theorem own_more {C D : Nat} (X : Stand p l e R s m args below meth c T locs cells slots) (hC : cells ≤ C) (hD : slots ≤ D) : Stand p l e R s m args below meth c T locs C D := X.more hC hD
theorem putAI {g : Nat → Int32} {x : Int32} (X : Stand p l e R s m args below meth c T locs cells slots) (hx : p.tables.exec = Jvm.exec) (hZ : Z.Warmed39 s.vm) (eT : T.heap = h) (F : IA Z h a .int n (fun k => .int (g k))) (hj : ¬ (j < 0 ∨ n ≤ j.toNatClampNeg)) (N : Fr n0 locs) (ha : n0 ≤ a) (hg : gf.method = m) (hs : gf.stack = .int x :: .int j :: .ref a :: rest) (hd : decode c.code gf.pc = .ok (.iastore, 1)) :
    ∃ T' h' lc, Stand p l e R s m args below meth c T' lc cells slots ∧ T'.heap = h' ∧ Wr h h' a j.toNatClampNeg (.int x) ∧ Fr n0 lc ∧ IA Z h' a .int n (fun k => .int (upd g j.toNatClampNeg x k)) ∧ ∀ target, Steps p.tables e below (T'.setTop { gf with pc := gf.pc + 1, stack := rest }) target → Steps p.tables e below (T.setTop gf) target := by
  obtain ⟨cl, A, S, H⟩ := F
  obtain ⟨T', h', X', e', W, st⟩ := stI X hx hZ eT A (j := j) (x := x) (by rw [S]; exact hj) hg hs hd
  exact ⟨T', h', _, X', e', W, Fr.snoc X' N ha, (IA.set A S H hj W).cong fun k _ => by simp only [upd]; split <;> rfl, st⟩
theorem putAJ {g : Nat → Int64} {x : Int64} (X : Stand p l e R s m args below meth c T locs cells slots) (hx : p.tables.exec = Jvm.exec) (hZ : Z.Warmed39 s.vm) (eT : T.heap = h) (F : IA Z h a .long n (fun k => .long (g k))) (hj : ¬ (j < 0 ∨ n ≤ j.toNatClampNeg)) (N : Fr n0 locs) (ha : n0 ≤ a) (hg : gf.method = m) (hs : gf.stack = .long x :: .int j :: .ref a :: rest) (hd : decode c.code gf.pc = .ok (.lastore, 1)) :
    ∃ T' h' lc, Stand p l e R s m args below meth c T' lc cells slots ∧ T'.heap = h' ∧ Wr h h' a j.toNatClampNeg (.long x) ∧ Fr n0 lc ∧ IA Z h' a .long n (fun k => .long (upd g j.toNatClampNeg x k)) ∧ ∀ target, Steps p.tables e below (T'.setTop { gf with pc := gf.pc + 1, stack := rest }) target → Steps p.tables e below (T.setTop gf) target := by
  obtain ⟨cl, A, S, H⟩ := F
  obtain ⟨T', h', X', e', W, st⟩ := stJ X hx hZ eT A (j := j) (x := x) (by rw [S]; exact hj) hg hs hd
  exact ⟨T', h', _, X', e', W, Fr.snoc X' N ha, (IA.set A S H hj W).cong fun k _ => by simp only [upd]; split <;> rfl, st⟩
theorem putAC {g : Nat → Int32} {x : Int32} (X : Stand p l e R s m args below meth c T locs cells slots) (hx : p.tables.exec = Jvm.exec) (hZ : Z.Warmed39 s.vm) (eT : T.heap = h) (F : IA Z h a .char n (fun k => .int (g k))) (hj : ¬ (j < 0 ∨ n ≤ j.toNatClampNeg)) (N : Fr n0 locs) (ha : n0 ≤ a) (hg : gf.method = m) (hs : gf.stack = .int x :: .int j :: .ref a :: rest) (hd : decode c.code gf.pc = .ok (.castore, 1)) :
    ∃ T' h' lc, Stand p l e R s m args below meth c T' lc cells slots ∧ T'.heap = h' ∧ Wr h h' a j.toNatClampNeg (.int (nar .char x)) ∧ Fr n0 lc ∧ IA Z h' a .char n (fun k => .int (upd g j.toNatClampNeg (nar .char x) k)) ∧ ∀ target, Steps p.tables e below (T'.setTop { gf with pc := gf.pc + 1, stack := rest }) target → Steps p.tables e below (T.setTop gf) target := by
  obtain ⟨cl, A, S, H⟩ := F
  obtain ⟨T', h', X', e', W, st⟩ := stC X hx hZ eT A (j := j) (x := x) (by rw [S]; exact hj) hg hs hd
  exact ⟨T', h', _, X', e', W, Fr.snoc X' N ha, (IA.set A S H hj W).cong fun k _ => by simp only [upd]; split <;> rfl, st⟩
theorem putAB {g : Nat → Int32} {x : Int32} (X : Stand p l e R s m args below meth c T locs cells slots) (hx : p.tables.exec = Jvm.exec) (hZ : Z.Warmed39 s.vm) (eT : T.heap = h) (F : IA Z h a .byte n (fun k => .int (g k))) (hj : ¬ (j < 0 ∨ n ≤ j.toNatClampNeg)) (N : Fr n0 locs) (ha : n0 ≤ a) (hg : gf.method = m) (hs : gf.stack = .int x :: .int j :: .ref a :: rest) (hd : decode c.code gf.pc = .ok (.bastore, 1)) :
    ∃ T' h' lc, Stand p l e R s m args below meth c T' lc cells slots ∧ T'.heap = h' ∧ Wr h h' a j.toNatClampNeg (.int (nar .byte x)) ∧ Fr n0 lc ∧ IA Z h' a .byte n (fun k => .int (upd g j.toNatClampNeg (nar .byte x) k)) ∧ ∀ target, Steps p.tables e below (T'.setTop { gf with pc := gf.pc + 1, stack := rest }) target → Steps p.tables e below (T.setTop gf) target := by
  obtain ⟨cl, A, S, H⟩ := F
  obtain ⟨T', h', X', e', W, st⟩ := stB X hx hZ eT A (j := j) (x := x) (by rw [S]; exact hj) hg hs hd
  exact ⟨T', h', _, X', e', W, Fr.snoc X' N ha, (IA.set A S H hj W).cong fun k _ => by simp only [upd]; split <;> rfl, st⟩
theorem putAD {g : Nat → UInt64} {x : UInt64} (X : Stand p l e R s m args below meth c T locs cells slots) (hx : p.tables.exec = Jvm.exec) (hZ : Z.Warmed39 s.vm) (eT : T.heap = h) (F : IA Z h a .double n (fun k => .double (g k))) (hj : ¬ (j < 0 ∨ n ≤ j.toNatClampNeg)) (N : Fr n0 locs) (ha : n0 ≤ a) (hg : gf.method = m) (hs : gf.stack = .double x :: .int j :: .ref a :: rest) (hd : decode c.code gf.pc = .ok (.dastore, 1)) :
    ∃ T' h' lc, Stand p l e R s m args below meth c T' lc cells slots ∧ T'.heap = h' ∧ Wr h h' a j.toNatClampNeg (.double x) ∧ Fr n0 lc ∧ IA Z h' a .double n (fun k => .double (upd g j.toNatClampNeg x k)) ∧ ∀ target, Steps p.tables e below (T'.setTop { gf with pc := gf.pc + 1, stack := rest }) target → Steps p.tables e below (T.setTop gf) target := by
  obtain ⟨cl, A, S, H⟩ := F
  have hj' : ¬ (j < 0 ∨ cl.slots.size ≤ j.toNatClampNeg) := by rw [S]; exact hj
  obtain ⟨X', st⟩ := X.dastore hx (x := x) (by rw [eT]; exact A.1) (State.isArrayOf_alike hZ.alike A.2.1) A.2.2 hj' hg hs hd
  have W : Wr h (T.setCell a (cl.setSlot j.toNatClampNeg (.double x))).heap a j.toNatClampNeg (.double x) := ⟨cl, A.1, A.plain, Nat.lt_of_not_le fun q => hj' (Or.inr q), by rw [← eT]; rfl⟩
  exact ⟨_, _, _, X', rfl, W, Fr.snoc X' N ha, (IA.set A S H hj W).cong fun k _ => by simp only [upd]; split <;> rfl, st⟩
theorem getAI {g : Nat → Int32} {t : State} (X : Stand p l e R s m args below meth c T locs cells slots) (hx : p.tables.exec = Jvm.exec) (hZ : Z.Warmed39 s.vm) (eT : T.heap = h) (F : IA Z h a .int n (fun k => .int (g k))) (hj : ¬ (j < 0 ∨ n ≤ j.toNatClampNeg)) (hg : gf.method = m) (hs : gf.stack = .int j :: .ref a :: rest) (hd : decode c.code gf.pc = .ok (.iaload, 1))
    (hr : Steps p.tables e below (T.setTop { gf with pc := gf.pc + 1, stack := .int (g j.toNatClampNeg) :: rest }) t) : Steps p.tables e below (T.setTop gf) t := by
  obtain ⟨cl, A, S, H⟩ := F
  exact X.iaload hx (by rw [eT]; exact A.1) (State.isArrayOf_alike hZ.alike A.2.1) A.2.2 (by rw [S]; exact hj) (H _ (Nat.lt_of_not_le fun q => hj (Or.inr q))) hg hs hd _ hr
theorem getAJ {g : Nat → Int64} {t : State} (X : Stand p l e R s m args below meth c T locs cells slots) (hx : p.tables.exec = Jvm.exec) (hZ : Z.Warmed39 s.vm) (eT : T.heap = h) (F : IA Z h a .long n (fun k => .long (g k))) (hj : ¬ (j < 0 ∨ n ≤ j.toNatClampNeg)) (hg : gf.method = m) (hs : gf.stack = .int j :: .ref a :: rest) (hd : decode c.code gf.pc = .ok (.laload, 1))
    (hr : Steps p.tables e below (T.setTop { gf with pc := gf.pc + 1, stack := .long (g j.toNatClampNeg) :: rest }) t) : Steps p.tables e below (T.setTop gf) t := by
  obtain ⟨cl, A, S, H⟩ := F
  exact X.laload hx (by rw [eT]; exact A.1) (State.isArrayOf_alike hZ.alike A.2.1) A.2.2 (by rw [S]; exact hj) (H _ (Nat.lt_of_not_le fun q => hj (Or.inr q))) hg hs hd _ hr
theorem getAC {g : Nat → Int32} {t : State} (X : Stand p l e R s m args below meth c T locs cells slots) (hx : p.tables.exec = Jvm.exec) (hZ : Z.Warmed39 s.vm) (eT : T.heap = h) (F : IA Z h a .char n (fun k => .int (g k))) (hj : ¬ (j < 0 ∨ n ≤ j.toNatClampNeg)) (hg : gf.method = m) (hs : gf.stack = .int j :: .ref a :: rest) (hd : decode c.code gf.pc = .ok (.caload, 1))
    (hr : Steps p.tables e below (T.setTop { gf with pc := gf.pc + 1, stack := .int (g j.toNatClampNeg) :: rest }) t) : Steps p.tables e below (T.setTop gf) t := by
  obtain ⟨cl, A, S, H⟩ := F
  exact X.caload hx (by rw [eT]; exact A.1) (State.isArrayOf_alike hZ.alike A.2.1) A.2.2 (by rw [S]; exact hj) (H _ (Nat.lt_of_not_le fun q => hj (Or.inr q))) hg hs hd _ hr
theorem getAB {g : Nat → Int32} {t : State} (X : Stand p l e R s m args below meth c T locs cells slots) (hx : p.tables.exec = Jvm.exec) (hZ : Z.Warmed39 s.vm) (eT : T.heap = h) (F : IA Z h a .byte n (fun k => .int (g k))) (hj : ¬ (j < 0 ∨ n ≤ j.toNatClampNeg)) (hg : gf.method = m) (hs : gf.stack = .int j :: .ref a :: rest) (hd : decode c.code gf.pc = .ok (.baload, 1))
    (hr : Steps p.tables e below (T.setTop { gf with pc := gf.pc + 1, stack := .int (g j.toNatClampNeg) :: rest }) t) : Steps p.tables e below (T.setTop gf) t := by
  obtain ⟨cl, A, S, H⟩ := F
  exact X.baloadBytes hx (by rw [eT]; exact A.1) (State.isArrayOf_alike hZ.alike A.2.1) A.2.2 (by rw [S]; exact hj) (H _ (Nat.lt_of_not_le fun q => hj (Or.inr q))) hg hs hd _ hr
theorem getAD {g : Nat → UInt64} {t : State} (X : Stand p l e R s m args below meth c T locs cells slots) (hx : p.tables.exec = Jvm.exec) (hZ : Z.Warmed39 s.vm) (eT : T.heap = h) (F : IA Z h a .double n (fun k => .double (g k))) (hj : ¬ (j < 0 ∨ n ≤ j.toNatClampNeg)) (hg : gf.method = m) (hs : gf.stack = .int j :: .ref a :: rest) (hd : decode c.code gf.pc = .ok (.daload, 1))
    (hr : Steps p.tables e below (T.setTop { gf with pc := gf.pc + 1, stack := .double (g j.toNatClampNeg) :: rest }) t) : Steps p.tables e below (T.setTop gf) t := by
  obtain ⟨cl, A, S, H⟩ := F
  exact X.daload hx (by rw [eT]; exact A.1) (State.isArrayOf_alike hZ.alike A.2.1) A.2.2 (by rw [S]; exact hj) (H _ (Nat.lt_of_not_le fun q => hj (Or.inr q))) hg hs hd _ hr
theorem getLen {t : State} {z : Int32} (X : Stand p l e R s m args below meth c T locs cells slots) (hx : p.tables.exec = Jvm.exec) (hZ : Z.Warmed39 s.vm) (eT : T.heap = h) (F : IA Z h a ty n f) (hz : n.toInt32 = z) (hg : gf.method = m) (hs : gf.stack = .ref a :: rest) (hd : decode c.code gf.pc = .ok (.arraylength, 1))
    (hr : Steps p.tables e below (T.setTop { gf with pc := gf.pc + 1, stack := .int z :: rest }) t) : Steps p.tables e below (T.setTop gf) t := by
  obtain ⟨cl, A, S, H⟩ := F
  exact X.arraylength hx (by rw [eT]; exact A.1) (State.isArrayOf_alike hZ.alike A.2.1) hg hs hd _ (by rw [S, hz]; exact hr)
end OwnHeap
def LawQ (r : Option Value) (n0 : Nat) (v : Option Value) (h : Heap) (L : List Loc) : Prop := v = r ∧ Fr n0 L
theorem Sta_keep0 {Z : State} {h h' : Heap} {C n d : String} {v : Value} (F : Sta Z h C n d v) (K : Keep h h' []) : Sta Z h' C n d v := by
  obtain ⟨cf, i, k, f, st, cell, h1, h2, h3, h4, h5, r⟩ := F
  exact ⟨cf, i, k, f, st, cell, h1, h2, h3, h4, K.2.1 _ _ h5 nin0, r⟩
section OwnDy
open Jvm.FP.Core
/-- x is the number k / 2^18 -/
def Dy (x : UInt64) (k : Int) : Prop := ∃ s c q, val64 x = .fin s c q ∧ zval b64 (.fin s c q) = k * (2 ^ 1056 : Nat)
theorem own_p : (2 : Nat) ^ b64.p = 9007199254740992 := by decide +kernel
theorem own_qmin : b64.qmin = -1074 := by decide
theorem own_qmax : (0 : Int) ≤ b64.qmax := by decide +kernel
theorem own_V (k : Int) (hk : k.natAbs < 9007199254740992) : ∃ s c q, Jvm.FP.Core.fits b64 (.fin s c q) ∧ zval b64 (.fin s c q) = k * (2 ^ 1056 : Nat) := by
  obtain ⟨c', q', h1, h2⟩ := round_exact good_b64 (decide (k < 0)) (c := k.natAbs) (q := -18) (by rw [own_p]; exact hk) (by rw [own_qmin]; decide) (Int.le_trans (by decide) own_qmax)
  refine ⟨_, c', q', h1 ▸ round_fits good_b64 _, ?_⟩
  show signed (decide (k < 0)) (inUnits c' q' b64.qmin) = _
  rw [h2, own_qmin]
  unfold inUnits
  rw [show ((-18 : Int) - -1074).toNat = 1056 from by decide]
  generalize 2 ^ 1056 = P
  unfold signed
  by_cases h : k < 0
  · simp only [h, decide_true, if_true]; rw [Int.natCast_mul, ← Int.neg_mul]; congr 1; omega
  · simp only [h, decide_false, Bool.false_eq_true, if_false]; rw [Int.natCast_mul]; congr 1; omega
theorem own_notinf {s : Bool} {k : Int} (hk : k.natAbs < 9007199254740992) (h : zval b64 (.inf s) = k * (2 ^ 1056 : Nat)) : False := by
  have e : (zval b64 (.inf s)).natAbs = b64.tails * 2 ^ (b64.exps - 2) := by
    show (signed s _).natAbs = _
    cases s
    · exact Int.natAbs_natCast _
    · exact (Int.natAbs_neg _).trans (Int.natAbs_natCast _)
  rw [h, Int.natAbs_mul, Int.natAbs_natCast] at e
  have l : k.natAbs * 2 ^ 1056 < 9007199254740992 * 2 ^ 1056 := Nat.mul_lt_mul_of_pos_right hk (Nat.two_pow_pos _)
  rw [e] at l
  exact absurd l (by decide +kernel)
theorem own_rd {x : UInt64} {sg : Bool} {n : Nat} {e e0 k : Int} (hx : val64 x = round b64 (.fin sg n e)) (h0 : e0 ≤ b64.qmin) (h0e : e0 ≤ e) (hk : k.natAbs < 9007199254740992) (h : signed sg (inUnits n e e0) = k * (2 ^ 1056 : Nat) * ((2 ^ (b64.qmin - e0).toNat : Nat) : Int)) : Dy x k := by
  obtain ⟨s, c, q, hf, hz⟩ := own_V k hk
  have h1 := zval_round_le good_b64 (s := sg) (c := n) (q := e) (V := .fin s c q) hf (by intro q; cases q) h0 h0e (by rw [hz, h]; exact Int.le_refl _)
  have h2 := zval_round_ge good_b64 (s := sg) (c := n) (q := e) (V := .fin s c q) hf (by intro q; cases q) h0 h0e (by rw [hz, h]; exact Int.le_refl _)
  have h3 : zval b64 (val64 x) = k * (2 ^ 1056 : Nat) := by rw [hx]; rw [hz] at h1 h2; exact Int.le_antisymm h1 h2
  cases hv : val64 x with
  | nan => rw [hx] at hv; exact absurd hv (roundRatio_ne_nan _ _ _ _ _)
  | inf s => rw [hv] at h3; exact (own_notinf hk h3).elim
  | fin s c q => rw [hv] at h3; exact ⟨s, c, q, hv, h3⟩
theorem Dy.add {x y : UInt64} {a b k : Int} (hx : Dy x a) (hy : Dy y b) (e : a + b = k) (hk : k.natAbs < 9007199254740992) : Dy (FP.dadd x y) k := by
  obtain ⟨s, c, q, h1, z1⟩ := hx
  obtain ⟨t, d, r, h2, z2⟩ := hy
  obtain ⟨sg, n, e', h3, h4, h5⟩ := sum_units (h1 ▸ val64_fits x) (h2 ▸ val64_fits y)
  refine own_rd (by rw [val64_dadd, h1, h2, h3]) (Int.le_refl _) h4 hk ?_
  rw [h5, z1, z2, ← Int.add_mul, e, Int.sub_self]; exact (Int.mul_one _).symm
theorem Dy.neg {x : UInt64} {a : Int} (hx : Dy x a) : Dy (Jvm.FP.Core.dneg x) (-a) := by
  obtain ⟨s, c, q, h1, z1⟩ := hx
  refine ⟨!s, c, q, by rw [val64_dneg, h1]; rfl, ?_⟩
  rw [show Datum.fin (!s) c q = negate (.fin s c q) from rfl, zval_negate, z1, Int.neg_mul]
theorem Dy.sub {x y : UInt64} {a b k : Int} (hx : Dy x a) (hy : Dy y b) (e : a - b = k) (hk : k.natAbs < 9007199254740992) : Dy (FP.dsub x y) k := by
  show Dy (Jvm.FP.Core.dsub x y) k
  rw [dsub_eq]; exact hx.add hy.neg (by omega) hk
theorem own_sgm (s t : Bool) (m n : Nat) : signed (s != t) (m * n) = signed s m * signed t n := by
  cases s <;> cases t <;> simp [signed, Int.neg_mul, Int.mul_neg, Int.natCast_mul]
theorem Dy.mul {x y : UInt64} {a b k : Int} (hx : Dy x a) (hy : Dy y b) (e : a * b = k * 262144) (hk : k.natAbs < 9007199254740992) : Dy (FP.dmul x y) k := by
  obtain ⟨s, c, q, h1, z1⟩ := hx
  obtain ⟨t, d, r, h2, z2⟩ := hy
  obtain ⟨h3, h4, h5⟩ := product_units (h1 ▸ val64_fits x) (h2 ▸ val64_fits y)
  refine own_rd (by rw [val64_dmul, h1, h2, h3]) (e0 := 2 * b64.qmin) (by rw [own_qmin]; decide) h4 hk ?_
  rw [h5, own_sgm]
  show zval b64 (.fin s c q) * zval b64 (.fin t d r) = _
  rw [z1, z2, own_qmin, show ((-1074 : Int) - 2 * -1074).toNat = 1074 from by decide]
  have hp : ((2 ^ 1074 : Nat) : Int) = 262144 * ((2 ^ 1056 : Nat) : Int) := by decide +kernel
  rw [hp]
  generalize ((2 ^ 1056 : Nat) : Int) = P
  rw [show a * P * (b * P) = (a * b) * (P * P) by simp only [Int.mul_assoc, Int.mul_left_comm], e]
  simp only [Int.mul_assoc, Int.mul_left_comm]
theorem Dy.div {x y : UInt64} {a k : Int} (hx : Dy x a) (j : Nat) (hj : j ≤ 8) (hy : val64 y = .fin false (2 ^ 52) ((j : Int) - 52)) (e : a = k * (2 ^ j : Nat)) (hk : k.natAbs < 9007199254740992) : Dy (FP.ddiv x y) k := by
  obtain ⟨s, c, q, h1, z1⟩ := hx
  have hf : Jvm.FP.Core.fits b64 (.fin s c q) := h1 ▸ val64_fits x
  have hq := hf.2.1
  have ev : val64 (FP.ddiv x y) = round b64 (.fin s c (q - j)) := by
    rw [val64_ddiv, h1, hy]
    show (if (2 ^ 52 : Nat) = 0 then (if c = 0 then Datum.nan else .inf (s != false)) else roundRatio b64 (s != false) c (2 ^ 52) (q - ((j : Int) - 52))) = roundRatio b64 s c 1 (q - j)
    rw [if_neg (by decide), show (s != false) = s by cases s <;> rfl]
    apply roundRatio_congr (by decide) (by decide)
    rw [show (q - ((j : Int) - 52) - (q - j)).toNat = 52 by omega, show (q - (j : Int) - (q - ((j : Int) - 52))).toNat = 0 by omega]
    simp
  refine own_rd ev (e0 := b64.qmin - 8) (by omega) (by omega) hk ?_
  rw [show (b64.qmin - (b64.qmin - 8)).toNat = 8 by omega]
  have hu : signed s (inUnits c (q - j) (b64.qmin - 8)) = zval b64 (.fin s c q) * ((2 ^ (8 - j) : Nat) : Int) := by
    show _ = signed s (inUnits c q b64.qmin) * _
    unfold inUnits
    rw [show (q - (j : Int) - (b64.qmin - 8)).toNat = (q - b64.qmin).toNat + (8 - j) by omega, Nat.pow_add, ← Nat.mul_assoc]
    generalize c * 2 ^ (q - b64.qmin).toNat = A
    cases s <;> simp [signed, Int.natCast_mul, Int.neg_mul]
  rw [hu, z1, e]
  have hp : ((2 ^ 8 : Nat) : Int) = ((2 ^ j : Nat) : Int) * ((2 ^ (8 - j) : Nat) : Int) := by rw [← Int.natCast_mul, ← Nat.pow_add, show j + (8 - j) = 8 by omega]
  rw [hp]
  generalize ((2 ^ 1056 : Nat) : Int) = P
  simp only [Int.mul_assoc, Int.mul_left_comm, Int.mul_comm]
theorem Dy.div0 {x y : UInt64} (hx : Dy x 0) {t : Bool} {d : Nat} {r : Int} (hy : val64 y = .fin t d r) (hd : d ≠ 0) : Dy (FP.ddiv x y) 0 := by
  obtain ⟨s, c, q, h1, z1⟩ := hx
  have hc : c = 0 := by
    have e : (zval b64 (.fin s c q)).natAbs = c * 2 ^ (q - b64.qmin).toNat := by
      show (signed s _).natAbs = _
      cases s
      · exact Int.natAbs_natCast _
      · exact (Int.natAbs_neg _).trans (Int.natAbs_natCast _)
    rw [z1, Int.zero_mul] at e
    have p := Nat.two_pow_pos (q - b64.qmin).toNat
    rcases Nat.mul_eq_zero.mp e.symm with h | h
    · exact h
    · omega
  have ev : val64 (FP.ddiv x y) = .fin (s != t) 0 b64.qmin := by
    rw [val64_ddiv, h1, hy, hc]
    show (if d = 0 then (if (0 : Nat) = 0 then Datum.nan else .inf (s != t)) else roundRatio b64 (s != t) 0 d (q - r)) = _
    rw [if_neg hd]; rfl
  refine ⟨_, _, _, ev, ?_⟩
  show signed _ (inUnits 0 _ _) = _
  unfold inUnits signed; simp
theorem Dy.ofI {z : Int32} {k : Int} (e : z.toInt * 262144 = k) (hk : k.natAbs < 9007199254740992) : Dy (FP.i2d z) k := by
  refine own_rd (val64_i2d z) (e0 := b64.qmin) (Int.le_refl _) (by rw [own_qmin]; decide) hk ?_
  rw [Int.sub_self, own_qmin]
  unfold inUnits
  rw [show ((0 : Int) - -1074).toNat = 1074 from by decide, ← e]
  have hp : (2 ^ 1074 : Nat) = 262144 * (2 ^ 1056 : Nat) := by decide +kernel
  rw [hp]
  clear hp e hk
  generalize (2 ^ 1056 : Nat) = P
  generalize z.toInt = i
  show signed (decide (i < 0)) (i.natAbs * (262144 * P)) = i * 262144 * (P : Int) * 1
  rw [Int.mul_one, Int.mul_assoc, show (262144 : Int) * (P : Int) = ((262144 * P : Nat) : Int) by rw [Int.natCast_mul]; rfl]
  generalize 262144 * P = R
  unfold signed
  by_cases h : i < 0
  · simp only [h, decide_true, if_true]; rw [Int.natCast_mul, ← Int.neg_mul]; congr 1; omega
  · simp only [h, decide_false, Bool.false_eq_true, if_false]; rw [Int.natCast_mul]; congr 1; omega
theorem Dy.nn {x : UInt64} {k : Int} (hx : Dy x k) : val64 x ≠ .nan := by
  obtain ⟨s, c, q, h, -⟩ := hx; rw [h]; intro q; cases q
theorem Dy.noNaN {x : UInt64} {k : Int} (hx : Dy x k) : Jvm.Free.Fl.NoNaN64 x := (Jvm.Free.Fl.noNaN64_iff x).mpr ((ne_nan x).mp hx.nn)
theorem Dy.fin64 {x : UInt64} {k : Int} (hx : Dy x k) : Jvm.Free.Fl.Fin64 x := by
  have h1 := (ne_nan x).mp hx.nn
  rw [Jvm.Free.Fl.fin64_iff]
  rcases Nat.lt_or_ge (x.toNat % 2 ^ 63) 9218868437227405312 with h | h
  · exact h
  · have e : mag b64 x.toNat = infBits b64 := by rw [mag_toNat64, infBits_b64]; omega
    obtain ⟨s, c, q, h, -⟩ := hx
    have := decode_inf e
    rw [show decode b64 x.toNat = val64 x from rfl, h] at this
    cases this
theorem Dy.cmp {x y : UInt64} {a b : Int} (hx : Dy x a) (hy : Dy y b) : FP.dcmp x y = some (compare a b) := by
  have h := order_zval good_b64 (val64_fits x) (val64_fits y) hx.nn hy.nn
  obtain ⟨s, c, q, h1, z1⟩ := hx
  obtain ⟨t, d, r, h2, z2⟩ := hy
  show order (val64 x) (val64 y) = _
  rw [h, h1, h2, z1, z2]
  have hP : (0 : Int) < ((2 ^ 1056 : Nat) : Int) := by decide +kernel
  generalize ((2 ^ 1056 : Nat) : Int) = P at hP
  congr 1
  refine compare_congr ⟨fun q => Int.lt_of_mul_lt_mul_right q (Int.le_of_lt hP), fun q => Int.mul_lt_mul_of_pos_right q hP⟩ ⟨fun q => Int.eq_of_mul_eq_mul_right (Int.ne_of_gt hP) q, fun q => by rw [q]⟩
theorem Dy.eq0 {x y : UInt64} {a : Int} (hx : Dy x a) (hy : Dy y a) (o : CmpOp) : cmpValue (FP.dcmp x y) o = 0 := by
  rw [hx.cmp hy, show compare a a = .eq by simp [compare, compareOfLessAndEq]]; rfl
theorem Dy.gt {x y : UInt64} {a b : Int} (hx : Dy x a) (hy : Dy y b) (h : b < a) (o : CmpOp) : cmpValue (FP.dcmp x y) o = 1 := by
  rw [hx.cmp hy, show compare a b = .gt by simp [compare, compareOfLessAndEq, show ¬ a < b by omega, show ¬ a = b by omega]]; rfl
theorem Dy.lt {x y : UInt64} {a b : Int} (hx : Dy x a) (hy : Dy y b) (h : a < b) (o : CmpOp) : cmpValue (FP.dcmp x y) o = -1 := by
  rw [hx.cmp hy, show compare a b = .lt by simp [compare, compareOfLessAndEq, h]]; rfl
theorem own_d0 : Dy 0 0 := ⟨false, 0, b64.qmin, by decide +kernel, by
  show signed false (inUnits 0 b64.qmin b64.qmin) = _
  unfold inUnits signed; simp⟩
theorem own_d1 : Dy 0x3ff0000000000000 262144 := ⟨false, 2 ^ 52, -52, by decide +kernel, by
  show ((2 ^ 52 * 2 ^ ((-52 : Int) - b64.qmin).toNat : Nat) : Int) = _
  rw [own_qmin, show ((-52 : Int) - -1074).toNat = 1022 from by decide, ← Nat.pow_add, show (52 + 1022) = 18 + 1056 from rfl, Nat.pow_add, Int.natCast_mul]
  rfl⟩
theorem own_v256 : val64 4643211215818981376 = .fin false (2 ^ 52) (((8 : Nat) : Int) - 52) := by decide +kernel
theorem own_v2 : val64 4611686018427387904 = .fin false (2 ^ 52) (((1 : Nat) : Int) - 52) := by decide +kernel
theorem own_l1 : val64 (FP.l2d 1) = .fin false (2 ^ 52) (((0 : Nat) : Int) - 52) := by decide +kernel
theorem own_l2 : val64 (FP.l2d 2) = .fin false (2 ^ 52) (((1 : Nat) : Int) - 52) := by decide +kernel
theorem own_l3 : ∃ d r, val64 (FP.l2d 3) = .fin false d r ∧ d ≠ 0 := ⟨3 * 2 ^ 51, -51, by decide +kernel, by decide⟩
end OwnDy

theorem own_pos {q : Int64} (h : (0 : Int32) < lcmpW q 0) : ¬ lcmpW q 0 = (0 : Int32) := fun e => by rw [e] at h; exact absurd h (by decide)
theorem own_ab (p : Int32) : ∃ I : Int, 1 ≤ I ∧ I ≤ 256 ∧ Dy (FP.ddiv (FP.i2d ((p &&& (255 : Int32)) + (1 : Int32))) (4643211215818981376 : UInt64)) (1024 * I) := by
  have e : (p &&& (255 : Int32)).toInt = p.toInt % (2 ^ 8 : Nat) := c_mask p 255 8 (by decide) (by decide)
  have e2 := c_iadd (p &&& (255 : Int32)) (1 : Int32)
  have q : (1 : Int32).toInt = 1 := by decide
  have r := rng32 ((p &&& (255 : Int32)) + (1 : Int32))
  have e3 : ((p &&& (255 : Int32)) + (1 : Int32)).toInt = (p &&& (255 : Int32)).toInt + 1 := by omega
  refine ⟨(p &&& (255 : Int32)).toInt + 1, by omega, by omega, ?_⟩
  exact (Dy.ofI (z := (p &&& (255 : Int32)) + (1 : Int32)) (k := 262144 * ((p &&& (255 : Int32)).toInt + 1)) (by omega) (by omega)).div 8 (by decide) (by decide +kernel) (by rw [show ((2 ^ 8 : Nat) : Int) = 256 from rfl]; omega) (by omega)
theorem own_abn (p : Int32) : Jvm.Free.Fl.NoNaN64 (FP.ddiv (FP.i2d ((p &&& (255 : Int32)) + (1 : Int32))) (4643211215818981376 : UInt64)) := by
  obtain ⟨I, -, -, D⟩ := own_ab p; exact D.noNaN
theorem own_sq (D : Int) : 1024 * D * (512 * D) = 2 * (D * D) * 262144 := by
  have e : 1024 * D * (512 * D) = 1024 * (512 * (D * D)) := by rw [Int.mul_assoc, Int.mul_left_comm D 512 D]
  omega
theorem own_sqh (I J : Int) : 512 * (I - J) * (512 * (I - J)) = ((J - I) * (J - I)) * 262144 := by
  have e : 512 * (I - J) * (512 * (I - J)) = 512 * (512 * ((I - J) * (I - J))) := by rw [Int.mul_assoc, Int.mul_left_comm (I - J) 512 (I - J)]
  have e2 : (I - J) * (I - J) = (J - I) * (J - I) := by rw [show I - J = -(J - I) by omega, Int.neg_mul_neg]
  omega
theorem own_sqb {D : Int} (h1 : -255 ≤ D) (h2 : D ≤ 255) : 0 ≤ D * D ∧ D * D ≤ 65025 := by
  have e : D * D = ((D.natAbs * D.natAbs : Nat) : Int) := Int.natAbs_mul_self.symm
  have l : D.natAbs * D.natAbs ≤ 255 * 255 := Nat.mul_le_mul (by omega) (by omega)
  omega
theorem own_c13 {x : UInt64} {k : Int} (h : Dy x k) (hk : 0 < k) : (0 : Int32) < cmpValue (FP.dcmp x (0 : UInt64)) .l := by rw [h.gt own_d0 hk]; decide
theorem own_c19 {x : UInt64} {k : Int} (h : Dy x k) (hk : k ≤ 262144) : ¬ ((0 : Int32) < cmpValue (FP.dcmp x (4607182418800017408 : UInt64)) .g) := by
  rcases Int.lt_or_eq_of_le hk with q | q
  · rw [h.lt own_d1 q]; decide
  · subst q; rw [h.eq0 own_d1]; decide
theorem own_c26 {x : UInt64} {k : Int} (h : Dy x k) (hk : 0 ≤ k) : ¬ (cmpValue (FP.dcmp x (0 : UInt64)) .l < (0 : Int32)) := by
  rcases Int.lt_or_eq_of_le hk with q | q
  · rw [h.gt own_d0 q]; decide
  · subst q; rw [h.eq0 own_d0]; decide
theorem own_c35 {x : UInt64} {k : Int} (h : Dy x k) : cmpValue (FP.dcmp x (9218868437227405312 : UInt64)) .g < (0 : Int32) := by rw [dcmp_pinf h.fin64]; decide
theorem d1_0 : decode prog_22_method_1_code 0 = .ok (.aload_n 0, 1) := by decide +kernel
theorem d1_1 : decode prog_22_method_1_code 1 = .ok (.invokespecial 1, 3) := by decide +kernel
theorem d1_4 : decode prog_22_method_1_code 4 = .ok (.return_, 1) := by decide +kernel
theorem pn_1 : plainName "com/example/laelaps/laelaps/testbed/ScoreMoments$Accumulator" = true := by first | (simp [plainName, overriddenIn]; done) | decide +kernel
theorem ef_1 (m : MethodId) (o0 : Addr) : entryFrame m #[(.ref o0)] 1 = mkF m 0 #[.val (.ref o0)] [] := by first | (simp [entryFrame, mkF, argsToLocals, Value.category]; done) | rfl
def f1_0 : Unit := ()
def Q1 (r : Option Value) (Z : State) (o0 : Addr)  (h0 : Heap) (n0 : Nat) (v : Option Value) (h : Heap) (L : List Loc) : Prop := v = r ∧ Fr n0 L ∧ Keep h0 h []
set_option maxRecDepth 65536 in
set_option maxHeartbeats 40000000 in
theorem rm1 (l : Launch) (Z : State) (a0 : Array Value) (hw : ∀ d ∈ tables_1, d.before a0 Z = true) (ws : List Jvm.Cond) (o0 : Addr)  (h0 : Heap) (n0 : Nat) (Z0 : n0 ≤ h0.size) (E_o0 : Exa Z h0 o0 "com/example/laelaps/laelaps/testbed/ScoreMoments$Accumulator") :
    MetFree l (⟨"com/example/laelaps/laelaps/testbed/ScoreMoments$Accumulator", "<init>", "()V"⟩ : MethodName) (head1 (Jvm.Cond.code (⟨"com/example/laelaps/laelaps/testbed/ScoreMoments$Accumulator", "<init>", "()V"⟩ : MethodName) prog_22_method_1_code 1 none :: ws) ({ frames := 1, cells := 0, slots := 0, locals := 12 } : Room)) (fun a U => a = #[(.ref o0)] ∧ Z.Warmed39 U.vm ∧ U.heap = h0) (fun _ _ _ _ _ => True) (fun _ U o U' => ∃ v L, o = .returned v ∧ (Q1 none Z o0 h0 n0) v U'.heap L ∧ FrameEnd U o U' L ({ frames := 1, cells := 0, slots := 0, locals := 12 } : Room).cells ({ frames := 1, cells := 0, slots := 0, locals := 12 } : Room).slots) := by
  refine MetFree.of_bodySF (plainFor_of_name pn_1) hisR ?_
  intro p e s m args below meth c s₁ Bd hml0 hP hK
  obtain ⟨rfl, hZ, hh⟩ := hP
  have hx := Bd.exec
  have hby := Bd.bytes
  have hlk : meth.locks = false := BodyLoose.notSynchronized Bd
  have hml : c.maxLocals = 1 := hml0
  have hown : s.vm.findClass "com/example/laelaps/laelaps/testbed/ScoreMoments$Accumulator" = some m.cls := findClass_of_methodNamed Bd.named
  have hnm := (name_of_methodNamed Bd.named Bd.method).1
  have X0 : Stand p l e ({ frames := 1, cells := 0, slots := 0, locals := 12 } : Room) s m #[(.ref o0)] below meth c s₁ ([] : List Loc) 0 0 := Stand.of_body Bd
  have e0 : s₁.heap = h0 := by rw [← hh, Bd.state]; rfl
  show Go p e below s 0 0 (Q1 none Z o0 h0 n0) s₁ (entryFrame m #[(.ref o0)] 1)
  rw [ef_1 m o0]
  have N0 := Fr.nil n0
  refine Go.step (g' := (mkF m 1 #[.val (.ref o0)] [(.ref o0)])) (fun _ k => XS.aloadN X0.here hx rfl (hb hby d1_0) rfl rfl  k) ?_
  obtain ⟨T1, X1, e1, st1⟩ := initO X0 hx hZ hown (hw _ (List.mem_of_getElem? (i := 8) rfl)) (hw _ (List.mem_of_getElem? (i := 9) rfl)) (hw _ (List.mem_of_getElem? (i := 10) rfl)) e0 (g := (mkF m 1 #[.val (.ref o0)] [(.ref o0)])) rfl (by rw [hml]; rfl) rfl (hb hby d1_1) (by decide) (W := 0) (by show 2 * 0 + _ ≤ _; exact Nat.le_of_eq rfl) (by decide)
  refine Go.step (g' := (mkF m 4 #[.val (.ref o0)] [])) st1 ?_
  exact Go.ret0 X1 hx hlk Bd.returns (hb hby d1_4) (by decide) (by decide) (by rw [e1]; exact ⟨rfl, N0, (Keep.refl h0 [])⟩)
theorem d3_0 : decode prog_22_method_2_code 0 = .ok (.aload_n 0, 1) := by decide +kernel
theorem d3_1 : decode prog_22_method_2_code 1 = .ok (.dup, 1) := by decide +kernel
theorem d3_2 : decode prog_22_method_2_code 2 = .ok (.getfield 7, 3) := by decide +kernel
theorem d3_5 : decode prog_22_method_2_code 5 = .ok (.lconst 1, 1) := by decide +kernel
theorem d3_6 : decode prog_22_method_2_code 6 = .ok (.ladd, 1) := by decide +kernel
theorem d3_7 : decode prog_22_method_2_code 7 = .ok (.putfield 7, 3) := by decide +kernel
theorem d3_10 : decode prog_22_method_2_code 10 = .ok (.dload_n 1, 1) := by decide +kernel
theorem d3_11 : decode prog_22_method_2_code 11 = .ok (.aload_n 0, 1) := by decide +kernel
theorem d3_12 : decode prog_22_method_2_code 12 = .ok (.getfield 13, 3) := by decide +kernel
theorem d3_15 : decode prog_22_method_2_code 15 = .ok (.dsub, 1) := by decide +kernel
theorem d3_16 : decode prog_22_method_2_code 16 = .ok (.dstore_n 3, 1) := by decide +kernel
theorem d3_17 : decode prog_22_method_2_code 17 = .ok (.aload_n 0, 1) := by decide +kernel
theorem d3_18 : decode prog_22_method_2_code 18 = .ok (.dup, 1) := by decide +kernel
theorem d3_19 : decode prog_22_method_2_code 19 = .ok (.getfield 13, 3) := by decide +kernel
theorem d3_22 : decode prog_22_method_2_code 22 = .ok (.dload_n 3, 1) := by decide +kernel
theorem d3_23 : decode prog_22_method_2_code 23 = .ok (.aload_n 0, 1) := by decide +kernel
theorem d3_24 : decode prog_22_method_2_code 24 = .ok (.getfield 7, 3) := by decide +kernel
theorem d3_27 : decode prog_22_method_2_code 27 = .ok (.l2d, 1) := by decide +kernel
theorem d3_28 : decode prog_22_method_2_code 28 = .ok (.ddiv, 1) := by decide +kernel
theorem d3_29 : decode prog_22_method_2_code 29 = .ok (.dadd, 1) := by decide +kernel
theorem d3_30 : decode prog_22_method_2_code 30 = .ok (.putfield 13, 3) := by decide +kernel
theorem d3_33 : decode prog_22_method_2_code 33 = .ok (.aload_n 0, 1) := by decide +kernel
theorem d3_34 : decode prog_22_method_2_code 34 = .ok (.dup, 1) := by decide +kernel
theorem d3_35 : decode prog_22_method_2_code 35 = .ok (.getfield 17, 3) := by decide +kernel
theorem d3_38 : decode prog_22_method_2_code 38 = .ok (.dload_n 3, 1) := by decide +kernel
theorem d3_39 : decode prog_22_method_2_code 39 = .ok (.dload_n 1, 1) := by decide +kernel
theorem d3_40 : decode prog_22_method_2_code 40 = .ok (.aload_n 0, 1) := by decide +kernel
theorem d3_41 : decode prog_22_method_2_code 41 = .ok (.getfield 13, 3) := by decide +kernel
theorem d3_44 : decode prog_22_method_2_code 44 = .ok (.dsub, 1) := by decide +kernel
theorem d3_45 : decode prog_22_method_2_code 45 = .ok (.dmul, 1) := by decide +kernel
theorem d3_46 : decode prog_22_method_2_code 46 = .ok (.dadd, 1) := by decide +kernel
theorem d3_47 : decode prog_22_method_2_code 47 = .ok (.putfield 17, 3) := by decide +kernel
theorem d3_50 : decode prog_22_method_2_code 50 = .ok (.return_, 1) := by decide +kernel
theorem pn_3 : plainName "com/example/laelaps/laelaps/testbed/ScoreMoments$Accumulator" = true := by first | (simp [plainName, overriddenIn]; done) | decide +kernel
theorem ef_3 (m : MethodId) (o0 : Addr) (d1 : UInt64) : entryFrame m #[(.ref o0), (.double d1)] 5 = mkF m 0 #[.val (.ref o0), .val (.double d1), .second, .unset, .unset] [] := by first | (simp [entryFrame, mkF, argsToLocals, Value.category]; done) | rfl
def f3_0 : Unit := ()
def Q3 (r : Option Value) (Z : State) (o0 : Addr) (d1 : UInt64) (dc : Int64) (mn : UInt64) (sq : UInt64) (h0 : Heap) (n0 : Nat) (v : Option Value) (h : Heap) (L : List Loc) : Prop := v = r ∧ Fr n0 L ∧ Keep h0 h [o0] ∧ Exa Z h o0 "com/example/laelaps/laelaps/testbed/ScoreMoments$Accumulator" ∧ Fld Z h o0 "com/example/laelaps/laelaps/testbed/ScoreMoments$Accumulator" "documents" "J" (.long (dc + (1 : Int64))) ∧ Fld Z h o0 "com/example/laelaps/laelaps/testbed/ScoreMoments$Accumulator" "mean" "D" (.double (FP.dadd mn (FP.ddiv (FP.dsub d1 mn) (FP.l2d (dc + (1 : Int64)))))) ∧ Fld Z h o0 "com/example/laelaps/laelaps/testbed/ScoreMoments$Accumulator" "squares" "D" (.double (FP.dadd sq (FP.dmul (FP.dsub d1 mn) (FP.dsub d1 (FP.dadd mn (FP.ddiv (FP.dsub d1 mn) (FP.l2d (dc + (1 : Int64)))))))))
set_option maxRecDepth 65536 in
set_option maxHeartbeats 40000000 in
theorem rm3 (l : Launch) (Z : State) (a0 : Array Value) (hw : ∀ d ∈ tables_1, d.before a0 Z = true) (ws : List Jvm.Cond) (o0 : Addr) (d1 : UInt64) (dc : Int64) (mn : UInt64) (sq : UInt64) (h0 : Heap) (n0 : Nat) (Z0 : n0 ≤ h0.size) (E_o0 : Exa Z h0 o0 "com/example/laelaps/laelaps/testbed/ScoreMoments$Accumulator") (g_o0 : n0 ≤ o0) (F_documents : Fld Z h0 o0 "com/example/laelaps/laelaps/testbed/ScoreMoments$Accumulator" "documents" "J" (.long dc)) (F_mean : Fld Z h0 o0 "com/example/laelaps/laelaps/testbed/ScoreMoments$Accumulator" "mean" "D" (.double mn)) (F_squares : Fld Z h0 o0 "com/example/laelaps/laelaps/testbed/ScoreMoments$Accumulator" "squares" "D" (.double sq)) (n15 : Jvm.Free.Fl.NoNaN64 (FP.dsub d1 mn)) (n28 : Jvm.Free.Fl.NoNaN64 (FP.ddiv (FP.dsub d1 mn) (FP.l2d (dc + (1 : Int64))))) (n29 : Jvm.Free.Fl.NoNaN64 (FP.dadd mn (FP.ddiv (FP.dsub d1 mn) (FP.l2d (dc + (1 : Int64)))))) (n44 : Jvm.Free.Fl.NoNaN64 (FP.dsub d1 (FP.dadd mn (FP.ddiv (FP.dsub d1 mn) (FP.l2d (dc + (1 : Int64))))))) (n45 : Jvm.Free.Fl.NoNaN64 (FP.dmul (FP.dsub d1 mn) (FP.dsub d1 (FP.dadd mn (FP.ddiv (FP.dsub d1 mn) (FP.l2d (dc + (1 : Int64)))))))) (n46 : Jvm.Free.Fl.NoNaN64 (FP.dadd sq (FP.dmul (FP.dsub d1 mn) (FP.dsub d1 (FP.dadd mn (FP.ddiv (FP.dsub d1 mn) (FP.l2d (dc + (1 : Int64))))))))) :
    MetFree l (⟨"com/example/laelaps/laelaps/testbed/ScoreMoments$Accumulator", "add", "(D)V"⟩ : MethodName) (head1 (Jvm.Cond.code (⟨"com/example/laelaps/laelaps/testbed/ScoreMoments$Accumulator", "add", "(D)V"⟩ : MethodName) prog_22_method_2_code 5 none :: ws) ({ frames := 0, cells := 0, slots := 0, locals := 0 } : Room)) (fun a U => a = #[(.ref o0), (.double d1)] ∧ Z.Warmed39 U.vm ∧ U.heap = h0) (fun _ _ _ _ _ => True) (fun _ U o U' => ∃ v L, o = .returned v ∧ (Q3 none Z o0 d1 dc mn sq h0 n0) v U'.heap L ∧ FrameEnd U o U' L ({ frames := 0, cells := 0, slots := 0, locals := 0 } : Room).cells ({ frames := 0, cells := 0, slots := 0, locals := 0 } : Room).slots) := by
  refine MetFree.of_bodySF (plainFor_of_name pn_3) hisR ?_
  intro p e s m args below meth c s₁ Bd hml0 hP hK
  obtain ⟨rfl, hZ, hh⟩ := hP
  have hx := Bd.exec
  have hby := Bd.bytes
  have hlk : meth.locks = false := BodyLoose.notSynchronized Bd
  have hml : c.maxLocals = 5 := hml0
  have hown : s.vm.findClass "com/example/laelaps/laelaps/testbed/ScoreMoments$Accumulator" = some m.cls := findClass_of_methodNamed Bd.named
  have hnm := (name_of_methodNamed Bd.named Bd.method).1
  have X0 : Stand p l e ({ frames := 0, cells := 0, slots := 0, locals := 0 } : Room) s m #[(.ref o0), (.double d1)] below meth c s₁ ([] : List Loc) 0 0 := Stand.of_body Bd
  have e0 : s₁.heap = h0 := by rw [← hh, Bd.state]; rfl
  show Go p e below s 0 0 (Q3 none Z o0 d1 dc mn sq h0 n0) s₁ (entryFrame m #[(.ref o0), (.double d1)] 5)
  rw [ef_3 m o0 d1]
  have N0 := Fr.nil n0
  refine Go.step (g' := (mkF m 1 #[.val (.ref o0), .val (.double d1), .second, .unset, .unset] [(.ref o0)])) (fun _ k => XS.aloadN X0.here hx rfl (hb hby d3_0) rfl rfl  k) ?_
  refine Go.step (g' := (mkF m 2 #[.val (.ref o0), .val (.double d1), .second, .unset, .unset] [(.ref o0), (.ref o0)])) (fun _ k => XS.dup X0.here hx rfl (hb hby d3_1) rfl rfl k) ?_
  obtain ⟨T1, X1, e1, st1⟩ := getF X0 hx hZ hown (host := "") (Or.inl (hw _ (List.mem_of_getElem? (i := 16) rfl))) Via.refl e0 F_documents (g := (mkF m 2 #[.val (.ref o0), .val (.double d1), .second, .unset, .unset] [(.ref o0), (.ref o0)])) rfl rfl (hb hby d3_2)
  refine Go.step (g' := (mkF m 5 #[.val (.ref o0), .val (.double d1), .second, .unset, .unset] [(.long dc), (.ref o0)])) st1 ?_
  refine Go.step (g' := (mkF m 6 #[.val (.ref o0), .val (.double d1), .second, .unset, .unset] [(.long (1 : Int64)), (.long dc), (.ref o0)])) (fun _ k => XS.lconst X1.here hx rfl (hb hby d3_5) k) ?_
  refine Go.step (g' := (mkF m 7 #[.val (.ref o0), .val (.double d1), .second, .unset, .unset] [(.long (dc + (1 : Int64))), (.ref o0)])) (fun _ k => XS.ladd X1.here hx rfl (hb hby d3_6) rfl k) ?_
  obtain ⟨T2, h2, X2, e2, W2, st2⟩ := putF X1 hx hZ hown (host := "") (Or.inl (hw _ (List.mem_of_getElem? (i := 16) rfl))) Via.refl e1 F_documents E_o0 (Or.inl (hw _ (List.mem_of_getElem? (i := 17) rfl))) (hw _ (List.mem_of_getElem? (i := 3) rfl)) (ty := .long) (by decide) rfl rfl (g := (mkF m 7 #[.val (.ref o0), .val (.double d1), .second, .unset, .unset] [(.long (dc + (1 : Int64))), (.ref o0)])) rfl rfl (hb hby d3_7)
  obtain ⟨lc2, X2, N2⟩ := own_pack X2 (Fr.snoc X2 N0 g_o0)
  have Fw2 := F_documents.same W2
  refine Go.step (g' := (mkF m 10 #[.val (.ref o0), .val (.double d1), .second, .unset, .unset] [])) st2 ?_
  have Q3 := (F_mean.other W2 (Or.inr (slot_ne (Or.inl (hw _ (List.mem_of_getElem? (i := 19) rfl))) (Or.inl (hw _ (List.mem_of_getElem? (i := 17) rfl))) (by decide) (t := .double) (t' := .long) (by decide) (by decide))))
  have Q4 := (F_squares.other W2 (Or.inr (slot_ne (Or.inl (hw _ (List.mem_of_getElem? (i := 21) rfl))) (Or.inl (hw _ (List.mem_of_getElem? (i := 17) rfl))) (by decide) (t := .double) (t' := .long) (by decide) (by decide))))
  have Q5 := ((Keep.refl h0 [o0]).wr W2 (Or.inl (List.mem_of_getElem? (i := 0) rfl)))
  refine Go.step (g' := (mkF m 11 #[.val (.ref o0), .val (.double d1), .second, .unset, .unset] [(.double d1)])) (fun _ k => XS.dloadN X2.here hx rfl (hb hby d3_10) rfl k) ?_
  refine Go.step (g' := (mkF m 12 #[.val (.ref o0), .val (.double d1), .second, .unset, .unset] [(.ref o0), (.double d1)])) (fun _ k => XS.aloadN X2.here hx rfl (hb hby d3_11) rfl rfl  k) ?_
  obtain ⟨T6, X6, e6, st6⟩ := getF X2 hx hZ hown (host := "") (Or.inl (hw _ (List.mem_of_getElem? (i := 18) rfl))) Via.refl e2 Q3 (g := (mkF m 12 #[.val (.ref o0), .val (.double d1), .second, .unset, .unset] [(.ref o0), (.double d1)])) rfl rfl (hb hby d3_12)
  refine Go.step (g' := (mkF m 15 #[.val (.ref o0), .val (.double d1), .second, .unset, .unset] [(.double mn), (.double d1)])) st6 ?_
  refine Go.step (g' := (mkF m 16 #[.val (.ref o0), .val (.double d1), .second, .unset, .unset] [(.double (FP.dsub d1 mn))])) (fun _ k => XS.dsubS X6.here hx rfl (hb hby d3_15) rfl n15 rfl k) ?_
  refine Go.step (g' := (mkF m 17 #[.val (.ref o0), .val (.double d1), .second, .val (.double (FP.dsub d1 mn)), .second] [])) (fun _ k => XS.dstoreN X6.here hx rfl (hb hby d3_16) rfl (l' := #[.val (.ref o0), .val (.double d1), .second, .val (.double (FP.dsub d1 mn)), .second]) rfl k) ?_
  refine Go.step (g' := (mkF m 18 #[.val (.ref o0), .val (.double d1), .second, .val (.double (FP.dsub d1 mn)), .second] [(.ref o0)])) (fun _ k => XS.aloadN X6.here hx rfl (hb hby d3_17) rfl rfl  k) ?_
  refine Go.step (g' := (mkF m 19 #[.val (.ref o0), .val (.double d1), .second, .val (.double (FP.dsub d1 mn)), .second] [(.ref o0), (.ref o0)])) (fun _ k => XS.dup X6.here hx rfl (hb hby d3_18) rfl rfl k) ?_
  obtain ⟨T7, X7, e7, st7⟩ := getF X6 hx hZ hown (host := "") (Or.inl (hw _ (List.mem_of_getElem? (i := 18) rfl))) Via.refl e6 Q3 (g := (mkF m 19 #[.val (.ref o0), .val (.double d1), .second, .val (.double (FP.dsub d1 mn)), .second] [(.ref o0), (.ref o0)])) rfl rfl (hb hby d3_19)
  refine Go.step (g' := (mkF m 22 #[.val (.ref o0), .val (.double d1), .second, .val (.double (FP.dsub d1 mn)), .second] [(.double mn), (.ref o0)])) st7 ?_
  refine Go.step (g' := (mkF m 23 #[.val (.ref o0), .val (.double d1), .second, .val (.double (FP.dsub d1 mn)), .second] [(.double (FP.dsub d1 mn)), (.double mn), (.ref o0)])) (fun _ k => XS.dloadN X7.here hx rfl (hb hby d3_22) rfl k) ?_
  refine Go.step (g' := (mkF m 24 #[.val (.ref o0), .val (.double d1), .second, .val (.double (FP.dsub d1 mn)), .second] [(.ref o0), (.double (FP.dsub d1 mn)), (.double mn), (.ref o0)])) (fun _ k => XS.aloadN X7.here hx rfl (hb hby d3_23) rfl rfl  k) ?_
  obtain ⟨T8, X8, e8, st8⟩ := getF X7 hx hZ hown (host := "") (Or.inl (hw _ (List.mem_of_getElem? (i := 16) rfl))) Via.refl e7 Fw2 (g := (mkF m 24 #[.val (.ref o0), .val (.double d1), .second, .val (.double (FP.dsub d1 mn)), .second] [(.ref o0), (.double (FP.dsub d1 mn)), (.double mn), (.ref o0)])) rfl rfl (hb hby d3_24)
  refine Go.step (g' := (mkF m 27 #[.val (.ref o0), .val (.double d1), .second, .val (.double (FP.dsub d1 mn)), .second] [(.long (dc + (1 : Int64))), (.double (FP.dsub d1 mn)), (.double mn), (.ref o0)])) st8 ?_
  refine Go.step (g' := (mkF m 28 #[.val (.ref o0), .val (.double d1), .second, .val (.double (FP.dsub d1 mn)), .second] [(.double (FP.l2d (dc + (1 : Int64)))), (.double (FP.dsub d1 mn)), (.double mn), (.ref o0)])) (fun _ k => XS.l2dS X8.here hx rfl (hb hby d3_27) rfl rfl k) ?_
  refine Go.step (g' := (mkF m 29 #[.val (.ref o0), .val (.double d1), .second, .val (.double (FP.dsub d1 mn)), .second] [(.double (FP.ddiv (FP.dsub d1 mn) (FP.l2d (dc + (1 : Int64))))), (.double mn), (.ref o0)])) (fun _ k => XS.ddivS X8.here hx rfl (hb hby d3_28) rfl n28 rfl k) ?_
  refine Go.step (g' := (mkF m 30 #[.val (.ref o0), .val (.double d1), .second, .val (.double (FP.dsub d1 mn)), .second] [(.double (FP.dadd mn (FP.ddiv (FP.dsub d1 mn) (FP.l2d (dc + (1 : Int64)))))), (.ref o0)])) (fun _ k => XS.daddS X8.here hx rfl (hb hby d3_29) rfl n29 rfl k) ?_
  obtain ⟨T9, h9, X9, e9, W9, st9⟩ := putF X8 hx hZ hown (host := "") (Or.inl (hw _ (List.mem_of_getElem? (i := 18) rfl))) Via.refl e8 Q3 (E_o0.wr W2) (Or.inl (hw _ (List.mem_of_getElem? (i := 19) rfl))) (hw _ (List.mem_of_getElem? (i := 3) rfl)) (ty := .double) (by decide) rfl rfl (g := (mkF m 30 #[.val (.ref o0), .val (.double d1), .second, .val (.double (FP.dsub d1 mn)), .second] [(.double (FP.dadd mn (FP.ddiv (FP.dsub d1 mn) (FP.l2d (dc + (1 : Int64)))))), (.ref o0)])) rfl rfl (hb hby d3_30)
  obtain ⟨lc9, X9, N9⟩ := own_pack X9 (Fr.snoc X9 N2 g_o0)
  have Fw9 := Q3.same W9
  refine Go.step (g' := (mkF m 33 #[.val (.ref o0), .val (.double d1), .second, .val (.double (FP.dsub d1 mn)), .second] [])) st9 ?_
  have Q10 := (Q4.other W9 (Or.inr (slot_ne (Or.inl (hw _ (List.mem_of_getElem? (i := 21) rfl))) (Or.inl (hw _ (List.mem_of_getElem? (i := 19) rfl))) (by decide) (t := .double) (t' := .double) (by decide) (by decide))))
  have Q11 := (Fw2.other W9 (Or.inr (slot_ne (Or.inl (hw _ (List.mem_of_getElem? (i := 17) rfl))) (Or.inl (hw _ (List.mem_of_getElem? (i := 19) rfl))) (by decide) (t := .long) (t' := .double) (by decide) (by decide))))
  have Q12 := (Nat.le_trans (Nat.le_trans Z0 (Keep.of_wr W2).1) (Keep.of_wr W9).1)
  refine Go.step (g' := (mkF m 34 #[.val (.ref o0), .val (.double d1), .second, .val (.double (FP.dsub d1 mn)), .second] [(.ref o0)])) (fun _ k => XS.aloadN X9.here hx rfl (hb hby d3_33) rfl rfl  k) ?_
  refine Go.step (g' := (mkF m 35 #[.val (.ref o0), .val (.double d1), .second, .val (.double (FP.dsub d1 mn)), .second] [(.ref o0), (.ref o0)])) (fun _ k => XS.dup X9.here hx rfl (hb hby d3_34) rfl rfl k) ?_
  obtain ⟨T13, X13, e13, st13⟩ := getF X9 hx hZ hown (host := "") (Or.inl (hw _ (List.mem_of_getElem? (i := 20) rfl))) Via.refl e9 Q10 (g := (mkF m 35 #[.val (.ref o0), .val (.double d1), .second, .val (.double (FP.dsub d1 mn)), .second] [(.ref o0), (.ref o0)])) rfl rfl (hb hby d3_35)
  refine Go.step (g' := (mkF m 38 #[.val (.ref o0), .val (.double d1), .second, .val (.double (FP.dsub d1 mn)), .second] [(.double sq), (.ref o0)])) st13 ?_
  refine Go.step (g' := (mkF m 39 #[.val (.ref o0), .val (.double d1), .second, .val (.double (FP.dsub d1 mn)), .second] [(.double (FP.dsub d1 mn)), (.double sq), (.ref o0)])) (fun _ k => XS.dloadN X13.here hx rfl (hb hby d3_38) rfl k) ?_
  refine Go.step (g' := (mkF m 40 #[.val (.ref o0), .val (.double d1), .second, .val (.double (FP.dsub d1 mn)), .second] [(.double d1), (.double (FP.dsub d1 mn)), (.double sq), (.ref o0)])) (fun _ k => XS.dloadN X13.here hx rfl (hb hby d3_39) rfl k) ?_
  refine Go.step (g' := (mkF m 41 #[.val (.ref o0), .val (.double d1), .second, .val (.double (FP.dsub d1 mn)), .second] [(.ref o0), (.double d1), (.double (FP.dsub d1 mn)), (.double sq), (.ref o0)])) (fun _ k => XS.aloadN X13.here hx rfl (hb hby d3_40) rfl rfl  k) ?_
  obtain ⟨T14, X14, e14, st14⟩ := getF X13 hx hZ hown (host := "") (Or.inl (hw _ (List.mem_of_getElem? (i := 18) rfl))) Via.refl e13 Fw9 (g := (mkF m 41 #[.val (.ref o0), .val (.double d1), .second, .val (.double (FP.dsub d1 mn)), .second] [(.ref o0), (.double d1), (.double (FP.dsub d1 mn)), (.double sq), (.ref o0)])) rfl rfl (hb hby d3_41)
  refine Go.step (g' := (mkF m 44 #[.val (.ref o0), .val (.double d1), .second, .val (.double (FP.dsub d1 mn)), .second] [(.double (FP.dadd mn (FP.ddiv (FP.dsub d1 mn) (FP.l2d (dc + (1 : Int64)))))), (.double d1), (.double (FP.dsub d1 mn)), (.double sq), (.ref o0)])) st14 ?_
  refine Go.step (g' := (mkF m 45 #[.val (.ref o0), .val (.double d1), .second, .val (.double (FP.dsub d1 mn)), .second] [(.double (FP.dsub d1 (FP.dadd mn (FP.ddiv (FP.dsub d1 mn) (FP.l2d (dc + (1 : Int64))))))), (.double (FP.dsub d1 mn)), (.double sq), (.ref o0)])) (fun _ k => XS.dsubS X14.here hx rfl (hb hby d3_44) rfl n44 rfl k) ?_
  refine Go.step (g' := (mkF m 46 #[.val (.ref o0), .val (.double d1), .second, .val (.double (FP.dsub d1 mn)), .second] [(.double (FP.dmul (FP.dsub d1 mn) (FP.dsub d1 (FP.dadd mn (FP.ddiv (FP.dsub d1 mn) (FP.l2d (dc + (1 : Int64)))))))), (.double sq), (.ref o0)])) (fun _ k => XS.dmulS X14.here hx rfl (hb hby d3_45) rfl n45 rfl k) ?_
  refine Go.step (g' := (mkF m 47 #[.val (.ref o0), .val (.double d1), .second, .val (.double (FP.dsub d1 mn)), .second] [(.double (FP.dadd sq (FP.dmul (FP.dsub d1 mn) (FP.dsub d1 (FP.dadd mn (FP.ddiv (FP.dsub d1 mn) (FP.l2d (dc + (1 : Int64))))))))), (.ref o0)])) (fun _ k => XS.daddS X14.here hx rfl (hb hby d3_46) rfl n46 rfl k) ?_
  obtain ⟨T15, h15, X15, e15, W15, st15⟩ := putF X14 hx hZ hown (host := "") (Or.inl (hw _ (List.mem_of_getElem? (i := 20) rfl))) Via.refl e14 Q10 ((E_o0.wr W2).wr W9) (Or.inl (hw _ (List.mem_of_getElem? (i := 21) rfl))) (hw _ (List.mem_of_getElem? (i := 3) rfl)) (ty := .double) (by decide) rfl rfl (g := (mkF m 47 #[.val (.ref o0), .val (.double d1), .second, .val (.double (FP.dsub d1 mn)), .second] [(.double (FP.dadd sq (FP.dmul (FP.dsub d1 mn) (FP.dsub d1 (FP.dadd mn (FP.ddiv (FP.dsub d1 mn) (FP.l2d (dc + (1 : Int64))))))))), (.ref o0)])) rfl rfl (hb hby d3_47)
  obtain ⟨lc15, X15, N15⟩ := own_pack X15 (Fr.snoc X15 N9 g_o0)
  have Fw15 := Q10.same W15
  refine Go.step (g' := (mkF m 50 #[.val (.ref o0), .val (.double d1), .second, .val (.double (FP.dsub d1 mn)), .second] [])) st15 ?_
  have Q16 := (Q11.other W15 (Or.inr (slot_ne (Or.inl (hw _ (List.mem_of_getElem? (i := 17) rfl))) (Or.inl (hw _ (List.mem_of_getElem? (i := 21) rfl))) (by decide) (t := .long) (t' := .double) (by decide) (by decide))))
  have Q17 := (Fw9.other W15 (Or.inr (slot_ne (Or.inl (hw _ (List.mem_of_getElem? (i := 19) rfl))) (Or.inl (hw _ (List.mem_of_getElem? (i := 21) rfl))) (by decide) (t := .double) (t' := .double) (by decide) (by decide))))
  have Q18 := ((Q5.wr W9 (Or.inl (List.mem_of_getElem? (i := 0) rfl))).wr W15 (Or.inl (List.mem_of_getElem? (i := 0) rfl)))
  exact Go.ret0 X15 hx hlk Bd.returns (hb hby d3_50) (by decide) (by decide) (by rw [e15]; exact ⟨rfl, N15, Q18, (((E_o0.wr W2).wr W9).wr W15), Q16, Q17, Fw15⟩)
theorem d5_0 : decode prog_21_method_1_code 0 = .ok (.aload_n 0, 1) := by decide +kernel
theorem d5_1 : decode prog_21_method_1_code 1 = .ok (.invokespecial 1, 3) := by decide +kernel
theorem d5_4 : decode prog_21_method_1_code 4 = .ok (.lload_n 1, 1) := by decide +kernel
theorem d5_5 : decode prog_21_method_1_code 5 = .ok (.lconst 0, 1) := by decide +kernel
theorem d5_6 : decode prog_21_method_1_code 6 = .ok (.lcmp, 1) := by decide +kernel
theorem d5_7 : decode prog_21_method_1_code 7 = .ok (.ifCond .le 35, 3) := by decide +kernel
theorem d5_10 : decode prog_21_method_1_code 10 = .ok (.dload_n 3, 1) := by decide +kernel
theorem d5_11 : decode prog_21_method_1_code 11 = .ok (.dconst 0, 1) := by decide +kernel
theorem d5_12 : decode prog_21_method_1_code 12 = .ok (.dcmp .l, 1) := by decide +kernel
theorem d5_13 : decode prog_21_method_1_code 13 = .ok (.ifCond .le 29, 3) := by decide +kernel
theorem d5_16 : decode prog_21_method_1_code 16 = .ok (.dload_n 3, 1) := by decide +kernel
theorem d5_17 : decode prog_21_method_1_code 17 = .ok (.dconst 1, 1) := by decide +kernel
theorem d5_18 : decode prog_21_method_1_code 18 = .ok (.dcmp .g, 1) := by decide +kernel
theorem d5_19 : decode prog_21_method_1_code 19 = .ok (.ifCond .gt 23, 3) := by decide +kernel
theorem d5_22 : decode prog_21_method_1_code 22 = .ok (.dload 5, 2) := by decide +kernel
theorem d5_24 : decode prog_21_method_1_code 24 = .ok (.dconst 0, 1) := by decide +kernel
theorem d5_25 : decode prog_21_method_1_code 25 = .ok (.dcmp .l, 1) := by decide +kernel
theorem d5_26 : decode prog_21_method_1_code 26 = .ok (.ifCond .lt 16, 3) := by decide +kernel
theorem d5_29 : decode prog_21_method_1_code 29 = .ok (.dload 5, 2) := by decide +kernel
theorem d5_31 : decode prog_21_method_1_code 31 = .ok (.ldc2_w 9, 3) := by decide +kernel
theorem d5_34 : decode prog_21_method_1_code 34 = .ok (.dcmp .g, 1) := by decide +kernel
theorem d5_35 : decode prog_21_method_1_code 35 = .ok (.ifCond .ge 7, 3) := by decide +kernel
theorem d5_38 : decode prog_21_method_1_code 38 = .ok (.iconst 1, 1) := by decide +kernel
theorem d5_39 : decode prog_21_method_1_code 39 = .ok (.goto 4, 3) := by decide +kernel
theorem d5_43 : decode prog_21_method_1_code 43 = .ok (.istore 7, 2) := by decide +kernel
theorem d5_45 : decode prog_21_method_1_code 45 = .ok (.lload_n 1, 1) := by decide +kernel
theorem d5_46 : decode prog_21_method_1_code 46 = .ok (.lconst 0, 1) := by decide +kernel
theorem d5_47 : decode prog_21_method_1_code 47 = .ok (.lcmp, 1) := by decide +kernel
theorem d5_48 : decode prog_21_method_1_code 48 = .ok (.ifCond .ne 20, 3) := by decide +kernel
theorem d5_68 : decode prog_21_method_1_code 68 = .ok (.iconst 0, 1) := by decide +kernel
theorem d5_69 : decode prog_21_method_1_code 69 = .ok (.istore 8, 2) := by decide +kernel
theorem d5_71 : decode prog_21_method_1_code 71 = .ok (.iload 7, 2) := by decide +kernel
theorem d5_73 : decode prog_21_method_1_code 73 = .ok (.ifCond .ne 25, 3) := by decide +kernel
theorem d5_98 : decode prog_21_method_1_code 98 = .ok (.aload_n 0, 1) := by decide +kernel
theorem d5_99 : decode prog_21_method_1_code 99 = .ok (.lload_n 1, 1) := by decide +kernel
theorem d5_100 : decode prog_21_method_1_code 100 = .ok (.putfield 20, 3) := by decide +kernel
theorem d5_103 : decode prog_21_method_1_code 103 = .ok (.aload_n 0, 1) := by decide +kernel
theorem d5_104 : decode prog_21_method_1_code 104 = .ok (.dload_n 3, 1) := by decide +kernel
theorem d5_105 : decode prog_21_method_1_code 105 = .ok (.putfield 26, 3) := by decide +kernel
theorem d5_108 : decode prog_21_method_1_code 108 = .ok (.aload_n 0, 1) := by decide +kernel
theorem d5_109 : decode prog_21_method_1_code 109 = .ok (.dload 5, 2) := by decide +kernel
theorem d5_111 : decode prog_21_method_1_code 111 = .ok (.putfield 30, 3) := by decide +kernel
theorem d5_114 : decode prog_21_method_1_code 114 = .ok (.return_, 1) := by decide +kernel
theorem pn_5 : plainName "com/example/laelaps/laelaps/testbed/ScoreMoments" = true := by first | (simp [plainName, overriddenIn]; done) | decide +kernel
theorem ef_5 (m : MethodId) (o0 : Addr) (q1 : Int64) (d2 : UInt64) (d3 : UInt64) : entryFrame m #[(.ref o0), (.long q1), (.double d2), (.double d3)] 9 = mkF m 0 #[.val (.ref o0), .val (.long q1), .second, .val (.double d2), .second, .val (.double d3), .second, .unset, .unset] [] := by first | (simp [entryFrame, mkF, argsToLocals, Value.category]; done) | rfl
def f5_98 : Unit := ()
def f5_69 : Unit := f5_98
def f5_68 : Unit := f5_69
def f5_43 : Unit := f5_68
def f5_38 : Unit := f5_43
def f5_29 : Unit := f5_38
def f5_22 : Unit := f5_29
def f5_16 : Unit := f5_22
def f5_10 : Unit := f5_16
def f5_0 : Unit := f5_10
def Q5 (r : Option Value) (Z : State) (o0 : Addr) (q1 : Int64) (d2 : UInt64) (d3 : UInt64)  (h0 : Heap) (n0 : Nat) (v : Option Value) (h : Heap) (L : List Loc) : Prop := v = r ∧ Fr n0 L ∧ Keep h0 h [o0] ∧ Exa Z h o0 "com/example/laelaps/laelaps/testbed/ScoreMoments" ∧ Fld Z h o0 "com/example/laelaps/laelaps/testbed/ScoreMoments" "documents" "J" (.long q1) ∧ Fld Z h o0 "com/example/laelaps/laelaps/testbed/ScoreMoments" "mean" "D" (.double d2) ∧ Fld Z h o0 "com/example/laelaps/laelaps/testbed/ScoreMoments" "variance" "D" (.double d3)
set_option maxRecDepth 65536 in
set_option maxHeartbeats 40000000 in
theorem rm5 (l : Launch) (Z : State) (a0 : Array Value) (hw : ∀ d ∈ tables_1, d.before a0 Z = true) (ws : List Jvm.Cond) (o0 : Addr) (q1 : Int64) (d2 : UInt64) (d3 : UInt64)  (h0 : Heap) (n0 : Nat) (Z0 : n0 ≤ h0.size) (E_o0 : Exa Z h0 o0 "com/example/laelaps/laelaps/testbed/ScoreMoments") (g_o0 : n0 ≤ o0) (F_documents : Fld Z h0 o0 "com/example/laelaps/laelaps/testbed/ScoreMoments" "documents" "J" (.long (0 : Int64))) (F_mean : Fld Z h0 o0 "com/example/laelaps/laelaps/testbed/ScoreMoments" "mean" "D" (.double (0 : UInt64))) (F_variance : Fld Z h0 o0 "com/example/laelaps/laelaps/testbed/ScoreMoments" "variance" "D" (.double (0 : UInt64))) (c7 : (0 : Int32) < (lcmpW q1 (0 : Int64))) (c13 : (0 : Int32) < (cmpValue (FP.dcmp d2 (0 : UInt64)) .l)) (c19 : ¬ ((0 : Int32) < (cmpValue (FP.dcmp d2 (4607182418800017408 : UInt64)) .g))) (c26 : ¬ ((cmpValue (FP.dcmp d3 (0 : UInt64)) .l) < (0 : Int32))) (c35 : (cmpValue (FP.dcmp d3 (9218868437227405312 : UInt64)) .g) < (0 : Int32)) :
    MetFree l (⟨"com/example/laelaps/laelaps/testbed/ScoreMoments", "<init>", "(JDD)V"⟩ : MethodName) (head1 (Jvm.Cond.code (⟨"com/example/laelaps/laelaps/testbed/ScoreMoments", "<init>", "(JDD)V"⟩ : MethodName) prog_21_method_1_code 9 none :: ws) ({ frames := 1, cells := 0, slots := 0, locals := 12 } : Room)) (fun a U => a = #[(.ref o0), (.long q1), (.double d2), (.double d3)] ∧ Z.Warmed39 U.vm ∧ U.heap = h0) (fun _ _ _ _ _ => True) (fun _ U o U' => ∃ v L, o = .returned v ∧ (Q5 none Z o0 q1 d2 d3 h0 n0) v U'.heap L ∧ FrameEnd U o U' L ({ frames := 1, cells := 0, slots := 0, locals := 12 } : Room).cells ({ frames := 1, cells := 0, slots := 0, locals := 12 } : Room).slots) := by
  refine MetFree.of_bodySF (plainFor_of_name pn_5) hisR ?_
  intro p e s m args below meth c s₁ Bd hml0 hP hK
  obtain ⟨rfl, hZ, hh⟩ := hP
  have hx := Bd.exec
  have hby := Bd.bytes
  have hlk : meth.locks = false := BodyLoose.notSynchronized Bd
  have hml : c.maxLocals = 9 := hml0
  have hown : s.vm.findClass "com/example/laelaps/laelaps/testbed/ScoreMoments" = some m.cls := findClass_of_methodNamed Bd.named
  have hnm := (name_of_methodNamed Bd.named Bd.method).1
  have X0 : Stand p l e ({ frames := 1, cells := 0, slots := 0, locals := 12 } : Room) s m #[(.ref o0), (.long q1), (.double d2), (.double d3)] below meth c s₁ ([] : List Loc) 0 0 := Stand.of_body Bd
  have e0 : s₁.heap = h0 := by rw [← hh, Bd.state]; rfl
  show Go p e below s 0 0 (Q5 none Z o0 q1 d2 d3 h0 n0) s₁ (entryFrame m #[(.ref o0), (.long q1), (.double d2), (.double d3)] 9)
  rw [ef_5 m o0 q1 d2 d3]
  have N0 := Fr.nil n0
  refine Go.step (g' := (mkF m 1 #[.val (.ref o0), .val (.long q1), .second, .val (.double d2), .second, .val (.double d3), .second, .unset, .unset] [(.ref o0)])) (fun _ k => XS.aloadN X0.here hx rfl (hb hby d5_0) rfl rfl  k) ?_
  obtain ⟨T1, X1, e1, st1⟩ := initO X0 hx hZ hown (hw _ (List.mem_of_getElem? (i := 34) rfl)) (hw _ (List.mem_of_getElem? (i := 9) rfl)) (hw _ (List.mem_of_getElem? (i := 10) rfl)) e0 (g := (mkF m 1 #[.val (.ref o0), .val (.long q1), .second, .val (.double d2), .second, .val (.double d3), .second, .unset, .unset] [(.ref o0)])) rfl (by rw [hml]; rfl) rfl (hb hby d5_1) (by decide) (W := 0) (by show 2 * 0 + _ ≤ _; exact Nat.le_of_eq rfl) (by decide)
  refine Go.step (g' := (mkF m 4 #[.val (.ref o0), .val (.long q1), .second, .val (.double d2), .second, .val (.double d3), .second, .unset, .unset] [])) st1 ?_
  refine Go.step (g' := (mkF m 5 #[.val (.ref o0), .val (.long q1), .second, .val (.double d2), .second, .val (.double d3), .second, .unset, .unset] [(.long q1)])) (fun _ k => XS.lloadN X1.here hx rfl (hb hby d5_4) rfl  k) ?_
  refine Go.step (g' := (mkF m 6 #[.val (.ref o0), .val (.long q1), .second, .val (.double d2), .second, .val (.double d3), .second, .unset, .unset] [(.long (0 : Int64)), (.long q1)])) (fun _ k => XS.lconst X1.here hx rfl (hb hby d5_5) k) ?_
  refine Go.step (g' := (mkF m 7 #[.val (.ref o0), .val (.long q1), .second, .val (.double d2), .second, .val (.double d3), .second, .unset, .unset] [(.int (lcmpW q1 (0 : Int64)))])) (fun _ k => XS.lcmp X1.here hx rfl (hb hby d5_6) rfl k) ?_
  refine Go.step (g' := (mkF m 10 #[.val (.ref o0), .val (.long q1), .second, .val (.double d2), .second, .val (.double d3), .second, .unset, .unset] [])) (fun _ k => XS.ifNo X1.here hx rfl (hb hby d5_7) rfl ((if0 _ _).trans (tlt (c7 : (0 : Int32) < (lcmpW q1 (0 : Int64)))).2.2.2) k) ?_
  skip
  refine Go.step (g' := (mkF m 11 #[.val (.ref o0), .val (.long q1), .second, .val (.double d2), .second, .val (.double d3), .second, .unset, .unset] [(.double d2)])) (fun _ k => XS.dloadN X1.here hx rfl (hb hby d5_10) rfl k) ?_
  refine Go.step (g' := (mkF m 12 #[.val (.ref o0), .val (.long q1), .second, .val (.double d2), .second, .val (.double d3), .second, .unset, .unset] [(.double (0 : UInt64)), (.double d2)])) (fun _ k => XS.dconst0 X1.here hx rfl (hb hby d5_11) (by decide +kernel) k) ?_
  refine Go.step (g' := (mkF m 13 #[.val (.ref o0), .val (.long q1), .second, .val (.double d2), .second, .val (.double d3), .second, .unset, .unset] [(.int (cmpValue (FP.dcmp d2 (0 : UInt64)) .l))])) (fun _ k => XS.dcmpS X1.here hx rfl (hb hby d5_12) rfl rfl k) ?_
  refine Go.step (g' := (mkF m 16 #[.val (.ref o0), .val (.long q1), .second, .val (.double d2), .second, .val (.double d3), .second, .unset, .unset] [])) (fun _ k => XS.ifNo X1.here hx rfl (hb hby d5_13) rfl ((if0 _ _).trans (tlt (c13 : (0 : Int32) < (cmpValue (FP.dcmp d2 (0 : UInt64)) .l))).2.2.2) k) ?_
  skip
  refine Go.step (g' := (mkF m 17 #[.val (.ref o0), .val (.long q1), .second, .val (.double d2), .second, .val (.double d3), .second, .unset, .unset] [(.double d2)])) (fun _ k => XS.dloadN X1.here hx rfl (hb hby d5_16) rfl k) ?_
  refine Go.step (g' := (mkF m 18 #[.val (.ref o0), .val (.long q1), .second, .val (.double d2), .second, .val (.double d3), .second, .unset, .unset] [(.double (4607182418800017408 : UInt64)), (.double d2)])) (fun _ k => XS.dconst1 X1.here hx rfl (hb hby d5_17) (by decide +kernel) k) ?_
  refine Go.step (g' := (mkF m 19 #[.val (.ref o0), .val (.long q1), .second, .val (.double d2), .second, .val (.double d3), .second, .unset, .unset] [(.int (cmpValue (FP.dcmp d2 (4607182418800017408 : UInt64)) .g))])) (fun _ k => XS.dcmpS X1.here hx rfl (hb hby d5_18) rfl rfl k) ?_
  refine Go.step (g' := (mkF m 22 #[.val (.ref o0), .val (.long q1), .second, .val (.double d2), .second, .val (.double d3), .second, .unset, .unset] [])) (fun _ k => XS.ifNo X1.here hx rfl (hb hby d5_19) rfl ((if0 _ _).trans (flt (c19 : ¬ ((0 : Int32) < (cmpValue (FP.dcmp d2 (4607182418800017408 : UInt64)) .g)))).2.2.1) k) ?_
  skip
  refine Go.step (g' := (mkF m 24 #[.val (.ref o0), .val (.long q1), .second, .val (.double d2), .second, .val (.double d3), .second, .unset, .unset] [(.double d3)])) (fun _ k => XS.dload X1.here hx rfl (hb hby d5_22) rfl k) ?_
  refine Go.step (g' := (mkF m 25 #[.val (.ref o0), .val (.long q1), .second, .val (.double d2), .second, .val (.double d3), .second, .unset, .unset] [(.double (0 : UInt64)), (.double d3)])) (fun _ k => XS.dconst0 X1.here hx rfl (hb hby d5_24) (by decide +kernel) k) ?_
  refine Go.step (g' := (mkF m 26 #[.val (.ref o0), .val (.long q1), .second, .val (.double d2), .second, .val (.double d3), .second, .unset, .unset] [(.int (cmpValue (FP.dcmp d3 (0 : UInt64)) .l))])) (fun _ k => XS.dcmpS X1.here hx rfl (hb hby d5_25) rfl rfl k) ?_
  refine Go.step (g' := (mkF m 29 #[.val (.ref o0), .val (.long q1), .second, .val (.double d2), .second, .val (.double d3), .second, .unset, .unset] [])) (fun _ k => XS.ifNo X1.here hx rfl (hb hby d5_26) rfl ((if0 _ _).trans (flt (c26 : ¬ ((cmpValue (FP.dcmp d3 (0 : UInt64)) .l) < (0 : Int32)))).1) k) ?_
  skip
  refine Go.step (g' := (mkF m 31 #[.val (.ref o0), .val (.long q1), .second, .val (.double d2), .second, .val (.double d3), .second, .unset, .unset] [(.double d3)])) (fun _ k => XS.dload X1.here hx rfl (hb hby d5_29) rfl k) ?_
  have kd2 : (Jvm.Cond.constantDouble "com/example/laelaps/laelaps/testbed/ScoreMoments" 9 (9218868437227405312 : UInt64)).before #[(.ref o0), (.long q1), (.double d2), (.double d3)] s = true := mvT hZ (hw _ (List.mem_of_getElem? (i := 35) rfl))
  refine Go.step (g' := (mkF m 34 #[.val (.ref o0), .val (.long q1), .second, .val (.double d2), .second, .val (.double d3), .second, .unset, .unset] [(.double (9218868437227405312 : UInt64)), (.double d3)])) (fun _ k => X1.ldc2DoubleC hx hown kd2 (g := (mkF m 31 #[.val (.ref o0), .val (.long q1), .second, .val (.double d2), .second, .val (.double d3), .second, .unset, .unset] [(.double d3)])) rfl (hb hby d5_31) _ k) ?_
  refine Go.step (g' := (mkF m 35 #[.val (.ref o0), .val (.long q1), .second, .val (.double d2), .second, .val (.double d3), .second, .unset, .unset] [(.int (cmpValue (FP.dcmp d3 (9218868437227405312 : UInt64)) .g))])) (fun _ k => XS.dcmpS X1.here hx rfl (hb hby d5_34) rfl rfl k) ?_
  refine Go.step (g' := (mkF m 38 #[.val (.ref o0), .val (.long q1), .second, .val (.double d2), .second, .val (.double d3), .second, .unset, .unset] [])) (fun _ k => XS.ifNo X1.here hx rfl (hb hby d5_35) rfl ((if0 _ _).trans (tlt (c35 : (cmpValue (FP.dcmp d3 (9218868437227405312 : UInt64)) .g) < (0 : Int32))).2.1) k) ?_
  skip
  refine Go.step (g' := (mkF m 39 #[.val (.ref o0), .val (.long q1), .second, .val (.double d2), .second, .val (.double d3), .second, .unset, .unset] [(.int (1 : Int32))])) (fun _ k => XS.iconst X1.here hx rfl (hb hby d5_38) k) ?_
  refine Go.step (g' := (mkF m 43 #[.val (.ref o0), .val (.long q1), .second, .val (.double d2), .second, .val (.double d3), .second, .unset, .unset] [(.int (1 : Int32))])) (fun _ k => XS.goto X1.here hx rfl (pc0 := 39) (pc' := 43) rfl (hb hby d5_39) (by decide) (by decide) k) ?_
  skip
  refine Go.step (g' := (mkF m 45 #[.val (.ref o0), .val (.long q1), .second, .val (.double d2), .second, .val (.double d3), .second, .val (.int (1 : Int32)), .unset] [])) (fun _ k => XS.istore X1.here hx rfl (hb hby d5_43) rfl (l' := #[.val (.ref o0), .val (.long q1), .second, .val (.double d2), .second, .val (.double d3), .second, .val (.int (1 : Int32)), .unset]) rfl k) ?_
  refine Go.step (g' := (mkF m 46 #[.val (.ref o0), .val (.long q1), .second, .val (.double d2), .second, .val (.double d3), .second, .val (.int (1 : Int32)), .unset] [(.long q1)])) (fun _ k => XS.lloadN X1.here hx rfl (hb hby d5_45) rfl  k) ?_
  refine Go.step (g' := (mkF m 47 #[.val (.ref o0), .val (.long q1), .second, .val (.double d2), .second, .val (.double d3), .second, .val (.int (1 : Int32)), .unset] [(.long (0 : Int64)), (.long q1)])) (fun _ k => XS.lconst X1.here hx rfl (hb hby d5_46) k) ?_
  refine Go.step (g' := (mkF m 48 #[.val (.ref o0), .val (.long q1), .second, .val (.double d2), .second, .val (.double d3), .second, .val (.int (1 : Int32)), .unset] [(.int (lcmpW q1 (0 : Int64)))])) (fun _ k => XS.lcmp X1.here hx rfl (hb hby d5_47) rfl k) ?_
  refine Go.step (g' := (mkF m 68 #[.val (.ref o0), .val (.long q1), .second, .val (.double d2), .second, .val (.double d3), .second, .val (.int (1 : Int32)), .unset] [])) (fun _ k => XS.ifYes X1.here hx rfl (pc0 := 48) (pc' := 68) rfl (hb hby d5_48) rfl ((if0 _ _).trans (feq (own_pos c7 : ¬ ((lcmpW q1 (0 : Int64)) = (0 : Int32)))).2) (by decide) (by decide) k) ?_
  skip
  refine Go.step (g' := (mkF m 69 #[.val (.ref o0), .val (.long q1), .second, .val (.double d2), .second, .val (.double d3), .second, .val (.int (1 : Int32)), .unset] [(.int (0 : Int32))])) (fun _ k => XS.iconst X1.here hx rfl (hb hby d5_68) k) ?_
  skip
  refine Go.step (g' := (mkF m 71 #[.val (.ref o0), .val (.long q1), .second, .val (.double d2), .second, .val (.double d3), .second, .val (.int (1 : Int32)), .val (.int (0 : Int32))] [])) (fun _ k => XS.istore X1.here hx rfl (hb hby d5_69) rfl (l' := #[.val (.ref o0), .val (.long q1), .second, .val (.double d2), .second, .val (.double d3), .second, .val (.int (1 : Int32)), .val (.int (0 : Int32))]) rfl k) ?_
  refine Go.step (g' := (mkF m 73 #[.val (.ref o0), .val (.long q1), .second, .val (.double d2), .second, .val (.double d3), .second, .val (.int (1 : Int32)), .val (.int (0 : Int32))] [(.int (1 : Int32))])) (fun _ k => XS.iload X1.here hx rfl (hb hby d5_71) rfl  k) ?_
  refine Go.step (g' := (mkF m 98 #[.val (.ref o0), .val (.long q1), .second, .val (.double d2), .second, .val (.double d3), .second, .val (.int (1 : Int32)), .val (.int (0 : Int32))] [])) (fun _ k => XS.ifYes X1.here hx rfl (pc0 := 73) (pc' := 98) rfl (hb hby d5_73) rfl ((if0 _ _).trans (feq (by decide : ¬ ((1 : Int32) = (0 : Int32)))).2) (by decide) (by decide) k) ?_
  skip
  refine Go.step (g' := (mkF m 99 #[.val (.ref o0), .val (.long q1), .second, .val (.double d2), .second, .val (.double d3), .second, .val (.int (1 : Int32)), .val (.int (0 : Int32))] [(.ref o0)])) (fun _ k => XS.aloadN X1.here hx rfl (hb hby d5_98) rfl rfl  k) ?_
  refine Go.step (g' := (mkF m 100 #[.val (.ref o0), .val (.long q1), .second, .val (.double d2), .second, .val (.double d3), .second, .val (.int (1 : Int32)), .val (.int (0 : Int32))] [(.long q1), (.ref o0)])) (fun _ k => XS.lloadN X1.here hx rfl (hb hby d5_99) rfl  k) ?_
  obtain ⟨T3, h3, X3, e3, W3, st3⟩ := putF X1 hx hZ hown (host := "") (Or.inl (hw _ (List.mem_of_getElem? (i := 36) rfl))) Via.refl e1 F_documents E_o0 (Or.inr ⟨(hw _ (List.mem_of_getElem? (i := 37) rfl)), rfl, hnm⟩) (hw _ (List.mem_of_getElem? (i := 29) rfl)) (ty := .long) (by decide) rfl rfl (g := (mkF m 100 #[.val (.ref o0), .val (.long q1), .second, .val (.double d2), .second, .val (.double d3), .second, .val (.int (1 : Int32)), .val (.int (0 : Int32))] [(.long q1), (.ref o0)])) rfl rfl (hb hby d5_100)
  obtain ⟨lc3, X3, N3⟩ := own_pack X3 (Fr.snoc X3 N0 g_o0)
  have Fw3 := F_documents.same W3
  refine Go.step (g' := (mkF m 103 #[.val (.ref o0), .val (.long q1), .second, .val (.double d2), .second, .val (.double d3), .second, .val (.int (1 : Int32)), .val (.int (0 : Int32))] [])) st3 ?_
  have Q4 := (F_mean.other W3 (Or.inr (slot_ne (Or.inr (hw _ (List.mem_of_getElem? (i := 39) rfl))) (Or.inr (hw _ (List.mem_of_getElem? (i := 37) rfl))) (by decide) (t := .double) (t' := .long) (by decide) (by decide))))
  have Q5 := (F_variance.other W3 (Or.inr (slot_ne (Or.inr (hw _ (List.mem_of_getElem? (i := 41) rfl))) (Or.inr (hw _ (List.mem_of_getElem? (i := 37) rfl))) (by decide) (t := .double) (t' := .long) (by decide) (by decide))))
  have Q6 := ((Keep.refl h0 [o0]).wr W3 (Or.inl (List.mem_of_getElem? (i := 0) rfl)))
  refine Go.step (g' := (mkF m 104 #[.val (.ref o0), .val (.long q1), .second, .val (.double d2), .second, .val (.double d3), .second, .val (.int (1 : Int32)), .val (.int (0 : Int32))] [(.ref o0)])) (fun _ k => XS.aloadN X3.here hx rfl (hb hby d5_103) rfl rfl  k) ?_
  refine Go.step (g' := (mkF m 105 #[.val (.ref o0), .val (.long q1), .second, .val (.double d2), .second, .val (.double d3), .second, .val (.int (1 : Int32)), .val (.int (0 : Int32))] [(.double d2), (.ref o0)])) (fun _ k => XS.dloadN X3.here hx rfl (hb hby d5_104) rfl k) ?_
  obtain ⟨T7, h7, X7, e7, W7, st7⟩ := putF X3 hx hZ hown (host := "") (Or.inl (hw _ (List.mem_of_getElem? (i := 38) rfl))) Via.refl e3 Q4 (E_o0.wr W3) (Or.inr ⟨(hw _ (List.mem_of_getElem? (i := 39) rfl)), rfl, hnm⟩) (hw _ (List.mem_of_getElem? (i := 29) rfl)) (ty := .double) (by decide) rfl rfl (g := (mkF m 105 #[.val (.ref o0), .val (.long q1), .second, .val (.double d2), .second, .val (.double d3), .second, .val (.int (1 : Int32)), .val (.int (0 : Int32))] [(.double d2), (.ref o0)])) rfl rfl (hb hby d5_105)
  obtain ⟨lc7, X7, N7⟩ := own_pack X7 (Fr.snoc X7 N3 g_o0)
  have Fw7 := Q4.same W7
  refine Go.step (g' := (mkF m 108 #[.val (.ref o0), .val (.long q1), .second, .val (.double d2), .second, .val (.double d3), .second, .val (.int (1 : Int32)), .val (.int (0 : Int32))] [])) st7 ?_
  have Q8 := (Q5.other W7 (Or.inr (slot_ne (Or.inr (hw _ (List.mem_of_getElem? (i := 41) rfl))) (Or.inr (hw _ (List.mem_of_getElem? (i := 39) rfl))) (by decide) (t := .double) (t' := .double) (by decide) (by decide))))
  have Q9 := (Fw3.other W7 (Or.inr (slot_ne (Or.inr (hw _ (List.mem_of_getElem? (i := 37) rfl))) (Or.inr (hw _ (List.mem_of_getElem? (i := 39) rfl))) (by decide) (t := .long) (t' := .double) (by decide) (by decide))))
  have Q10 := (Nat.le_trans (Nat.le_trans Z0 (Keep.of_wr W3).1) (Keep.of_wr W7).1)
  refine Go.step (g' := (mkF m 109 #[.val (.ref o0), .val (.long q1), .second, .val (.double d2), .second, .val (.double d3), .second, .val (.int (1 : Int32)), .val (.int (0 : Int32))] [(.ref o0)])) (fun _ k => XS.aloadN X7.here hx rfl (hb hby d5_108) rfl rfl  k) ?_
  refine Go.step (g' := (mkF m 111 #[.val (.ref o0), .val (.long q1), .second, .val (.double d2), .second, .val (.double d3), .second, .val (.int (1 : Int32)), .val (.int (0 : Int32))] [(.double d3), (.ref o0)])) (fun _ k => XS.dload X7.here hx rfl (hb hby d5_109) rfl k) ?_
  obtain ⟨T11, h11, X11, e11, W11, st11⟩ := putF X7 hx hZ hown (host := "") (Or.inl (hw _ (List.mem_of_getElem? (i := 40) rfl))) Via.refl e7 Q8 ((E_o0.wr W3).wr W7) (Or.inr ⟨(hw _ (List.mem_of_getElem? (i := 41) rfl)), rfl, hnm⟩) (hw _ (List.mem_of_getElem? (i := 29) rfl)) (ty := .double) (by decide) rfl rfl (g := (mkF m 111 #[.val (.ref o0), .val (.long q1), .second, .val (.double d2), .second, .val (.double d3), .second, .val (.int (1 : Int32)), .val (.int (0 : Int32))] [(.double d3), (.ref o0)])) rfl rfl (hb hby d5_111)
  obtain ⟨lc11, X11, N11⟩ := own_pack X11 (Fr.snoc X11 N7 g_o0)
  have Fw11 := Q8.same W11
  refine Go.step (g' := (mkF m 114 #[.val (.ref o0), .val (.long q1), .second, .val (.double d2), .second, .val (.double d3), .second, .val (.int (1 : Int32)), .val (.int (0 : Int32))] [])) st11 ?_
  have Q12 := (Q9.other W11 (Or.inr (slot_ne (Or.inr (hw _ (List.mem_of_getElem? (i := 37) rfl))) (Or.inr (hw _ (List.mem_of_getElem? (i := 41) rfl))) (by decide) (t := .long) (t' := .double) (by decide) (by decide))))
  have Q13 := (Fw7.other W11 (Or.inr (slot_ne (Or.inr (hw _ (List.mem_of_getElem? (i := 39) rfl))) (Or.inr (hw _ (List.mem_of_getElem? (i := 41) rfl))) (by decide) (t := .double) (t' := .double) (by decide) (by decide))))
  have Q14 := ((Q6.wr W7 (Or.inl (List.mem_of_getElem? (i := 0) rfl))).wr W11 (Or.inl (List.mem_of_getElem? (i := 0) rfl)))
  exact Go.ret0 X11 hx hlk Bd.returns (hb hby d5_114) (by decide) (by decide) (by rw [e11]; exact ⟨rfl, N11, Q14, (((E_o0.wr W3).wr W7).wr W11), Q12, Q13, Fw11⟩)
theorem d4_0 : decode prog_22_method_3_code 0 = .ok (.new 20, 3) := by decide +kernel
theorem d4_3 : decode prog_22_method_3_code 3 = .ok (.dup, 1) := by decide +kernel
theorem d4_4 : decode prog_22_method_3_code 4 = .ok (.aload_n 0, 1) := by decide +kernel
theorem d4_5 : decode prog_22_method_3_code 5 = .ok (.getfield 7, 3) := by decide +kernel
theorem d4_8 : decode prog_22_method_3_code 8 = .ok (.aload_n 0, 1) := by decide +kernel
theorem d4_9 : decode prog_22_method_3_code 9 = .ok (.getfield 13, 3) := by decide +kernel
theorem d4_12 : decode prog_22_method_3_code 12 = .ok (.aload_n 0, 1) := by decide +kernel
theorem d4_13 : decode prog_22_method_3_code 13 = .ok (.getfield 17, 3) := by decide +kernel
theorem d4_16 : decode prog_22_method_3_code 16 = .ok (.aload_n 0, 1) := by decide +kernel
theorem d4_17 : decode prog_22_method_3_code 17 = .ok (.getfield 7, 3) := by decide +kernel
theorem d4_20 : decode prog_22_method_3_code 20 = .ok (.l2d, 1) := by decide +kernel
theorem d4_21 : decode prog_22_method_3_code 21 = .ok (.ddiv, 1) := by decide +kernel
theorem d4_22 : decode prog_22_method_3_code 22 = .ok (.invokespecial 22, 3) := by decide +kernel
theorem d4_25 : decode prog_22_method_3_code 25 = .ok (.areturn, 1) := by decide +kernel
theorem pn_4 : plainName "com/example/laelaps/laelaps/testbed/ScoreMoments$Accumulator" = true := by first | (simp [plainName, overriddenIn]; done) | decide +kernel
theorem ef_4 (m : MethodId) (o0 : Addr) : entryFrame m #[(.ref o0)] 1 = mkF m 0 #[.val (.ref o0)] [] := by first | (simp [entryFrame, mkF, argsToLocals, Value.category]; done) | rfl
def QM (Z : State) (dc : Int64) (mn vr : UInt64) (h0 : Heap) (n0 : Nat) (v : Option Value) (h : Heap) (L : List Loc) : Prop :=
  ∃ c : Addr, v = some (.ref c) ∧ Fr n0 L ∧ Keep h0 h [] ∧ h0.size ≤ c ∧ Exa Z h c "com/example/laelaps/laelaps/testbed/ScoreMoments" ∧ Fld Z h c "com/example/laelaps/laelaps/testbed/ScoreMoments" "documents" "J" (.long dc) ∧ Fld Z h c "com/example/laelaps/laelaps/testbed/ScoreMoments" "mean" "D" (.double mn) ∧ Fld Z h c "com/example/laelaps/laelaps/testbed/ScoreMoments" "variance" "D" (.double vr)
set_option maxRecDepth 65536 in
set_option maxHeartbeats 40000000 in
theorem rm4 (l : Launch) (Z : State) (a0 : Array Value) (hw : ∀ d ∈ tables_1, d.before a0 Z = true) (ws : List Jvm.Cond) (o0 : Addr) (dc : Int64) (mn : UInt64) (sq : UInt64) (h0 : Heap) (n0 : Nat) (Z0 : n0 ≤ h0.size) (F_documents : Fld Z h0 o0 "com/example/laelaps/laelaps/testbed/ScoreMoments$Accumulator" "documents" "J" (.long dc)) (F_mean : Fld Z h0 o0 "com/example/laelaps/laelaps/testbed/ScoreMoments$Accumulator" "mean" "D" (.double mn)) (F_squares : Fld Z h0 o0 "com/example/laelaps/laelaps/testbed/ScoreMoments$Accumulator" "squares" "D" (.double sq)) (n21 : Jvm.Free.Fl.NoNaN64 (FP.ddiv sq (FP.l2d dc))) (c7 : (0 : Int32) < (lcmpW dc (0 : Int64))) (c13 : (0 : Int32) < (cmpValue (FP.dcmp mn (0 : UInt64)) .l)) (c19 : ¬ ((0 : Int32) < (cmpValue (FP.dcmp mn (4607182418800017408 : UInt64)) .g))) (c26 : ¬ ((cmpValue (FP.dcmp (FP.ddiv sq (FP.l2d dc)) (0 : UInt64)) .l) < (0 : Int32))) (c35 : (cmpValue (FP.dcmp (FP.ddiv sq (FP.l2d dc)) (9218868437227405312 : UInt64)) .g) < (0 : Int32)) :
    MetFree l (⟨"com/example/laelaps/laelaps/testbed/ScoreMoments$Accumulator", "moments", "()Lcom/example/laelaps/laelaps/testbed/ScoreMoments;"⟩ : MethodName) (head1 (Jvm.Cond.code (⟨"com/example/laelaps/laelaps/testbed/ScoreMoments$Accumulator", "moments", "()Lcom/example/laelaps/laelaps/testbed/ScoreMoments;"⟩ : MethodName) prog_22_method_3_code 1 (some (.object "com/example/laelaps/laelaps/testbed/ScoreMoments")) :: ws) ({ frames := 2, cells := 1, slots := 3, locals := 33 } : Room)) (fun a U => a = #[(.ref o0)] ∧ Z.Warmed39 U.vm ∧ U.heap = h0) (fun _ _ _ _ _ => True) (fun _ U o U' => ∃ v L, o = .returned v ∧ (QM Z dc mn (FP.ddiv sq (FP.l2d dc)) h0 n0) v U'.heap L ∧ FrameEnd U o U' L ({ frames := 2, cells := 1, slots := 3, locals := 33 } : Room).cells ({ frames := 2, cells := 1, slots := 3, locals := 33 } : Room).slots) := by
  refine MetFree.of_bodySF (plainFor_of_name pn_4) hisR ?_
  intro p e s m args below meth c s₁ Bd hml0 hP hK
  obtain ⟨rfl, hZ, hh⟩ := hP
  have hx := Bd.exec
  have hby := Bd.bytes
  have hlk : meth.locks = false := BodyLoose.notSynchronized Bd
  have hml : c.maxLocals = 1 := hml0
  have hown : s.vm.findClass "com/example/laelaps/laelaps/testbed/ScoreMoments$Accumulator" = some m.cls := findClass_of_methodNamed Bd.named
  have hnm := (name_of_methodNamed Bd.named Bd.method).1
  have X0 : Stand p l e ({ frames := 2, cells := 1, slots := 3, locals := 33 } : Room) s m #[(.ref o0)] below meth c s₁ ([] : List Loc) 0 0 := Stand.of_body Bd
  have e0 : s₁.heap = h0 := by rw [← hh, Bd.state]; rfl
  show Go p e below s 1 3 (QM Z dc mn (FP.ddiv sq (FP.l2d dc)) h0 n0) s₁ (entryFrame m #[(.ref o0)] 1)
  rw [ef_4 m o0]
  have N0 := Fr.nil n0
  obtain ⟨T1, h1, X1, e1, E1, A1, D1, -, st1⟩ := newO X0 hx hZ hown (hw _ (List.mem_of_getElem? (i := 28) rfl)) (hw _ (List.mem_of_getElem? (i := 29) rfl)) (hw _ (List.mem_of_getElem? (i := 30) rfl)) e0 (g := (mkF m 0 #[.val (.ref o0)] [])) rfl (hb hby d4_0) (by decide) (by decide)
  obtain ⟨b1, g1⟩ : ∃ z, z = h0.size := ⟨_, rfl⟩
  rw [← g1] at A1 D1 st1
  have ne_o0_b1 : o0 ≠ b1 := Nat.ne_of_lt (Nat.lt_of_lt_of_le F_documents.lt (Nat.le_of_eq g1.symm))
  have g_b1 : n0 ≤ b1 := Nat.le_trans Z0 (Nat.le_of_eq g1.symm)
  have sz_b1 : h0.size ≤ b1 := Nat.le_trans (Keep.refl h0 []).1 (Nat.le_of_eq g1.symm)
  have F1_documents : Fld Z h1 b1 "com/example/laelaps/laelaps/testbed/ScoreMoments" "documents" "J" (.long (0 : Int64)) := D1 (Or.inr (hw _ (List.mem_of_getElem? (i := 37) rfl))) (ty := .long) (by decide)
  have F1_mean : Fld Z h1 b1 "com/example/laelaps/laelaps/testbed/ScoreMoments" "mean" "D" (.double (0 : UInt64)) := D1 (Or.inr (hw _ (List.mem_of_getElem? (i := 39) rfl))) (ty := .double) (by decide)
  have F1_variance : Fld Z h1 b1 "com/example/laelaps/laelaps/testbed/ScoreMoments" "variance" "D" (.double (0 : UInt64)) := D1 (Or.inr (hw _ (List.mem_of_getElem? (i := 41) rfl))) (ty := .double) (by decide)
  refine Go.step (g' := (mkF m 3 #[.val (.ref o0)] [(.ref b1)])) st1 ?_
  refine Go.step (g' := (mkF m 4 #[.val (.ref o0)] [(.ref b1), (.ref b1)])) (fun _ k => XS.dup X1.here hx rfl (hb hby d4_3) rfl rfl k) ?_
  refine Go.step (g' := (mkF m 5 #[.val (.ref o0)] [(.ref o0), (.ref b1), (.ref b1)])) (fun _ k => XS.aloadN X1.here hx rfl (hb hby d4_4) rfl rfl  k) ?_
  obtain ⟨T2, X2, e2, st2⟩ := getF X1 hx hZ hown (host := "") (Or.inl (hw _ (List.mem_of_getElem? (i := 16) rfl))) Via.refl e1 (F_documents.ext E1) (g := (mkF m 5 #[.val (.ref o0)] [(.ref o0), (.ref b1), (.ref b1)])) rfl rfl (hb hby d4_5)
  refine Go.step (g' := (mkF m 8 #[.val (.ref o0)] [(.long dc), (.ref b1), (.ref b1)])) st2 ?_
  refine Go.step (g' := (mkF m 9 #[.val (.ref o0)] [(.ref o0), (.long dc), (.ref b1), (.ref b1)])) (fun _ k => XS.aloadN X2.here hx rfl (hb hby d4_8) rfl rfl  k) ?_
  obtain ⟨T3, X3, e3, st3⟩ := getF X2 hx hZ hown (host := "") (Or.inl (hw _ (List.mem_of_getElem? (i := 18) rfl))) Via.refl e2 (F_mean.ext E1) (g := (mkF m 9 #[.val (.ref o0)] [(.ref o0), (.long dc), (.ref b1), (.ref b1)])) rfl rfl (hb hby d4_9)
  refine Go.step (g' := (mkF m 12 #[.val (.ref o0)] [(.double mn), (.long dc), (.ref b1), (.ref b1)])) st3 ?_
  refine Go.step (g' := (mkF m 13 #[.val (.ref o0)] [(.ref o0), (.double mn), (.long dc), (.ref b1), (.ref b1)])) (fun _ k => XS.aloadN X3.here hx rfl (hb hby d4_12) rfl rfl  k) ?_
  obtain ⟨T4, X4, e4, st4⟩ := getF X3 hx hZ hown (host := "") (Or.inl (hw _ (List.mem_of_getElem? (i := 20) rfl))) Via.refl e3 (F_squares.ext E1) (g := (mkF m 13 #[.val (.ref o0)] [(.ref o0), (.double mn), (.long dc), (.ref b1), (.ref b1)])) rfl rfl (hb hby d4_13)
  refine Go.step (g' := (mkF m 16 #[.val (.ref o0)] [(.double sq), (.double mn), (.long dc), (.ref b1), (.ref b1)])) st4 ?_
  refine Go.step (g' := (mkF m 17 #[.val (.ref o0)] [(.ref o0), (.double sq), (.double mn), (.long dc), (.ref b1), (.ref b1)])) (fun _ k => XS.aloadN X4.here hx rfl (hb hby d4_16) rfl rfl  k) ?_
  obtain ⟨T5, X5, e5, st5⟩ := getF X4 hx hZ hown (host := "") (Or.inl (hw _ (List.mem_of_getElem? (i := 16) rfl))) Via.refl e4 (F_documents.ext E1) (g := (mkF m 17 #[.val (.ref o0)] [(.ref o0), (.double sq), (.double mn), (.long dc), (.ref b1), (.ref b1)])) rfl rfl (hb hby d4_17)
  refine Go.step (g' := (mkF m 20 #[.val (.ref o0)] [(.long dc), (.double sq), (.double mn), (.long dc), (.ref b1), (.ref b1)])) st5 ?_
  refine Go.step (g' := (mkF m 21 #[.val (.ref o0)] [(.double (FP.l2d dc)), (.double sq), (.double mn), (.long dc), (.ref b1), (.ref b1)])) (fun _ k => XS.l2dS X5.here hx rfl (hb hby d4_20) rfl rfl k) ?_
  refine Go.step (g' := (mkF m 22 #[.val (.ref o0)] [(.double (FP.ddiv sq (FP.l2d dc))), (.double mn), (.long dc), (.ref b1), (.ref b1)])) (fun _ k => XS.ddivS X5.here hx rfl (hb hby d4_21) rfl n21 rfl k) ?_
  obtain ⟨_, _, ⟨T6, L6, k6, n6⟩, -, X6, ⟨Lc6, hQ6, l6, y6, z6⟩, st6⟩ := X5.specialBack hx (y := (⟨"com/example/laelaps/laelaps/testbed/ScoreMoments", "<init>", "(JDD)V"⟩ : MethodName)) rfl hown (mvT hZ (hw _ (List.mem_of_getElem? (i := 31) rfl))) (mvT hZ (hw _ (List.mem_of_getElem? (i := 32) rfl))) (mvT hZ (hw _ (List.mem_of_getElem? (i := 33) rfl))) (by decide) (backOf (W := 1) (rm5 l Z a0 hw [] b1 dc mn (FP.ddiv sq (FP.l2d dc)) h1 n0 (Nat.le_trans Z0 E1.1) A1 g_b1 F1_documents F1_mean F1_variance c7 c13 c19 c26 c35) hZ (hw _ (List.mem_of_getElem? (i := 33) rfl)) (hw _ (List.mem_of_getElem? (i := 30) rfl)) (by decide) (by decide)) (g := (mkF m 22 #[.val (.ref o0)] [(.double (FP.ddiv sq (FP.l2d dc))), (.double mn), (.long dc), (.ref b1), (.ref b1)])) rfl (by rw [hml]; rfl) (Steps.refl _) (a := b1) (argsL := [(.long dc), (.double mn), (.double (FP.ddiv sq (FP.l2d dc)))]) (rest := [(.ref b1)]) (lenOf pd_0 rfl) rfl (by show 2 * 0 + _ ≤ _; exact Nat.le_of_eq rfl) (hb hby d4_22) (fun _ _ => ⟨rfl, e5, (by decide : (0 + 1) + 0 ≤ _), (by decide : (0 + 3) + 0 ≤ _)⟩)
  dsimp only [Pt.U, Pt.locs, Pt.cells, Pt.slots] at X6 l6 y6 z6 st6 hQ6
  subst l6 y6 z6
  obtain ⟨rfl, N6q, K6, Xp6_0, Xp6_1, Xp6_2, Xp6_3⟩ := hQ6
  obtain ⟨lc6, X6, N6⟩ := own_pack X6 (Fr.app N0 N6q)
  have Q7 := (((Keep.refl h0 []).ext E1).trans K6 (allS (Or.inr sz_b1) all0))
  refine Go.step (g' := (mkF m 25 #[.val (.ref o0)] [(.ref b1)])) (fun _ k => st6.trans k) ?_
  exact Go.retW X6 hx hlk (t := (.object "com/example/laelaps/laelaps/testbed/ScoreMoments")) Bd.returns rfl (Or.inr (Or.inr (Or.inr (Or.inr ⟨rfl, rfl, rfl⟩)))) (hb hby d4_25) (by decide) (by decide) (by exact ⟨_, rfl, N6, Q7, sz_b1, Xp6_0, Xp6_1, Xp6_2, Xp6_3⟩)
theorem d6_0 : decode prog_21_method_2_code 0 = .ok (.aload_n 0, 1) := by decide +kernel
theorem d6_1 : decode prog_21_method_2_code 1 = .ok (.getfield 20, 3) := by decide +kernel
theorem d6_4 : decode prog_21_method_2_code 4 = .ok (.lreturn, 1) := by decide +kernel
theorem pn_6 : plainName "com/example/laelaps/laelaps/testbed/ScoreMoments" = true := by first | (simp [plainName, overriddenIn]; done) | decide +kernel
theorem ef_6 (m : MethodId) (o0 : Addr) : entryFrame m #[(.ref o0)] 1 = mkF m 0 #[.val (.ref o0)] [] := by first | (simp [entryFrame, mkF, argsToLocals, Value.category]; done) | rfl
def f6_0 (x : Int64) : Int64 := x
set_option maxRecDepth 65536 in
set_option maxHeartbeats 40000000 in
theorem rm6 (l : Launch) (Z : State) (a0 : Array Value) (hw : ∀ d ∈ tables_1, d.before a0 Z = true) (ws : List Jvm.Cond) (o0 : Addr) (x : Int64) (h0 : Heap) (Fx : Fld Z h0 o0 "com/example/laelaps/laelaps/testbed/ScoreMoments" "documents" "J" (.long x)) :
    MetFree l (⟨"com/example/laelaps/laelaps/testbed/ScoreMoments", "documents", "()J"⟩ : MethodName) (head1 (Jvm.Cond.code (⟨"com/example/laelaps/laelaps/testbed/ScoreMoments", "documents", "()J"⟩ : MethodName) prog_21_method_2_code 1 (some .long) :: ws) ({ frames := 0, cells := 0, slots := 0, locals := 0 } : Room)) (fun a U => a = #[(.ref o0)] ∧ Z.Warmed39 U.vm ∧ U.heap = h0) (fun _ _ _ _ _ => True) (fun _ U o U' => ∃ v L, o = .returned v ∧ (PureQ (.long (f6_0 x)) h0) v U'.heap L ∧ FrameEnd U o U' L ({ frames := 0, cells := 0, slots := 0, locals := 0 } : Room).cells ({ frames := 0, cells := 0, slots := 0, locals := 0 } : Room).slots) := by
  refine MetFree.of_bodySF (plainFor_of_name pn_6) hisR ?_
  intro p e s m args below meth c s₁ Bd hml0 hP hK
  obtain ⟨rfl, hZ, hh⟩ := hP
  have hx := Bd.exec
  have hby := Bd.bytes
  have hlk : meth.locks = false := BodyLoose.notSynchronized Bd
  have hml : c.maxLocals = 1 := hml0
  have hown : s.vm.findClass "com/example/laelaps/laelaps/testbed/ScoreMoments" = some m.cls := findClass_of_methodNamed Bd.named
  have hnm := (name_of_methodNamed Bd.named Bd.method).1
  have X0 : Stand p l e ({ frames := 0, cells := 0, slots := 0, locals := 0 } : Room) s m #[(.ref o0)] below meth c s₁ ([] : List Loc) 0 0 := Stand.of_body Bd
  have e0 : s₁.heap = h0 := by rw [← hh, Bd.state]; rfl
  show Go p e below s 0 0 (PureQ (.long (f6_0 x)) h0) s₁ (entryFrame m #[(.ref o0)] 1)
  rw [ef_6 m o0]
  refine Go.step (g' := (mkF m 1 #[.val (.ref o0)] [(.ref o0)])) (fun _ k => XS.aloadN X0.here hx rfl (hb hby d6_0) rfl rfl  k) ?_
  obtain ⟨T1, X1, e1, st1⟩ := getF X0 hx hZ hown (host := "") (Or.inl (hw _ (List.mem_of_getElem? (i := 36) rfl))) Via.refl e0 Fx (g := (mkF m 1 #[.val (.ref o0)] [(.ref o0)])) rfl rfl (hb hby d6_1)
  refine Go.step (g' := (mkF m 4 #[.val (.ref o0)] [(.long x)])) st1 ?_
  exact Go.retW X1 hx hlk (t := .long) Bd.returns rfl (Or.inr (Or.inl ⟨rfl, rfl, _, rfl⟩)) (hb hby d6_4) (by decide) (by decide) ⟨rfl, rfl, e1⟩
theorem d7_0 : decode prog_21_method_3_code 0 = .ok (.aload_n 0, 1) := by decide +kernel
theorem d7_1 : decode prog_21_method_3_code 1 = .ok (.getfield 26, 3) := by decide +kernel
theorem d7_4 : decode prog_21_method_3_code 4 = .ok (.dreturn, 1) := by decide +kernel
theorem pn_7 : plainName "com/example/laelaps/laelaps/testbed/ScoreMoments" = true := by first | (simp [plainName, overriddenIn]; done) | decide +kernel
theorem ef_7 (m : MethodId) (o0 : Addr) : entryFrame m #[(.ref o0)] 1 = mkF m 0 #[.val (.ref o0)] [] := by first | (simp [entryFrame, mkF, argsToLocals, Value.category]; done) | rfl
def f7_0 (x : UInt64) : UInt64 := x
set_option maxRecDepth 65536 in
set_option maxHeartbeats 40000000 in
theorem rm7 (l : Launch) (Z : State) (a0 : Array Value) (hw : ∀ d ∈ tables_1, d.before a0 Z = true) (ws : List Jvm.Cond) (o0 : Addr) (x : UInt64) (h0 : Heap) (Fx : Fld Z h0 o0 "com/example/laelaps/laelaps/testbed/ScoreMoments" "mean" "D" (.double x)) :
    MetFree l (⟨"com/example/laelaps/laelaps/testbed/ScoreMoments", "mean", "()D"⟩ : MethodName) (head1 (Jvm.Cond.code (⟨"com/example/laelaps/laelaps/testbed/ScoreMoments", "mean", "()D"⟩ : MethodName) prog_21_method_3_code 1 (some .double) :: ws) ({ frames := 0, cells := 0, slots := 0, locals := 0 } : Room)) (fun a U => a = #[(.ref o0)] ∧ Z.Warmed39 U.vm ∧ U.heap = h0) (fun _ _ _ _ _ => True) (fun _ U o U' => ∃ v L, o = .returned v ∧ (PureQ (.double (f7_0 x)) h0) v U'.heap L ∧ FrameEnd U o U' L ({ frames := 0, cells := 0, slots := 0, locals := 0 } : Room).cells ({ frames := 0, cells := 0, slots := 0, locals := 0 } : Room).slots) := by
  refine MetFree.of_bodySF (plainFor_of_name pn_7) hisR ?_
  intro p e s m args below meth c s₁ Bd hml0 hP hK
  obtain ⟨rfl, hZ, hh⟩ := hP
  have hx := Bd.exec
  have hby := Bd.bytes
  have hlk : meth.locks = false := BodyLoose.notSynchronized Bd
  have hml : c.maxLocals = 1 := hml0
  have hown : s.vm.findClass "com/example/laelaps/laelaps/testbed/ScoreMoments" = some m.cls := findClass_of_methodNamed Bd.named
  have hnm := (name_of_methodNamed Bd.named Bd.method).1
  have X0 : Stand p l e ({ frames := 0, cells := 0, slots := 0, locals := 0 } : Room) s m #[(.ref o0)] below meth c s₁ ([] : List Loc) 0 0 := Stand.of_body Bd
  have e0 : s₁.heap = h0 := by rw [← hh, Bd.state]; rfl
  show Go p e below s 0 0 (PureQ (.double (f7_0 x)) h0) s₁ (entryFrame m #[(.ref o0)] 1)
  rw [ef_7 m o0]
  refine Go.step (g' := (mkF m 1 #[.val (.ref o0)] [(.ref o0)])) (fun _ k => XS.aloadN X0.here hx rfl (hb hby d7_0) rfl rfl  k) ?_
  obtain ⟨T1, X1, e1, st1⟩ := getF X0 hx hZ hown (host := "") (Or.inl (hw _ (List.mem_of_getElem? (i := 38) rfl))) Via.refl e0 Fx (g := (mkF m 1 #[.val (.ref o0)] [(.ref o0)])) rfl rfl (hb hby d7_1)
  refine Go.step (g' := (mkF m 4 #[.val (.ref o0)] [(.double x)])) st1 ?_
  exact Go.retW X1 hx hlk (t := .double) Bd.returns rfl (Or.inr (Or.inr (Or.inl ⟨rfl, rfl, _, rfl⟩))) (hb hby d7_4) (by decide) (by decide) ⟨rfl, rfl, e1⟩
theorem d8_0 : decode prog_21_method_4_code 0 = .ok (.aload_n 0, 1) := by decide +kernel
theorem d8_1 : decode prog_21_method_4_code 1 = .ok (.getfield 30, 3) := by decide +kernel
theorem d8_4 : decode prog_21_method_4_code 4 = .ok (.dreturn, 1) := by decide +kernel
theorem pn_8 : plainName "com/example/laelaps/laelaps/testbed/ScoreMoments" = true := by first | (simp [plainName, overriddenIn]; done) | decide +kernel
theorem ef_8 (m : MethodId) (o0 : Addr) : entryFrame m #[(.ref o0)] 1 = mkF m 0 #[.val (.ref o0)] [] := by first | (simp [entryFrame, mkF, argsToLocals, Value.category]; done) | rfl
def f8_0 (x : UInt64) : UInt64 := x
set_option maxRecDepth 65536 in
set_option maxHeartbeats 40000000 in
theorem rm8 (l : Launch) (Z : State) (a0 : Array Value) (hw : ∀ d ∈ tables_1, d.before a0 Z = true) (ws : List Jvm.Cond) (o0 : Addr) (x : UInt64) (h0 : Heap) (Fx : Fld Z h0 o0 "com/example/laelaps/laelaps/testbed/ScoreMoments" "variance" "D" (.double x)) :
    MetFree l (⟨"com/example/laelaps/laelaps/testbed/ScoreMoments", "variance", "()D"⟩ : MethodName) (head1 (Jvm.Cond.code (⟨"com/example/laelaps/laelaps/testbed/ScoreMoments", "variance", "()D"⟩ : MethodName) prog_21_method_4_code 1 (some .double) :: ws) ({ frames := 0, cells := 0, slots := 0, locals := 0 } : Room)) (fun a U => a = #[(.ref o0)] ∧ Z.Warmed39 U.vm ∧ U.heap = h0) (fun _ _ _ _ _ => True) (fun _ U o U' => ∃ v L, o = .returned v ∧ (PureQ (.double (f8_0 x)) h0) v U'.heap L ∧ FrameEnd U o U' L ({ frames := 0, cells := 0, slots := 0, locals := 0 } : Room).cells ({ frames := 0, cells := 0, slots := 0, locals := 0 } : Room).slots) := by
  refine MetFree.of_bodySF (plainFor_of_name pn_8) hisR ?_
  intro p e s m args below meth c s₁ Bd hml0 hP hK
  obtain ⟨rfl, hZ, hh⟩ := hP
  have hx := Bd.exec
  have hby := Bd.bytes
  have hlk : meth.locks = false := BodyLoose.notSynchronized Bd
  have hml : c.maxLocals = 1 := hml0
  have hown : s.vm.findClass "com/example/laelaps/laelaps/testbed/ScoreMoments" = some m.cls := findClass_of_methodNamed Bd.named
  have hnm := (name_of_methodNamed Bd.named Bd.method).1
  have X0 : Stand p l e ({ frames := 0, cells := 0, slots := 0, locals := 0 } : Room) s m #[(.ref o0)] below meth c s₁ ([] : List Loc) 0 0 := Stand.of_body Bd
  have e0 : s₁.heap = h0 := by rw [← hh, Bd.state]; rfl
  show Go p e below s 0 0 (PureQ (.double (f8_0 x)) h0) s₁ (entryFrame m #[(.ref o0)] 1)
  rw [ef_8 m o0]
  refine Go.step (g' := (mkF m 1 #[.val (.ref o0)] [(.ref o0)])) (fun _ k => XS.aloadN X0.here hx rfl (hb hby d8_0) rfl rfl  k) ?_
  obtain ⟨T1, X1, e1, st1⟩ := getF X0 hx hZ hown (host := "") (Or.inl (hw _ (List.mem_of_getElem? (i := 40) rfl))) Via.refl e0 Fx (g := (mkF m 1 #[.val (.ref o0)] [(.ref o0)])) rfl rfl (hb hby d8_1)
  refine Go.step (g' := (mkF m 4 #[.val (.ref o0)] [(.double x)])) st1 ?_
  exact Go.retW X1 hx hlk (t := .double) Bd.returns rfl (Or.inr (Or.inr (Or.inl ⟨rfl, rfl, _, rfl⟩))) (hb hby d8_4) (by decide) (by decide) ⟨rfl, rfl, e1⟩
theorem pn_0 : plainName "com/example/laelaps/laelaps/testbed/AccumulatorAddPinLaw" = true := by first | (simp [plainName, overriddenIn]; done) | decide +kernel
theorem ef_0 (m : MethodId) (p0 : Int32) (p1 : Int32) (p2 : Int32) : entryFrame m #[(.int p0), (.int p1), (.int p2)] maxLocals = mkF m 0 #[.val (.int p0), .val (.int p1), .val (.int p2), .unset, .unset, .unset, .unset, .unset, .unset, .unset, .unset, .unset, .unset, .unset, .unset, .unset, .unset] [] := by first | (simp [entryFrame, mkF, argsToLocals, Value.category, maxLocals]; done) | rfl
def f0_195d148 : Int32 := (nar .boolean (1 : Int32))
def f0_190d148 : Int32 := f0_195d148
def f0_179d148 : Int32 := f0_190d148
def f0_168d148 : Int32 := f0_179d148
def f0_150d148 : Int32 := f0_168d148
def f0_121 : Int32 := f0_150d148
def f0_195d118 : Int32 := (nar .boolean (1 : Int32))
def f0_190d118 : Int32 := f0_195d118
def f0_179d118 : Int32 := f0_190d118
def f0_168d118 : Int32 := f0_179d118
def f0_150d118 : Int32 := f0_168d118
def f0_73 : Int32 := f0_150d118
def f0_67 (p2 : Int32) : Int32 := if ((p2 &&& (2147483647 : Int32)) % (3 : Int32)) = (1 : Int32) then f0_73 else f0_121
def f0_195d64 : Int32 := (nar .boolean (1 : Int32))
def f0_190d64 : Int32 := f0_195d64
def f0_179d64 : Int32 := f0_190d64
def f0_168d64 : Int32 := f0_179d64
def f0_150d64 : Int32 := f0_168d64
def f0_49 : Int32 := f0_150d64
def f0_0 (p2 : Int32) : Int32 := if ((p2 &&& (2147483647 : Int32)) % (3 : Int32)) = (0 : Int32) then f0_49 else (f0_67 p2)
theorem law_eq (p2 : Int32) : (f0_0 p2) = 1 := by
  simp only [f0_195d148, f0_190d148, f0_179d148, f0_168d148, f0_150d148, f0_121, f0_195d118, f0_190d118, f0_179d118, f0_168d118, f0_150d118, f0_73, f0_67, f0_195d64, f0_190d64, f0_179d64, f0_168d64, f0_150d64, f0_49, f0_0]
  (repeat' split) <;> decide
set_option maxRecDepth 65536 in
set_option maxHeartbeats 40000000 in
theorem rm0 (l : Launch) (Z : State) (a0 : Array Value) (hw : ∀ d ∈ tables_1, d.before a0 Z = true) (ws : List Jvm.Cond) (p0 : Int32) (p1 : Int32) (p2 : Int32)  (h0 : Heap) (n0 : Nat) (Z0 : n0 ≤ h0.size) :
    MetFree l x (head1 (Jvm.Cond.code x code maxLocals ret :: ws) room_1) (fun a U => a = #[(.int p0), (.int p1), (.int p2)] ∧ Z.Warmed39 U.vm ∧ U.heap = h0) (fun _ _ _ _ _ => True) (fun _ U o U' => ∃ v L, o = .returned v ∧ (LawQ (some (.int (f0_0 p2))) n0) v U'.heap L ∧ FrameEnd U o U' L room_1.cells room_1.slots) := by
  refine MetFree.of_bodySF (plainFor_of_name pn_0) hisR ?_
  intro p e s m args below meth c s₁ Bd hml0 hP hK
  obtain ⟨rfl, hZ, hh⟩ := hP
  have hx := Bd.exec
  have hby := Bd.bytes
  have hlk : meth.locks = false := BodyLoose.notSynchronized Bd
  have hml : c.maxLocals = 17 := hml0
  have hown : s.vm.findClass "com/example/laelaps/laelaps/testbed/AccumulatorAddPinLaw" = some m.cls := findClass_of_methodNamed Bd.named
  have hnm := (name_of_methodNamed Bd.named Bd.method).1
  have X0 : Stand p l e room_1 s m #[(.int p0), (.int p1), (.int p2)] below meth c s₁ ([] : List Loc) 0 0 := Stand.of_body Bd
  have e0 : s₁.heap = h0 := by rw [← hh, Bd.state]; rfl
  show Go p e below s room_1.cells room_1.slots (LawQ (some (.int (f0_0 p2))) n0) s₁ (entryFrame m #[(.int p0), (.int p1), (.int p2)] maxLocals)
  rw [ef_0 m p0 p1 p2]
  have N0 := Fr.nil n0
  refine Go.step (g' := (mkF m 1 #[.val (.int p0), .val (.int p1), .val (.int p2), .unset, .unset, .unset, .unset, .unset, .unset, .unset, .unset, .unset, .unset, .unset, .unset, .unset, .unset] [(.int p0)])) (fun _ k => XS.iloadN X0.here hx rfl (hb hby at_0) rfl  k) ?_
  refine Go.step (g' := (mkF m 4 #[.val (.int p0), .val (.int p1), .val (.int p2), .unset, .unset, .unset, .unset, .unset, .unset, .unset, .unset, .unset, .unset, .unset, .unset, .unset, .unset] [(.int (255 : Int32)), (.int p0)])) (fun _ k => XS.sipush X0.here hx rfl (hb hby at_1) k) ?_
  refine Go.step (g' := (mkF m 5 #[.val (.int p0), .val (.int p1), .val (.int p2), .unset, .unset, .unset, .unset, .unset, .unset, .unset, .unset, .unset, .unset, .unset, .unset, .unset, .unset] [(.int (p0 &&& (255 : Int32)))])) (fun _ k => XS.iand X0.here hx rfl (hb hby at_4) rfl k) ?_
  refine Go.step (g' := (mkF m 6 #[.val (.int p0), .val (.int p1), .val (.int p2), .unset, .unset, .unset, .unset, .unset, .unset, .unset, .unset, .unset, .unset, .unset, .unset, .unset, .unset] [(.int (1 : Int32)), (.int (p0 &&& (255 : Int32)))])) (fun _ k => XS.iconst X0.here hx rfl (hb hby at_5) k) ?_
  refine Go.step (g' := (mkF m 7 #[.val (.int p0), .val (.int p1), .val (.int p2), .unset, .unset, .unset, .unset, .unset, .unset, .unset, .unset, .unset, .unset, .unset, .unset, .unset, .unset] [(.int ((p0 &&& (255 : Int32)) + (1 : Int32)))])) (fun _ k => XS.iadd X0.here hx rfl (hb hby at_6) rfl k) ?_
  refine Go.step (g' := (mkF m 8 #[.val (.int p0), .val (.int p1), .val (.int p2), .unset, .unset, .unset, .unset, .unset, .unset, .unset, .unset, .unset, .unset, .unset, .unset, .unset, .unset] [(.double (FP.i2d ((p0 &&& (255 : Int32)) + (1 : Int32))))])) (fun _ k => XS.i2dS X0.here hx rfl (hb hby at_7) rfl rfl k) ?_
  have kd1 : (Jvm.Cond.constantDouble "com/example/laelaps/laelaps/testbed/AccumulatorAddPinLaw" 7 (4643211215818981376 : UInt64)).before #[(.int p0), (.int p1), (.int p2)] s = true := mvT hZ (hw _ (List.mem_of_getElem? (i := 0) rfl))
  refine Go.step (g' := (mkF m 11 #[.val (.int p0), .val (.int p1), .val (.int p2), .unset, .unset, .unset, .unset, .unset, .unset, .unset, .unset, .unset, .unset, .unset, .unset, .unset, .unset] [(.double (4643211215818981376 : UInt64)), (.double (FP.i2d ((p0 &&& (255 : Int32)) + (1 : Int32))))])) (fun _ k => X0.ldc2DoubleC hx hown kd1 (g := (mkF m 8 #[.val (.int p0), .val (.int p1), .val (.int p2), .unset, .unset, .unset, .unset, .unset, .unset, .unset, .unset, .unset, .unset, .unset, .unset, .unset, .unset] [(.double (FP.i2d ((p0 &&& (255 : Int32)) + (1 : Int32))))])) rfl (hb hby at_8) _ k) ?_
  refine Go.step (g' := (mkF m 12 #[.val (.int p0), .val (.int p1), .val (.int p2), .unset, .unset, .unset, .unset, .unset, .unset, .unset, .unset, .unset, .unset, .unset, .unset, .unset, .unset] [(.double (FP.ddiv (FP.i2d ((p0 &&& (255 : Int32)) + (1 : Int32))) (4643211215818981376 : UInt64)))])) (fun _ k => XS.ddivS X0.here hx rfl (hb hby at_11) rfl (own_abn _) rfl k) ?_
  refine Go.step (g' := (mkF m 13 #[.val (.int p0), .val (.int p1), .val (.int p2), .val (.double (FP.ddiv (FP.i2d ((p0 &&& (255 : Int32)) + (1 : Int32))) (4643211215818981376 : UInt64))), .second, .unset, .unset, .unset, .unset, .unset, .unset, .unset, .unset, .unset, .unset, .unset, .unset] [])) (fun _ k => XS.dstoreN X0.here hx rfl (hb hby at_12) rfl (l' := #[.val (.int p0), .val (.int p1), .val (.int p2), .val (.double (FP.ddiv (FP.i2d ((p0 &&& (255 : Int32)) + (1 : Int32))) (4643211215818981376 : UInt64))), .second, .unset, .unset, .unset, .unset, .unset, .unset, .unset, .unset, .unset, .unset, .unset, .unset]) rfl k) ?_
  generalize haa : (FP.ddiv (FP.i2d ((p0 &&& (255 : Int32)) + (1 : Int32))) (4643211215818981376 : UInt64)) = aa
  obtain ⟨I, hI1, hI2, DA⟩ : ∃ I : Int, 1 ≤ I ∧ I ≤ 256 ∧ Dy aa (1024 * I) := haa ▸ own_ab _
  refine Go.step (g' := (mkF m 14 #[.val (.int p0), .val (.int p1), .val (.int p2), .val (.double aa), .second, .unset, .unset, .unset, .unset, .unset, .unset, .unset, .unset, .unset, .unset, .unset, .unset] [(.int p1)])) (fun _ k => XS.iloadN X0.here hx rfl (hb hby at_13) rfl  k) ?_
  refine Go.step (g' := (mkF m 17 #[.val (.int p0), .val (.int p1), .val (.int p2), .val (.double aa), .second, .unset, .unset, .unset, .unset, .unset, .unset, .unset, .unset, .unset, .unset, .unset, .unset] [(.int (255 : Int32)), (.int p1)])) (fun _ k => XS.sipush X0.here hx rfl (hb hby at_14) k) ?_
  refine Go.step (g' := (mkF m 18 #[.val (.int p0), .val (.int p1), .val (.int p2), .val (.double aa), .second, .unset, .unset, .unset, .unset, .unset, .unset, .unset, .unset, .unset, .unset, .unset, .unset] [(.int (p1 &&& (255 : Int32)))])) (fun _ k => XS.iand X0.here hx rfl (hb hby at_17) rfl k) ?_
  refine Go.step (g' := (mkF m 19 #[.val (.int p0), .val (.int p1), .val (.int p2), .val (.double aa), .second, .unset, .unset, .unset, .unset, .unset, .unset, .unset, .unset, .unset, .unset, .unset, .unset] [(.int (1 : Int32)), (.int (p1 &&& (255 : Int32)))])) (fun _ k => XS.iconst X0.here hx rfl (hb hby at_18) k) ?_
  refine Go.step (g' := (mkF m 20 #[.val (.int p0), .val (.int p1), .val (.int p2), .val (.double aa), .second, .unset, .unset, .unset, .unset, .unset, .unset, .unset, .unset, .unset, .unset, .unset, .unset] [(.int ((p1 &&& (255 : Int32)) + (1 : Int32)))])) (fun _ k => XS.iadd X0.here hx rfl (hb hby at_19) rfl k) ?_
  refine Go.step (g' := (mkF m 21 #[.val (.int p0), .val (.int p1), .val (.int p2), .val (.double aa), .second, .unset, .unset, .unset, .unset, .unset, .unset, .unset, .unset, .unset, .unset, .unset, .unset] [(.double (FP.i2d ((p1 &&& (255 : Int32)) + (1 : Int32))))])) (fun _ k => XS.i2dS X0.here hx rfl (hb hby at_20) rfl rfl k) ?_
  have kd2 : (Jvm.Cond.constantDouble "com/example/laelaps/laelaps/testbed/AccumulatorAddPinLaw" 7 (4643211215818981376 : UInt64)).before #[(.int p0), (.int p1), (.int p2)] s = true := mvT hZ (hw _ (List.mem_of_getElem? (i := 0) rfl))
  refine Go.step (g' := (mkF m 24 #[.val (.int p0), .val (.int p1), .val (.int p2), .val (.double aa), .second, .unset, .unset, .unset, .unset, .unset, .unset, .unset, .unset, .unset, .unset, .unset, .unset] [(.double (4643211215818981376 : UInt64)), (.double (FP.i2d ((p1 &&& (255 : Int32)) + (1 : Int32))))])) (fun _ k => X0.ldc2DoubleC hx hown kd2 (g := (mkF m 21 #[.val (.int p0), .val (.int p1), .val (.int p2), .val (.double aa), .second, .unset, .unset, .unset, .unset, .unset, .unset, .unset, .unset, .unset, .unset, .unset, .unset] [(.double (FP.i2d ((p1 &&& (255 : Int32)) + (1 : Int32))))])) rfl (hb hby at_21) _ k) ?_
  refine Go.step (g' := (mkF m 25 #[.val (.int p0), .val (.int p1), .val (.int p2), .val (.double aa), .second, .unset, .unset, .unset, .unset, .unset, .unset, .unset, .unset, .unset, .unset, .unset, .unset] [(.double (FP.ddiv (FP.i2d ((p1 &&& (255 : Int32)) + (1 : Int32))) (4643211215818981376 : UInt64)))])) (fun _ k => XS.ddivS X0.here hx rfl (hb hby at_24) rfl (own_abn _) rfl k) ?_
  refine Go.step (g' := (mkF m 27 #[.val (.int p0), .val (.int p1), .val (.int p2), .val (.double aa), .second, .val (.double (FP.ddiv (FP.i2d ((p1 &&& (255 : Int32)) + (1 : Int32))) (4643211215818981376 : UInt64))), .second, .unset, .unset, .unset, .unset, .unset, .unset, .unset, .unset, .unset, .unset] [])) (fun _ k => XS.dstore X0.here hx rfl (hb hby at_25) rfl (l' := #[.val (.int p0), .val (.int p1), .val (.int p2), .val (.double aa), .second, .val (.double (FP.ddiv (FP.i2d ((p1 &&& (255 : Int32)) + (1 : Int32))) (4643211215818981376 : UInt64))), .second, .unset, .unset, .unset, .unset, .unset, .unset, .unset, .unset, .unset, .unset]) rfl k) ?_
  generalize hbb : (FP.ddiv (FP.i2d ((p1 &&& (255 : Int32)) + (1 : Int32))) (4643211215818981376 : UInt64)) = bb
  obtain ⟨J, hJ1, hJ2, DB⟩ : ∃ J : Int, 1 ≤ J ∧ J ≤ 256 ∧ Dy bb (1024 * J) := hbb ▸ own_ab _
  obtain ⟨hq0, hq1⟩ := own_sqb (D := J - I) (by omega) (by omega)
  refine Go.step (g' := (mkF m 28 #[.val (.int p0), .val (.int p1), .val (.int p2), .val (.double aa), .second, .val (.double bb), .second, .unset, .unset, .unset, .unset, .unset, .unset, .unset, .unset, .unset, .unset] [(.int p2)])) (fun _ k => XS.iloadN X0.here hx rfl (hb hby at_27) rfl  k) ?_
  refine Go.step (g' := (mkF m 30 #[.val (.int p0), .val (.int p1), .val (.int p2), .val (.double aa), .second, .val (.double bb), .second, .unset, .unset, .unset, .unset, .unset, .unset, .unset, .unset, .unset, .unset] [(.int (2147483647 : Int32)), (.int p2)])) (fun _ k => X0.ldcI hx hown (mvT hZ (hw _ (List.mem_of_getElem? (i := 1) rfl))) rfl (hb hby at_28) k) ?_
  refine Go.step (g' := (mkF m 31 #[.val (.int p0), .val (.int p1), .val (.int p2), .val (.double aa), .second, .val (.double bb), .second, .unset, .unset, .unset, .unset, .unset, .unset, .unset, .unset, .unset, .unset] [(.int (p2 &&& (2147483647 : Int32)))])) (fun _ k => XS.iand X0.here hx rfl (hb hby at_30) rfl k) ?_
  refine Go.step (g' := (mkF m 32 #[.val (.int p0), .val (.int p1), .val (.int p2), .val (.double aa), .second, .val (.double bb), .second, .unset, .unset, .unset, .unset, .unset, .unset, .unset, .unset, .unset, .unset] [(.int (3 : Int32)), (.int (p2 &&& (2147483647 : Int32)))])) (fun _ k => XS.iconst X0.here hx rfl (hb hby at_31) k) ?_
  refine Go.step (g' := (mkF m 33 #[.val (.int p0), .val (.int p1), .val (.int p2), .val (.double aa), .second, .val (.double bb), .second, .unset, .unset, .unset, .unset, .unset, .unset, .unset, .unset, .unset, .unset] [(.int ((p2 &&& (2147483647 : Int32)) % (3 : Int32)))])) (fun _ k => Jvm.RoadKit.iremM X0 hx rfl (hb hby at_32) rfl (by decide) k) ?_
  refine Go.step (g' := (mkF m 35 #[.val (.int p0), .val (.int p1), .val (.int p2), .val (.double aa), .second, .val (.double bb), .second, .val (.int ((p2 &&& (2147483647 : Int32)) % (3 : Int32))), .unset, .unset, .unset, .unset, .unset, .unset, .unset, .unset, .unset] [])) (fun _ k => XS.istore X0.here hx rfl (hb hby at_33) rfl (l' := #[.val (.int p0), .val (.int p1), .val (.int p2), .val (.double aa), .second, .val (.double bb), .second, .val (.int ((p2 &&& (2147483647 : Int32)) % (3 : Int32))), .unset, .unset, .unset, .unset, .unset, .unset, .unset, .unset, .unset]) rfl k) ?_
  obtain ⟨T3, h3, X3, e3, E3, A3, D3, -, st3⟩ := newO X0 hx hZ hown (hw _ (List.mem_of_getElem? (i := 2) rfl)) (hw _ (List.mem_of_getElem? (i := 3) rfl)) (hw _ (List.mem_of_getElem? (i := 4) rfl)) e0 (g := (mkF m 35 #[.val (.int p0), .val (.int p1), .val (.int p2), .val (.double aa), .second, .val (.double bb), .second, .val (.int ((p2 &&& (2147483647 : Int32)) % (3 : Int32))), .unset, .unset, .unset, .unset, .unset, .unset, .unset, .unset, .unset] [])) rfl (hb hby at_35) (by decide) (by decide)
  obtain ⟨b3, g3⟩ : ∃ z, z = h0.size := ⟨_, rfl⟩
  rw [← g3] at A3 D3 st3
  have g_b3 : n0 ≤ b3 := Nat.le_trans Z0 (Nat.le_of_eq g3.symm)
  have sz_b3 : h0.size ≤ b3 := Nat.le_trans (Keep.refl h0 []).1 (Nat.le_of_eq g3.symm)
  have F3_documents : Fld Z h3 b3 "com/example/laelaps/laelaps/testbed/ScoreMoments$Accumulator" "documents" "J" (.long (0 : Int64)) := D3 (Or.inl (hw _ (List.mem_of_getElem? (i := 17) rfl))) (ty := .long) (by decide)
  have F3_mean : Fld Z h3 b3 "com/example/laelaps/laelaps/testbed/ScoreMoments$Accumulator" "mean" "D" (.double (0 : UInt64)) := D3 (Or.inl (hw _ (List.mem_of_getElem? (i := 19) rfl))) (ty := .double) (by decide)
  have F3_squares : Fld Z h3 b3 "com/example/laelaps/laelaps/testbed/ScoreMoments$Accumulator" "squares" "D" (.double (0 : UInt64)) := D3 (Or.inl (hw _ (List.mem_of_getElem? (i := 21) rfl))) (ty := .double) (by decide)
  refine Go.step (g' := (mkF m 38 #[.val (.int p0), .val (.int p1), .val (.int p2), .val (.double aa), .second, .val (.double bb), .second, .val (.int ((p2 &&& (2147483647 : Int32)) % (3 : Int32))), .unset, .unset, .unset, .unset, .unset, .unset, .unset, .unset, .unset] [(.ref b3)])) st3 ?_
  refine Go.step (g' := (mkF m 39 #[.val (.int p0), .val (.int p1), .val (.int p2), .val (.double aa), .second, .val (.double bb), .second, .val (.int ((p2 &&& (2147483647 : Int32)) % (3 : Int32))), .unset, .unset, .unset, .unset, .unset, .unset, .unset, .unset, .unset] [(.ref b3), (.ref b3)])) (fun _ k => XS.dup X3.here hx rfl (hb hby at_38) rfl rfl k) ?_
  obtain ⟨_, _, ⟨T4, L4, k4, n4⟩, -, X4, ⟨Lc4, hQ4, l4, y4, z4⟩, st4⟩ := X3.specialBack hx (y := (⟨"com/example/laelaps/laelaps/testbed/ScoreMoments$Accumulator", "<init>", "()V"⟩ : MethodName)) rfl hown (mvT hZ (hw _ (List.mem_of_getElem? (i := 5) rfl))) (mvT hZ (hw _ (List.mem_of_getElem? (i := 6) rfl))) (mvT hZ (hw _ (List.mem_of_getElem? (i := 7) rfl))) (by decide) (backOf (W := 1) (rm1 l Z a0 hw [] b3 h3 n0 (Nat.le_trans Z0 E3.1) A3) hZ (hw _ (List.mem_of_getElem? (i := 7) rfl)) (hw _ (List.mem_of_getElem? (i := 4) rfl)) (by decide) (by decide)) (g := (mkF m 39 #[.val (.int p0), .val (.int p1), .val (.int p2), .val (.double aa), .second, .val (.double bb), .second, .val (.int ((p2 &&& (2147483647 : Int32)) % (3 : Int32))), .unset, .unset, .unset, .unset, .unset, .unset, .unset, .unset, .unset] [(.ref b3), (.ref b3)])) rfl (by rw [hml]; rfl) (Steps.refl _) (a := b3) (argsL := []) (rest := [(.ref b3)]) (lenOf pd_1 rfl) rfl (by show 2 * 0 + _ ≤ _; exact Nat.le_of_eq rfl) (hb hby at_39) (fun _ _ => ⟨rfl, e3, (by decide : (0 + 1) + 0 ≤ _), (by decide : (0 + 3) + 0 ≤ _)⟩)
  dsimp only [Pt.U, Pt.locs, Pt.cells, Pt.slots] at X4 l4 y4 z4 st4 hQ4
  subst l4 y4 z4
  obtain ⟨rfl, N4q, K4⟩ := hQ4
  obtain ⟨lc4, X4, N4⟩ := own_pack X4 (Fr.app N0 N4q)
  refine Go.step (g' := (mkF m 42 #[.val (.int p0), .val (.int p1), .val (.int p2), .val (.double aa), .second, .val (.double bb), .second, .val (.int ((p2 &&& (2147483647 : Int32)) % (3 : Int32))), .unset, .unset, .unset, .unset, .unset, .unset, .unset, .unset, .unset] [(.ref b3)])) (fun _ k => st4.trans k) ?_
  refine Go.step (g' := (mkF m 44 #[.val (.int p0), .val (.int p1), .val (.int p2), .val (.double aa), .second, .val (.double bb), .second, .val (.int ((p2 &&& (2147483647 : Int32)) % (3 : Int32))), .val (.ref b3), .unset, .unset, .unset, .unset, .unset, .unset, .unset, .unset] [])) (fun _ k => XS.astore X4.here hx rfl (hb hby at_42) rfl rfl (l' := #[.val (.int p0), .val (.int p1), .val (.int p2), .val (.double aa), .second, .val (.double bb), .second, .val (.int ((p2 &&& (2147483647 : Int32)) % (3 : Int32))), .val (.ref b3), .unset, .unset, .unset, .unset, .unset, .unset, .unset, .unset]) rfl k) ?_
  refine Go.step (g' := (mkF m 46 #[.val (.int p0), .val (.int p1), .val (.int p2), .val (.double aa), .second, .val (.double bb), .second, .val (.int ((p2 &&& (2147483647 : Int32)) % (3 : Int32))), .val (.ref b3), .unset, .unset, .unset, .unset, .unset, .unset, .unset, .unset] [(.int ((p2 &&& (2147483647 : Int32)) % (3 : Int32)))])) (fun _ k => XS.iload X4.here hx rfl (hb hby at_44) rfl  k) ?_
  by_cases hc46 : ((p2 &&& (2147483647 : Int32)) % (3 : Int32)) = (0 : Int32)
  · rw [show (f0_0 p2) = f0_49 from if_pos hc46]
    refine Go.step (g' := (mkF m 49 #[.val (.int p0), .val (.int p1), .val (.int p2), .val (.double aa), .second, .val (.double bb), .second, .val (.int ((p2 &&& (2147483647 : Int32)) % (3 : Int32))), .val (.ref b3), .unset, .unset, .unset, .unset, .unset, .unset, .unset, .unset] [])) (fun _ k => XS.ifNo X4.here hx rfl (hb hby at_46) rfl ((if0 _ _).trans (teq hc46).2) k) ?_
    refine Go.step (g' := (mkF m 51 #[.val (.int p0), .val (.int p1), .val (.int p2), .val (.double aa), .second, .val (.double bb), .second, .val (.int ((p2 &&& (2147483647 : Int32)) % (3 : Int32))), .val (.ref b3), .unset, .unset, .unset, .unset, .unset, .unset, .unset, .unset] [(.ref b3)])) (fun _ k => XS.aload X4.here hx rfl (hb hby at_49) rfl rfl  k) ?_
    refine Go.step (g' := (mkF m 52 #[.val (.int p0), .val (.int p1), .val (.int p2), .val (.double aa), .second, .val (.double bb), .second, .val (.int ((p2 &&& (2147483647 : Int32)) % (3 : Int32))), .val (.ref b3), .unset, .unset, .unset, .unset, .unset, .unset, .unset, .unset] [(.double aa), (.ref b3)])) (fun _ k => XS.dloadN X4.here hx rfl (hb hby at_51) rfl k) ?_
    have y1_5 : Dy (FP.dsub aa (0 : UInt64)) (1024 * I) := DA.sub own_d0 (by omega) (by omega)
    have y2_5 : Dy (FP.ddiv (FP.dsub aa (0 : UInt64)) (FP.l2d ((0 : Int64) + (1 : Int64)))) (1024 * I) := y1_5.div 0 (by decide) (by decide +kernel) (by rw [show ((2 ^ 0 : Nat) : Int) = 1 from rfl]; omega) (by omega)
    have y3_5 : Dy (FP.dadd (0 : UInt64) (FP.ddiv (FP.dsub aa (0 : UInt64)) (FP.l2d ((0 : Int64) + (1 : Int64))))) (1024 * I) := own_d0.add y2_5 (by omega) (by omega)
    have y4_5 : Dy (FP.dsub aa (FP.dadd (0 : UInt64) (FP.ddiv (FP.dsub aa (0 : UInt64)) (FP.l2d ((0 : Int64) + (1 : Int64)))))) (0) := DA.sub y3_5 (by omega) (by omega)
    have y5_5 : Dy (FP.dmul (FP.dsub aa (0 : UInt64)) (FP.dsub aa (FP.dadd (0 : UInt64) (FP.ddiv (FP.dsub aa (0 : UInt64)) (FP.l2d ((0 : Int64) + (1 : Int64))))))) (0) := y1_5.mul y4_5 (by simp) (by omega)
    have y6_5 : Dy (FP.dadd (0 : UInt64) (FP.dmul (FP.dsub aa (0 : UInt64)) (FP.dsub aa (FP.dadd (0 : UInt64) (FP.ddiv (FP.dsub aa (0 : UInt64)) (FP.l2d ((0 : Int64) + (1 : Int64)))))))) (0) := own_d0.add y5_5 (by omega) (by omega)
    obtain ⟨cq5, kq5, q5a, q5b, q5c⟩ := isOf hZ rfl (A3.keep K4)
    obtain ⟨_, _, ⟨T5, L5, k5, n5⟩, -, X5, ⟨Lc5, hQ5, l5, y5, z5⟩, st5⟩ := X4.virtualBack hx (y := (⟨"com/example/laelaps/laelaps/testbed/ScoreMoments$Accumulator", "add", "(D)V"⟩ : MethodName)) (z := (⟨"com/example/laelaps/laelaps/testbed/ScoreMoments$Accumulator", "add", "(D)V"⟩ : MethodName)) hown (mvT hZ (hw _ (List.mem_of_getElem? (i := 11) rfl))) (mvT hZ (hw _ (List.mem_of_getElem? (i := 12) rfl))) (notFace_of_selects (args := #[]) (mvT hZ (hw _ (List.mem_of_getElem? (i := 14) rfl)))) (mvT hZ (hw _ (List.mem_of_getElem? (i := 14) rfl))) (mvT hZ (hw _ (List.mem_of_getElem? (i := 13) rfl))) (by decide) (backOf (W := 0) (rm3 l Z a0 hw [] b3 aa (0 : Int64) (0 : UInt64) (0 : UInt64) T4.heap n0 (Nat.le_trans (Nat.le_trans Z0 E3.1) K4.1) (A3.keep K4) g_b3 (F3_documents.keep K4 nin0) (F3_mean.keep K4 nin0) (F3_squares.keep K4 nin0) y1_5.noNaN y2_5.noNaN y3_5.noNaN y4_5.noNaN y5_5.noNaN y6_5.noNaN) hZ (hw _ (List.mem_of_getElem? (i := 15) rfl)) (hw _ (List.mem_of_getElem? (i := 4) rfl)) (by decide) (by decide)) q5a q5c (g := (mkF m 52 #[.val (.int p0), .val (.int p1), .val (.int p2), .val (.double aa), .second, .val (.double bb), .second, .val (.int ((p2 &&& (2147483647 : Int32)) % (3 : Int32))), .val (.ref b3), .unset, .unset, .unset, .unset, .unset, .unset, .unset, .unset] [(.double aa), (.ref b3)])) rfl (by rw [hml]; rfl) (Steps.refl _) (argsL := [(.double aa)]) (rest := []) (lenOf pd_2 rfl) rfl (by show 2 * 0 + _ ≤ _; exact Nat.le_of_eq rfl) (hb hby at_52) (fun _ _ => ⟨rfl, rfl, (by decide : ((0 + 1) + 0) + 0 ≤ _), (by decide : ((0 + 3) + 0) + 0 ≤ _)⟩)
    dsimp only [Pt.U, Pt.locs, Pt.cells, Pt.slots] at X5 l5 y5 z5 st5 hQ5
    subst l5 y5 z5
    obtain ⟨rfl, N5q, K5, Xp5_0, Xp5_1, Xp5_2, Xp5_3⟩ := hQ5
    obtain ⟨lc5, X5, N5⟩ := own_pack X5 (Fr.app N4 N5q)
    obtain ⟨mn5, hmn5⟩ : ∃ z, z = (FP.dadd (0 : UInt64) (FP.ddiv (FP.dsub aa (0 : UInt64)) (FP.l2d ((0 : Int64) + (1 : Int64))))) := ⟨_, rfl⟩
    obtain ⟨sq5, hsq5⟩ : ∃ z, z = (FP.dadd (0 : UInt64) (FP.dmul (FP.dsub aa (0 : UInt64)) (FP.dsub aa (FP.dadd (0 : UInt64) (FP.ddiv (FP.dsub aa (0 : UInt64)) (FP.l2d ((0 : Int64) + (1 : Int64)))))))) := ⟨_, rfl⟩
    rw [← hsq5] at y6_5 Xp5_3
    rw [← hmn5] at y3_5 Xp5_2
    have Q6 := (Nat.le_trans (Nat.le_trans (Nat.le_trans Z0 E3.1) K4.1) K5.1)
    have Q7 := ((((Keep.refl h0 []).ext E3).trans K4 all0).trans K5 (allS (Or.inr sz_b3) all0))
    refine Go.step (g' := (mkF m 55 #[.val (.int p0), .val (.int p1), .val (.int p2), .val (.double aa), .second, .val (.double bb), .second, .val (.int ((p2 &&& (2147483647 : Int32)) % (3 : Int32))), .val (.ref b3), .unset, .unset, .unset, .unset, .unset, .unset, .unset, .unset] [])) (fun _ k => st5.trans k) ?_
    refine Go.step (g' := (mkF m 56 #[.val (.int p0), .val (.int p1), .val (.int p2), .val (.double aa), .second, .val (.double bb), .second, .val (.int ((p2 &&& (2147483647 : Int32)) % (3 : Int32))), .val (.ref b3), .unset, .unset, .unset, .unset, .unset, .unset, .unset, .unset] [(.long (1 : Int64))])) (fun _ k => XS.lconst X5.here hx rfl (hb hby at_55) k) ?_
    refine Go.step (g' := (mkF m 58 #[.val (.int p0), .val (.int p1), .val (.int p2), .val (.double aa), .second, .val (.double bb), .second, .val (.int ((p2 &&& (2147483647 : Int32)) % (3 : Int32))), .val (.ref b3), .val (.long (1 : Int64)), .second, .unset, .unset, .unset, .unset, .unset, .unset] [])) (fun _ k => XS.lstore X5.here hx rfl (hb hby at_56) rfl (l' := #[.val (.int p0), .val (.int p1), .val (.int p2), .val (.double aa), .second, .val (.double bb), .second, .val (.int ((p2 &&& (2147483647 : Int32)) % (3 : Int32))), .val (.ref b3), .val (.long (1 : Int64)), .second, .unset, .unset, .unset, .unset, .unset, .unset]) rfl k) ?_
    refine Go.step (g' := (mkF m 59 #[.val (.int p0), .val (.int p1), .val (.int p2), .val (.double aa), .second, .val (.double bb), .second, .val (.int ((p2 &&& (2147483647 : Int32)) % (3 : Int32))), .val (.ref b3), .val (.long (1 : Int64)), .second, .unset, .unset, .unset, .unset, .unset, .unset] [(.double aa)])) (fun _ k => XS.dloadN X5.here hx rfl (hb hby at_58) rfl k) ?_
    refine Go.step (g' := (mkF m 61 #[.val (.int p0), .val (.int p1), .val (.int p2), .val (.double aa), .second, .val (.double bb), .second, .val (.int ((p2 &&& (2147483647 : Int32)) % (3 : Int32))), .val (.ref b3), .val (.long (1 : Int64)), .second, .val (.double aa), .second, .unset, .unset, .unset, .unset] [])) (fun _ k => XS.dstore X5.here hx rfl (hb hby at_59) rfl (l' := #[.val (.int p0), .val (.int p1), .val (.int p2), .val (.double aa), .second, .val (.double bb), .second, .val (.int ((p2 &&& (2147483647 : Int32)) % (3 : Int32))), .val (.ref b3), .val (.long (1 : Int64)), .second, .val (.double aa), .second, .unset, .unset, .unset, .unset]) rfl k) ?_
    refine Go.step (g' := (mkF m 62 #[.val (.int p0), .val (.int p1), .val (.int p2), .val (.double aa), .second, .val (.double bb), .second, .val (.int ((p2 &&& (2147483647 : Int32)) % (3 : Int32))), .val (.ref b3), .val (.long (1 : Int64)), .second, .val (.double aa), .second, .unset, .unset, .unset, .unset] [(.double (0 : UInt64))])) (fun _ k => XS.dconst0 X5.here hx rfl (hb hby at_61) (by decide +kernel) k) ?_
    refine Go.step (g' := (mkF m 64 #[.val (.int p0), .val (.int p1), .val (.int p2), .val (.double aa), .second, .val (.double bb), .second, .val (.int ((p2 &&& (2147483647 : Int32)) % (3 : Int32))), .val (.ref b3), .val (.long (1 : Int64)), .second, .val (.double aa), .second, .val (.double (0 : UInt64)), .second, .unset, .unset] [])) (fun _ k => XS.dstore X5.here hx rfl (hb hby at_62) rfl (l' := #[.val (.int p0), .val (.int p1), .val (.int p2), .val (.double aa), .second, .val (.double bb), .second, .val (.int ((p2 &&& (2147483647 : Int32)) % (3 : Int32))), .val (.ref b3), .val (.long (1 : Int64)), .second, .val (.double aa), .second, .val (.double (0 : UInt64)), .second, .unset, .unset]) rfl k) ?_
    refine Go.step (g' := (mkF m 150 #[.val (.int p0), .val (.int p1), .val (.int p2), .val (.double aa), .second, .val (.double bb), .second, .val (.int ((p2 &&& (2147483647 : Int32)) % (3 : Int32))), .val (.ref b3), .val (.long (1 : Int64)), .second, .val (.double aa), .second, .val (.double (0 : UInt64)), .second, .unset, .unset] [])) (fun _ k => XS.goto X5.here hx rfl (pc0 := 64) (pc' := 150) rfl (hb hby at_64) (by decide) (by decide) k) ?_
    rw [show f0_49 = f0_150d64 from rfl]
    refine Go.step (g' := (mkF m 152 #[.val (.int p0), .val (.int p1), .val (.int p2), .val (.double aa), .second, .val (.double bb), .second, .val (.int ((p2 &&& (2147483647 : Int32)) % (3 : Int32))), .val (.ref b3), .val (.long (1 : Int64)), .second, .val (.double aa), .second, .val (.double (0 : UInt64)), .second, .unset, .unset] [(.ref b3)])) (fun _ k => XS.aload X5.here hx rfl (hb hby at_150) rfl rfl  k) ?_
    have yv1 : Dy (FP.ddiv sq5 (FP.l2d ((0 : Int64) + (1 : Int64)))) 0 := y6_5.div 0 (by decide) (by decide +kernel) (by rw [show ((2 ^ 0 : Nat) : Int) = 1 from rfl]; omega) (by omega)
    obtain ⟨cq8, kq8, q8a, q8b, q8c⟩ := isOf hZ rfl Xp5_0
    obtain ⟨_, _, ⟨T8, L8, k8, n8⟩, -, X8, ⟨Lc8, hQ8, l8, y8, z8⟩, st8⟩ := X5.virtualBack hx (y := (⟨"com/example/laelaps/laelaps/testbed/ScoreMoments$Accumulator", "moments", "()Lcom/example/laelaps/laelaps/testbed/ScoreMoments;"⟩ : MethodName)) (z := (⟨"com/example/laelaps/laelaps/testbed/ScoreMoments$Accumulator", "moments", "()Lcom/example/laelaps/laelaps/testbed/ScoreMoments;"⟩ : MethodName)) hown (mvT hZ (hw _ (List.mem_of_getElem? (i := 23) rfl))) (mvT hZ (hw _ (List.mem_of_getElem? (i := 24) rfl))) (notFace_of_selects (args := #[]) (mvT hZ (hw _ (List.mem_of_getElem? (i := 26) rfl)))) (mvT hZ (hw _ (List.mem_of_getElem? (i := 26) rfl))) (mvT hZ (hw _ (List.mem_of_getElem? (i := 25) rfl))) (by decide) (backOf (W := 0) (rm4 l Z a0 hw [] b3 ((0 : Int64) + (1 : Int64)) mn5 sq5 T5.heap n0 Q6 Xp5_1 Xp5_2 Xp5_3 yv1.noNaN (by decide) (own_c13 y3_5 (by omega)) (own_c19 y3_5 (by omega)) (own_c26 yv1 (by omega)) (own_c35 yv1)) hZ (hw _ (List.mem_of_getElem? (i := 27) rfl)) (hw _ (List.mem_of_getElem? (i := 4) rfl)) (by decide) (by decide)) q8a q8c (g := (mkF m 152 #[.val (.int p0), .val (.int p1), .val (.int p2), .val (.double aa), .second, .val (.double bb), .second, .val (.int ((p2 &&& (2147483647 : Int32)) % (3 : Int32))), .val (.ref b3), .val (.long (1 : Int64)), .second, .val (.double aa), .second, .val (.double (0 : UInt64)), .second, .unset, .unset] [(.ref b3)])) rfl (by rw [hml]; rfl) (Steps.refl _) (argsL := []) (rest := []) (lenOf pd_3 rfl) rfl (by show 2 * 0 + _ ≤ _; exact Nat.le_of_eq rfl) (hb hby at_152) (fun _ _ => ⟨rfl, rfl, (by decide : (((0 + 1) + 0) + 0) + 1 ≤ _), (by decide : (((0 + 3) + 0) + 0) + 3 ≤ _)⟩)
    dsimp only [Pt.U, Pt.locs, Pt.cells, Pt.slots] at X8 l8 y8 z8 st8 hQ8
    subst l8 y8 z8
    obtain ⟨c8, rfl, N8q, K8, sc8, Ei8, Fd8, Fm8, Fv8⟩ := hQ8
    obtain ⟨lc8, X8, N8⟩ := own_pack X8 (Fr.app N5 N8q)
    have ne_b3_c8 : b3 ≠ c8 := Nat.ne_of_lt (Nat.lt_of_lt_of_le Xp5_0.lt sc8)
    have g_c8 : n0 ≤ c8 := Nat.le_trans Q6 sc8
    have sz_c8 : h0.size ≤ c8 := Nat.le_trans Q7.1 sc8
    refine Go.step (g' := (mkF m 155 #[.val (.int p0), .val (.int p1), .val (.int p2), .val (.double aa), .second, .val (.double bb), .second, .val (.int ((p2 &&& (2147483647 : Int32)) % (3 : Int32))), .val (.ref b3), .val (.long (1 : Int64)), .second, .val (.double aa), .second, .val (.double (0 : UInt64)), .second, .unset, .unset] [(.ref c8)])) (fun _ k => st8.trans k) ?_
    refine Go.step (g' := (mkF m 157 #[.val (.int p0), .val (.int p1), .val (.int p2), .val (.double aa), .second, .val (.double bb), .second, .val (.int ((p2 &&& (2147483647 : Int32)) % (3 : Int32))), .val (.ref b3), .val (.long (1 : Int64)), .second, .val (.double aa), .second, .val (.double (0 : UInt64)), .second, .val (.ref c8), .unset] [])) (fun _ k => XS.astore X8.here hx rfl (hb hby at_155) rfl rfl (l' := #[.val (.int p0), .val (.int p1), .val (.int p2), .val (.double aa), .second, .val (.double bb), .second, .val (.int ((p2 &&& (2147483647 : Int32)) % (3 : Int32))), .val (.ref b3), .val (.long (1 : Int64)), .second, .val (.double aa), .second, .val (.double (0 : UInt64)), .second, .val (.ref c8), .unset]) rfl k) ?_
    refine Go.step (g' := (mkF m 159 #[.val (.int p0), .val (.int p1), .val (.int p2), .val (.double aa), .second, .val (.double bb), .second, .val (.int ((p2 &&& (2147483647 : Int32)) % (3 : Int32))), .val (.ref b3), .val (.long (1 : Int64)), .second, .val (.double aa), .second, .val (.double (0 : UInt64)), .second, .val (.ref c8), .unset] [(.ref c8)])) (fun _ k => XS.aload X8.here hx rfl (hb hby at_157) rfl rfl  k) ?_
    obtain ⟨cq9, kq9, q9a, q9b, q9c⟩ := isOf hZ rfl Ei8
    obtain ⟨_, _, ⟨T9, L9, k9, n9⟩, -, X9, ⟨Lc9, hQ9, l9, y9, z9⟩, st9⟩ := X8.virtualBack hx (y := (⟨"com/example/laelaps/laelaps/testbed/ScoreMoments", "documents", "()J"⟩ : MethodName)) (z := (⟨"com/example/laelaps/laelaps/testbed/ScoreMoments", "documents", "()J"⟩ : MethodName)) hown (mvT hZ (hw _ (List.mem_of_getElem? (i := 42) rfl))) (mvT hZ (hw _ (List.mem_of_getElem? (i := 43) rfl))) (notFace_of_selects (args := #[]) (mvT hZ (hw _ (List.mem_of_getElem? (i := 45) rfl)))) (mvT hZ (hw _ (List.mem_of_getElem? (i := 45) rfl))) (mvT hZ (hw _ (List.mem_of_getElem? (i := 44) rfl))) (by decide) (backOf (W := 0) (rm6 l Z a0 hw [] c8 ((0 : Int64) + (1 : Int64)) T8.heap Fd8) hZ (hw _ (List.mem_of_getElem? (i := 46) rfl)) (hw _ (List.mem_of_getElem? (i := 30) rfl)) (by decide) (by decide)) q9a q9c (g := (mkF m 159 #[.val (.int p0), .val (.int p1), .val (.int p2), .val (.double aa), .second, .val (.double bb), .second, .val (.int ((p2 &&& (2147483647 : Int32)) % (3 : Int32))), .val (.ref b3), .val (.long (1 : Int64)), .second, .val (.double aa), .second, .val (.double (0 : UInt64)), .second, .val (.ref c8), .unset] [(.ref c8)])) rfl (by rw [hml]; rfl) (Steps.refl _) (argsL := []) (rest := []) (lenOf pd_4 rfl) rfl (by show 2 * 0 + _ ≤ _; exact Nat.le_of_eq rfl) (hb hby at_159) (fun _ _ => ⟨rfl, rfl, (by decide : ((((0 + 1) + 0) + 0) + 1) + 0 ≤ _), (by decide : ((((0 + 3) + 0) + 0) + 3) + 0 ≤ _)⟩)
    dsimp only [Pt.U, Pt.locs, Pt.cells, Pt.slots] at X9 l9 y9 z9 st9 hQ9
    subst l9 y9 z9
    obtain ⟨rfl, rfl, e9⟩ := hQ9
    try rw [List.append_nil] at X9
    refine Go.step (g' := (mkF m 162 #[.val (.int p0), .val (.int p1), .val (.int p2), .val (.double aa), .second, .val (.double bb), .second, .val (.int ((p2 &&& (2147483647 : Int32)) % (3 : Int32))), .val (.ref b3), .val (.long (1 : Int64)), .second, .val (.double aa), .second, .val (.double (0 : UInt64)), .second, .val (.ref c8), .unset] [(.long ((0 : Int64) + (1 : Int64)))])) (fun _ k => st9.trans k) ?_
    refine Go.step (g' := (mkF m 164 #[.val (.int p0), .val (.int p1), .val (.int p2), .val (.double aa), .second, .val (.double bb), .second, .val (.int ((p2 &&& (2147483647 : Int32)) % (3 : Int32))), .val (.ref b3), .val (.long (1 : Int64)), .second, .val (.double aa), .second, .val (.double (0 : UInt64)), .second, .val (.ref c8), .unset] [(.long (1 : Int64)), (.long ((0 : Int64) + (1 : Int64)))])) (fun _ k => XS.lload X9.here hx rfl (hb hby at_162) rfl  k) ?_
    refine Go.step (g' := (mkF m 165 #[.val (.int p0), .val (.int p1), .val (.int p2), .val (.double aa), .second, .val (.double bb), .second, .val (.int ((p2 &&& (2147483647 : Int32)) % (3 : Int32))), .val (.ref b3), .val (.long (1 : Int64)), .second, .val (.double aa), .second, .val (.double (0 : UInt64)), .second, .val (.ref c8), .unset] [(.int (lcmpW ((0 : Int64) + (1 : Int64)) (1 : Int64)))])) (fun _ k => XS.lcmp X9.here hx rfl (hb hby at_164) rfl k) ?_
    refine Go.step (g' := (mkF m 168 #[.val (.int p0), .val (.int p1), .val (.int p2), .val (.double aa), .second, .val (.double bb), .second, .val (.int ((p2 &&& (2147483647 : Int32)) % (3 : Int32))), .val (.ref b3), .val (.long (1 : Int64)), .second, .val (.double aa), .second, .val (.double (0 : UInt64)), .second, .val (.ref c8), .unset] [])) (fun _ k => XS.ifNo X9.here hx rfl (hb hby at_165) rfl ((if0 _ _).trans (teq (by decide : (lcmpW ((0 : Int64) + (1 : Int64)) (1 : Int64)) = (0 : Int32))).2) k) ?_
    rw [show f0_150d64 = f0_168d64 from rfl]
    refine Go.step (g' := (mkF m 170 #[.val (.int p0), .val (.int p1), .val (.int p2), .val (.double aa), .second, .val (.double bb), .second, .val (.int ((p2 &&& (2147483647 : Int32)) % (3 : Int32))), .val (.ref b3), .val (.long (1 : Int64)), .second, .val (.double aa), .second, .val (.double (0 : UInt64)), .second, .val (.ref c8), .unset] [(.ref c8)])) (fun _ k => XS.aload X9.here hx rfl (hb hby at_168) rfl rfl  k) ?_
    obtain ⟨cq10, kq10, q10a, q10b, q10c⟩ := isOf hZ e9 Ei8
    obtain ⟨_, _, ⟨T10, L10, k10, n10⟩, -, X10, ⟨Lc10, hQ10, l10, y10, z10⟩, st10⟩ := X9.virtualBack hx (y := (⟨"com/example/laelaps/laelaps/testbed/ScoreMoments", "mean", "()D"⟩ : MethodName)) (z := (⟨"com/example/laelaps/laelaps/testbed/ScoreMoments", "mean", "()D"⟩ : MethodName)) hown (mvT hZ (hw _ (List.mem_of_getElem? (i := 47) rfl))) (mvT hZ (hw _ (List.mem_of_getElem? (i := 48) rfl))) (notFace_of_selects (args := #[]) (mvT hZ (hw _ (List.mem_of_getElem? (i := 50) rfl)))) (mvT hZ (hw _ (List.mem_of_getElem? (i := 50) rfl))) (mvT hZ (hw _ (List.mem_of_getElem? (i := 49) rfl))) (by decide) (backOf (W := 0) (rm7 l Z a0 hw [] c8 mn5 T8.heap Fm8) hZ (hw _ (List.mem_of_getElem? (i := 51) rfl)) (hw _ (List.mem_of_getElem? (i := 30) rfl)) (by decide) (by decide)) q10a q10c (g := (mkF m 170 #[.val (.int p0), .val (.int p1), .val (.int p2), .val (.double aa), .second, .val (.double bb), .second, .val (.int ((p2 &&& (2147483647 : Int32)) % (3 : Int32))), .val (.ref b3), .val (.long (1 : Int64)), .second, .val (.double aa), .second, .val (.double (0 : UInt64)), .second, .val (.ref c8), .unset] [(.ref c8)])) rfl (by rw [hml]; rfl) (Steps.refl _) (argsL := []) (rest := []) (lenOf pd_5 rfl) rfl (by show 2 * 0 + _ ≤ _; exact Nat.le_of_eq rfl) (hb hby at_170) (fun _ _ => ⟨rfl, e9, (by decide : ((((0 + 1) + 0) + 0) + 1) + 0 ≤ _), (by decide : ((((0 + 3) + 0) + 0) + 3) + 0 ≤ _)⟩)
    dsimp only [Pt.U, Pt.locs, Pt.cells, Pt.slots] at X10 l10 y10 z10 st10 hQ10
    subst l10 y10 z10
    obtain ⟨rfl, rfl, e10⟩ := hQ10
    try rw [List.append_nil] at X10
    refine Go.step (g' := (mkF m 173 #[.val (.int p0), .val (.int p1), .val (.int p2), .val (.double aa), .second, .val (.double bb), .second, .val (.int ((p2 &&& (2147483647 : Int32)) % (3 : Int32))), .val (.ref b3), .val (.long (1 : Int64)), .second, .val (.double aa), .second, .val (.double (0 : UInt64)), .second, .val (.ref c8), .unset] [(.double mn5)])) (fun _ k => st10.trans k) ?_
    refine Go.step (g' := (mkF m 175 #[.val (.int p0), .val (.int p1), .val (.int p2), .val (.double aa), .second, .val (.double bb), .second, .val (.int ((p2 &&& (2147483647 : Int32)) % (3 : Int32))), .val (.ref b3), .val (.long (1 : Int64)), .second, .val (.double aa), .second, .val (.double (0 : UInt64)), .second, .val (.ref c8), .unset] [(.double aa), (.double mn5)])) (fun _ k => XS.dload X10.here hx rfl (hb hby at_173) rfl k) ?_
    refine Go.step (g' := (mkF m 176 #[.val (.int p0), .val (.int p1), .val (.int p2), .val (.double aa), .second, .val (.double bb), .second, .val (.int ((p2 &&& (2147483647 : Int32)) % (3 : Int32))), .val (.ref b3), .val (.long (1 : Int64)), .second, .val (.double aa), .second, .val (.double (0 : UInt64)), .second, .val (.ref c8), .unset] [(.int (cmpValue (FP.dcmp mn5 aa) .l))])) (fun _ k => XS.dcmpS X10.here hx rfl (hb hby at_175) rfl rfl k) ?_
    refine Go.step (g' := (mkF m 179 #[.val (.int p0), .val (.int p1), .val (.int p2), .val (.double aa), .second, .val (.double bb), .second, .val (.int ((p2 &&& (2147483647 : Int32)) % (3 : Int32))), .val (.ref b3), .val (.long (1 : Int64)), .second, .val (.double aa), .second, .val (.double (0 : UInt64)), .second, .val (.ref c8), .unset] [])) (fun _ k => XS.ifNo X10.here hx rfl (hb hby at_176) rfl ((if0 _ _).trans (teq (y3_5.eq0 DA .l : (cmpValue (FP.dcmp mn5 aa) .l) = (0 : Int32))).2) k) ?_
    rw [show f0_168d64 = f0_179d64 from rfl]
    refine Go.step (g' := (mkF m 181 #[.val (.int p0), .val (.int p1), .val (.int p2), .val (.double aa), .second, .val (.double bb), .second, .val (.int ((p2 &&& (2147483647 : Int32)) % (3 : Int32))), .val (.ref b3), .val (.long (1 : Int64)), .second, .val (.double aa), .second, .val (.double (0 : UInt64)), .second, .val (.ref c8), .unset] [(.ref c8)])) (fun _ k => XS.aload X10.here hx rfl (hb hby at_179) rfl rfl  k) ?_
    obtain ⟨cq11, kq11, q11a, q11b, q11c⟩ := isOf hZ e10 Ei8
    obtain ⟨_, _, ⟨T11, L11, k11, n11⟩, -, X11, ⟨Lc11, hQ11, l11, y11, z11⟩, st11⟩ := X10.virtualBack hx (y := (⟨"com/example/laelaps/laelaps/testbed/ScoreMoments", "variance", "()D"⟩ : MethodName)) (z := (⟨"com/example/laelaps/laelaps/testbed/ScoreMoments", "variance", "()D"⟩ : MethodName)) hown (mvT hZ (hw _ (List.mem_of_getElem? (i := 52) rfl))) (mvT hZ (hw _ (List.mem_of_getElem? (i := 53) rfl))) (notFace_of_selects (args := #[]) (mvT hZ (hw _ (List.mem_of_getElem? (i := 55) rfl)))) (mvT hZ (hw _ (List.mem_of_getElem? (i := 55) rfl))) (mvT hZ (hw _ (List.mem_of_getElem? (i := 54) rfl))) (by decide) (backOf (W := 0) (rm8 l Z a0 hw [] c8 (FP.ddiv sq5 (FP.l2d ((0 : Int64) + (1 : Int64)))) T8.heap Fv8) hZ (hw _ (List.mem_of_getElem? (i := 56) rfl)) (hw _ (List.mem_of_getElem? (i := 30) rfl)) (by decide) (by decide)) q11a q11c (g := (mkF m 181 #[.val (.int p0), .val (.int p1), .val (.int p2), .val (.double aa), .second, .val (.double bb), .second, .val (.int ((p2 &&& (2147483647 : Int32)) % (3 : Int32))), .val (.ref b3), .val (.long (1 : Int64)), .second, .val (.double aa), .second, .val (.double (0 : UInt64)), .second, .val (.ref c8), .unset] [(.ref c8)])) rfl (by rw [hml]; rfl) (Steps.refl _) (argsL := []) (rest := []) (lenOf pd_5 rfl) rfl (by show 2 * 0 + _ ≤ _; exact Nat.le_of_eq rfl) (hb hby at_181) (fun _ _ => ⟨rfl, e10, (by decide : ((((0 + 1) + 0) + 0) + 1) + 0 ≤ _), (by decide : ((((0 + 3) + 0) + 0) + 3) + 0 ≤ _)⟩)
    dsimp only [Pt.U, Pt.locs, Pt.cells, Pt.slots] at X11 l11 y11 z11 st11 hQ11
    subst l11 y11 z11
    obtain ⟨rfl, rfl, e11⟩ := hQ11
    try rw [List.append_nil] at X11
    refine Go.step (g' := (mkF m 184 #[.val (.int p0), .val (.int p1), .val (.int p2), .val (.double aa), .second, .val (.double bb), .second, .val (.int ((p2 &&& (2147483647 : Int32)) % (3 : Int32))), .val (.ref b3), .val (.long (1 : Int64)), .second, .val (.double aa), .second, .val (.double (0 : UInt64)), .second, .val (.ref c8), .unset] [(.double (FP.ddiv sq5 (FP.l2d ((0 : Int64) + (1 : Int64)))))])) (fun _ k => st11.trans k) ?_
    refine Go.step (g' := (mkF m 186 #[.val (.int p0), .val (.int p1), .val (.int p2), .val (.double aa), .second, .val (.double bb), .second, .val (.int ((p2 &&& (2147483647 : Int32)) % (3 : Int32))), .val (.ref b3), .val (.long (1 : Int64)), .second, .val (.double aa), .second, .val (.double (0 : UInt64)), .second, .val (.ref c8), .unset] [(.double (0 : UInt64)), (.double (FP.ddiv sq5 (FP.l2d ((0 : Int64) + (1 : Int64)))))])) (fun _ k => XS.dload X11.here hx rfl (hb hby at_184) rfl k) ?_
    refine Go.step (g' := (mkF m 187 #[.val (.int p0), .val (.int p1), .val (.int p2), .val (.double aa), .second, .val (.double bb), .second, .val (.int ((p2 &&& (2147483647 : Int32)) % (3 : Int32))), .val (.ref b3), .val (.long (1 : Int64)), .second, .val (.double aa), .second, .val (.double (0 : UInt64)), .second, .val (.ref c8), .unset] [(.int (cmpValue (FP.dcmp (FP.ddiv sq5 (FP.l2d ((0 : Int64) + (1 : Int64)))) (0 : UInt64)) .l))])) (fun _ k => XS.dcmpS X11.here hx rfl (hb hby at_186) rfl rfl k) ?_
    refine Go.step (g' := (mkF m 190 #[.val (.int p0), .val (.int p1), .val (.int p2), .val (.double aa), .second, .val (.double bb), .second, .val (.int ((p2 &&& (2147483647 : Int32)) % (3 : Int32))), .val (.ref b3), .val (.long (1 : Int64)), .second, .val (.double aa), .second, .val (.double (0 : UInt64)), .second, .val (.ref c8), .unset] [])) (fun _ k => XS.ifNo X11.here hx rfl (hb hby at_187) rfl ((if0 _ _).trans (teq (yv1.eq0 own_d0 .l : (cmpValue (FP.dcmp (FP.ddiv sq5 (FP.l2d ((0 : Int64) + (1 : Int64)))) (0 : UInt64)) .l) = (0 : Int32))).2) k) ?_
    rw [show f0_179d64 = f0_190d64 from rfl]
    refine Go.step (g' := (mkF m 191 #[.val (.int p0), .val (.int p1), .val (.int p2), .val (.double aa), .second, .val (.double bb), .second, .val (.int ((p2 &&& (2147483647 : Int32)) % (3 : Int32))), .val (.ref b3), .val (.long (1 : Int64)), .second, .val (.double aa), .second, .val (.double (0 : UInt64)), .second, .val (.ref c8), .unset] [(.int (1 : Int32))])) (fun _ k => XS.iconst X11.here hx rfl (hb hby at_190) k) ?_
    refine Go.step (g' := (mkF m 195 #[.val (.int p0), .val (.int p1), .val (.int p2), .val (.double aa), .second, .val (.double bb), .second, .val (.int ((p2 &&& (2147483647 : Int32)) % (3 : Int32))), .val (.ref b3), .val (.long (1 : Int64)), .second, .val (.double aa), .second, .val (.double (0 : UInt64)), .second, .val (.ref c8), .unset] [(.int (1 : Int32))])) (fun _ k => XS.goto X11.here hx rfl (pc0 := 191) (pc' := 195) rfl (hb hby at_191) (by decide) (by decide) k) ?_
    rw [show f0_190d64 = f0_195d64 from rfl]
    exact Go.retN X11 hx hlk (t := .boolean) Bd.returns (by simp) (hb hby at_195) (by decide) (by decide) ⟨rfl, N8⟩
  · rw [show (f0_0 p2) = (f0_67 p2) from if_neg hc46]
    refine Go.step (g' := (mkF m 67 #[.val (.int p0), .val (.int p1), .val (.int p2), .val (.double aa), .second, .val (.double bb), .second, .val (.int ((p2 &&& (2147483647 : Int32)) % (3 : Int32))), .val (.ref b3), .unset, .unset, .unset, .unset, .unset, .unset, .unset, .unset] [])) (fun _ k => XS.ifYes X4.here hx rfl (pc0 := 46) (pc' := 67) rfl (hb hby at_46) rfl ((if0 _ _).trans (feq hc46).2) (by decide) (by decide) k) ?_
    refine Go.step (g' := (mkF m 69 #[.val (.int p0), .val (.int p1), .val (.int p2), .val (.double aa), .second, .val (.double bb), .second, .val (.int ((p2 &&& (2147483647 : Int32)) % (3 : Int32))), .val (.ref b3), .unset, .unset, .unset, .unset, .unset, .unset, .unset, .unset] [(.int ((p2 &&& (2147483647 : Int32)) % (3 : Int32)))])) (fun _ k => XS.iload X4.here hx rfl (hb hby at_67) rfl  k) ?_
    refine Go.step (g' := (mkF m 70 #[.val (.int p0), .val (.int p1), .val (.int p2), .val (.double aa), .second, .val (.double bb), .second, .val (.int ((p2 &&& (2147483647 : Int32)) % (3 : Int32))), .val (.ref b3), .unset, .unset, .unset, .unset, .unset, .unset, .unset, .unset] [(.int (1 : Int32)), (.int ((p2 &&& (2147483647 : Int32)) % (3 : Int32)))])) (fun _ k => XS.iconst X4.here hx rfl (hb hby at_69) k) ?_
    by_cases hc70 : ((p2 &&& (2147483647 : Int32)) % (3 : Int32)) = (1 : Int32)
    · rw [show (f0_67 p2) = f0_73 from if_pos hc70]
      refine Go.step (g' := (mkF m 73 #[.val (.int p0), .val (.int p1), .val (.int p2), .val (.double aa), .second, .val (.double bb), .second, .val (.int ((p2 &&& (2147483647 : Int32)) % (3 : Int32))), .val (.ref b3), .unset, .unset, .unset, .unset, .unset, .unset, .unset, .unset] [])) (fun _ k => XS.icmpNo X4.here hx rfl (hb hby at_70) rfl (teq hc70).2 k) ?_
      refine Go.step (g' := (mkF m 75 #[.val (.int p0), .val (.int p1), .val (.int p2), .val (.double aa), .second, .val (.double bb), .second, .val (.int ((p2 &&& (2147483647 : Int32)) % (3 : Int32))), .val (.ref b3), .unset, .unset, .unset, .unset, .unset, .unset, .unset, .unset] [(.ref b3)])) (fun _ k => XS.aload X4.here hx rfl (hb hby at_73) rfl rfl  k) ?_
      refine Go.step (g' := (mkF m 76 #[.val (.int p0), .val (.int p1), .val (.int p2), .val (.double aa), .second, .val (.double bb), .second, .val (.int ((p2 &&& (2147483647 : Int32)) % (3 : Int32))), .val (.ref b3), .unset, .unset, .unset, .unset, .unset, .unset, .unset, .unset] [(.double aa), (.ref b3)])) (fun _ k => XS.dloadN X4.here hx rfl (hb hby at_75) rfl k) ?_
      have y1_12 : Dy (FP.dsub aa (0 : UInt64)) (1024 * I) := DA.sub own_d0 (by omega) (by omega)
      have y2_12 : Dy (FP.ddiv (FP.dsub aa (0 : UInt64)) (FP.l2d ((0 : Int64) + (1 : Int64)))) (1024 * I) := y1_12.div 0 (by decide) (by decide +kernel) (by rw [show ((2 ^ 0 : Nat) : Int) = 1 from rfl]; omega) (by omega)
      have y3_12 : Dy (FP.dadd (0 : UInt64) (FP.ddiv (FP.dsub aa (0 : UInt64)) (FP.l2d ((0 : Int64) + (1 : Int64))))) (1024 * I) := own_d0.add y2_12 (by omega) (by omega)
      have y4_12 : Dy (FP.dsub aa (FP.dadd (0 : UInt64) (FP.ddiv (FP.dsub aa (0 : UInt64)) (FP.l2d ((0 : Int64) + (1 : Int64)))))) (0) := DA.sub y3_12 (by omega) (by omega)
      have y5_12 : Dy (FP.dmul (FP.dsub aa (0 : UInt64)) (FP.dsub aa (FP.dadd (0 : UInt64) (FP.ddiv (FP.dsub aa (0 : UInt64)) (FP.l2d ((0 : Int64) + (1 : Int64))))))) (0) := y1_12.mul y4_12 (by simp) (by omega)
      have y6_12 : Dy (FP.dadd (0 : UInt64) (FP.dmul (FP.dsub aa (0 : UInt64)) (FP.dsub aa (FP.dadd (0 : UInt64) (FP.ddiv (FP.dsub aa (0 : UInt64)) (FP.l2d ((0 : Int64) + (1 : Int64)))))))) (0) := own_d0.add y5_12 (by omega) (by omega)
      obtain ⟨cq12, kq12, q12a, q12b, q12c⟩ := isOf hZ rfl (A3.keep K4)
      obtain ⟨_, _, ⟨T12, L12, k12, n12⟩, -, X12, ⟨Lc12, hQ12, l12, y12, z12⟩, st12⟩ := X4.virtualBack hx (y := (⟨"com/example/laelaps/laelaps/testbed/ScoreMoments$Accumulator", "add", "(D)V"⟩ : MethodName)) (z := (⟨"com/example/laelaps/laelaps/testbed/ScoreMoments$Accumulator", "add", "(D)V"⟩ : MethodName)) hown (mvT hZ (hw _ (List.mem_of_getElem? (i := 11) rfl))) (mvT hZ (hw _ (List.mem_of_getElem? (i := 12) rfl))) (notFace_of_selects (args := #[]) (mvT hZ (hw _ (List.mem_of_getElem? (i := 14) rfl)))) (mvT hZ (hw _ (List.mem_of_getElem? (i := 14) rfl))) (mvT hZ (hw _ (List.mem_of_getElem? (i := 13) rfl))) (by decide) (backOf (W := 0) (rm3 l Z a0 hw [] b3 aa (0 : Int64) (0 : UInt64) (0 : UInt64) T4.heap n0 (Nat.le_trans (Nat.le_trans Z0 E3.1) K4.1) (A3.keep K4) g_b3 (F3_documents.keep K4 nin0) (F3_mean.keep K4 nin0) (F3_squares.keep K4 nin0) y1_12.noNaN y2_12.noNaN y3_12.noNaN y4_12.noNaN y5_12.noNaN y6_12.noNaN) hZ (hw _ (List.mem_of_getElem? (i := 15) rfl)) (hw _ (List.mem_of_getElem? (i := 4) rfl)) (by decide) (by decide)) q12a q12c (g := (mkF m 76 #[.val (.int p0), .val (.int p1), .val (.int p2), .val (.double aa), .second, .val (.double bb), .second, .val (.int ((p2 &&& (2147483647 : Int32)) % (3 : Int32))), .val (.ref b3), .unset, .unset, .unset, .unset, .unset, .unset, .unset, .unset] [(.double aa), (.ref b3)])) rfl (by rw [hml]; rfl) (Steps.refl _) (argsL := [(.double aa)]) (rest := []) (lenOf pd_2 rfl) rfl (by show 2 * 0 + _ ≤ _; exact Nat.le_of_eq rfl) (hb hby at_76) (fun _ _ => ⟨rfl, rfl, (by decide : ((0 + 1) + 0) + 0 ≤ _), (by decide : ((0 + 3) + 0) + 0 ≤ _)⟩)
      dsimp only [Pt.U, Pt.locs, Pt.cells, Pt.slots] at X12 l12 y12 z12 st12 hQ12
      subst l12 y12 z12
      obtain ⟨rfl, N12q, K12, Xp12_0, Xp12_1, Xp12_2, Xp12_3⟩ := hQ12
      obtain ⟨lc12, X12, N12⟩ := own_pack X12 (Fr.app N4 N12q)
      obtain ⟨mn12, hmn12⟩ : ∃ z, z = (FP.dadd (0 : UInt64) (FP.ddiv (FP.dsub aa (0 : UInt64)) (FP.l2d ((0 : Int64) + (1 : Int64))))) := ⟨_, rfl⟩
      obtain ⟨sq12, hsq12⟩ : ∃ z, z = (FP.dadd (0 : UInt64) (FP.dmul (FP.dsub aa (0 : UInt64)) (FP.dsub aa (FP.dadd (0 : UInt64) (FP.ddiv (FP.dsub aa (0 : UInt64)) (FP.l2d ((0 : Int64) + (1 : Int64)))))))) := ⟨_, rfl⟩
      rw [← hsq12] at y6_12 Xp12_3
      rw [← hmn12] at y3_12 Xp12_2
      have Q13 := (Nat.le_trans (Nat.le_trans (Nat.le_trans Z0 E3.1) K4.1) K12.1)
      have Q14 := ((((Keep.refl h0 []).ext E3).trans K4 all0).trans K12 (allS (Or.inr sz_b3) all0))
      refine Go.step (g' := (mkF m 79 #[.val (.int p0), .val (.int p1), .val (.int p2), .val (.double aa), .second, .val (.double bb), .second, .val (.int ((p2 &&& (2147483647 : Int32)) % (3 : Int32))), .val (.ref b3), .unset, .unset, .unset, .unset, .unset, .unset, .unset, .unset] [])) (fun _ k => st12.trans k) ?_
      refine Go.step (g' := (mkF m 81 #[.val (.int p0), .val (.int p1), .val (.int p2), .val (.double aa), .second, .val (.double bb), .second, .val (.int ((p2 &&& (2147483647 : Int32)) % (3 : Int32))), .val (.ref b3), .unset, .unset, .unset, .unset, .unset, .unset, .unset, .unset] [(.ref b3)])) (fun _ k => XS.aload X12.here hx rfl (hb hby at_79) rfl rfl  k) ?_
      refine Go.step (g' := (mkF m 83 #[.val (.int p0), .val (.int p1), .val (.int p2), .val (.double aa), .second, .val (.double bb), .second, .val (.int ((p2 &&& (2147483647 : Int32)) % (3 : Int32))), .val (.ref b3), .unset, .unset, .unset, .unset, .unset, .unset, .unset, .unset] [(.double bb), (.ref b3)])) (fun _ k => XS.dload X12.here hx rfl (hb hby at_81) rfl k) ?_
      have y1_15 : Dy (FP.dsub bb mn12) (1024 * (J - I)) := DB.sub y3_12 (by omega) (by omega)
      have y2_15 : Dy (FP.ddiv (FP.dsub bb mn12) (FP.l2d (((0 : Int64) + (1 : Int64)) + (1 : Int64)))) (512 * (J - I)) := y1_15.div 1 (by decide) (by decide +kernel) (by rw [show ((2 ^ 1 : Nat) : Int) = 2 from rfl]; omega) (by omega)
      have y3_15 : Dy (FP.dadd mn12 (FP.ddiv (FP.dsub bb mn12) (FP.l2d (((0 : Int64) + (1 : Int64)) + (1 : Int64))))) (512 * (I + J)) := y3_12.add y2_15 (by omega) (by omega)
      have y4_15 : Dy (FP.dsub bb (FP.dadd mn12 (FP.ddiv (FP.dsub bb mn12) (FP.l2d (((0 : Int64) + (1 : Int64)) + (1 : Int64)))))) (512 * (J - I)) := DB.sub y3_15 (by omega) (by omega)
      have y5_15 : Dy (FP.dmul (FP.dsub bb mn12) (FP.dsub bb (FP.dadd mn12 (FP.ddiv (FP.dsub bb mn12) (FP.l2d (((0 : Int64) + (1 : Int64)) + (1 : Int64))))))) (2 * ((J - I) * (J - I))) := y1_15.mul y4_15 (own_sq _) (by omega)
      have y6_15 : Dy (FP.dadd sq12 (FP.dmul (FP.dsub bb mn12) (FP.dsub bb (FP.dadd mn12 (FP.ddiv (FP.dsub bb mn12) (FP.l2d (((0 : Int64) + (1 : Int64)) + (1 : Int64)))))))) (2 * ((J - I) * (J - I))) := y6_12.add y5_15 (by omega) (by omega)
      obtain ⟨cq15, kq15, q15a, q15b, q15c⟩ := isOf hZ rfl Xp12_0
      obtain ⟨_, _, ⟨T15, L15, k15, n15⟩, -, X15, ⟨Lc15, hQ15, l15, y15, z15⟩, st15⟩ := X12.virtualBack hx (y := (⟨"com/example/laelaps/laelaps/testbed/ScoreMoments$Accumulator", "add", "(D)V"⟩ : MethodName)) (z := (⟨"com/example/laelaps/laelaps/testbed/ScoreMoments$Accumulator", "add", "(D)V"⟩ : MethodName)) hown (mvT hZ (hw _ (List.mem_of_getElem? (i := 11) rfl))) (mvT hZ (hw _ (List.mem_of_getElem? (i := 12) rfl))) (notFace_of_selects (args := #[]) (mvT hZ (hw _ (List.mem_of_getElem? (i := 14) rfl)))) (mvT hZ (hw _ (List.mem_of_getElem? (i := 14) rfl))) (mvT hZ (hw _ (List.mem_of_getElem? (i := 13) rfl))) (by decide) (backOf (W := 0) (rm3 l Z a0 hw [] b3 bb ((0 : Int64) + (1 : Int64)) mn12 sq12 T12.heap n0 Q13 Xp12_0 g_b3 Xp12_1 Xp12_2 Xp12_3 y1_15.noNaN y2_15.noNaN y3_15.noNaN y4_15.noNaN y5_15.noNaN y6_15.noNaN) hZ (hw _ (List.mem_of_getElem? (i := 15) rfl)) (hw _ (List.mem_of_getElem? (i := 4) rfl)) (by decide) (by decide)) q15a q15c (g := (mkF m 83 #[.val (.int p0), .val (.int p1), .val (.int p2), .val (.double aa), .second, .val (.double bb), .second, .val (.int ((p2 &&& (2147483647 : Int32)) % (3 : Int32))), .val (.ref b3), .unset, .unset, .unset, .unset, .unset, .unset, .unset, .unset] [(.double bb), (.ref b3)])) rfl (by rw [hml]; rfl) (Steps.refl _) (argsL := [(.double bb)]) (rest := []) (lenOf pd_2 rfl) rfl (by show 2 * 0 + _ ≤ _; exact Nat.le_of_eq rfl) (hb hby at_83) (fun _ _ => ⟨rfl, rfl, (by decide : (((0 + 1) + 0) + 0) + 0 ≤ _), (by decide : (((0 + 3) + 0) + 0) + 0 ≤ _)⟩)
      dsimp only [Pt.U, Pt.locs, Pt.cells, Pt.slots] at X15 l15 y15 z15 st15 hQ15
      subst l15 y15 z15
      obtain ⟨rfl, N15q, K15, Xp15_0, Xp15_1, Xp15_2, Xp15_3⟩ := hQ15
      obtain ⟨lc15, X15, N15⟩ := own_pack X15 (Fr.app N12 N15q)
      obtain ⟨mn15, hmn15⟩ : ∃ z, z = (FP.dadd mn12 (FP.ddiv (FP.dsub bb mn12) (FP.l2d (((0 : Int64) + (1 : Int64)) + (1 : Int64))))) := ⟨_, rfl⟩
      obtain ⟨sq15, hsq15⟩ : ∃ z, z = (FP.dadd sq12 (FP.dmul (FP.dsub bb mn12) (FP.dsub bb (FP.dadd mn12 (FP.ddiv (FP.dsub bb mn12) (FP.l2d (((0 : Int64) + (1 : Int64)) + (1 : Int64)))))))) := ⟨_, rfl⟩
      rw [← hsq15] at y6_15 Xp15_3
      rw [← hmn15] at y3_15 Xp15_2
      refine Go.step (g' := (mkF m 86 #[.val (.int p0), .val (.int p1), .val (.int p2), .val (.double aa), .second, .val (.double bb), .second, .val (.int ((p2 &&& (2147483647 : Int32)) % (3 : Int32))), .val (.ref b3), .unset, .unset, .unset, .unset, .unset, .unset, .unset, .unset] [])) (fun _ k => st15.trans k) ?_
      refine Go.step (g' := (mkF m 89 #[.val (.int p0), .val (.int p1), .val (.int p2), .val (.double aa), .second, .val (.double bb), .second, .val (.int ((p2 &&& (2147483647 : Int32)) % (3 : Int32))), .val (.ref b3), .unset, .unset, .unset, .unset, .unset, .unset, .unset, .unset] [(.long (2 : Int64))])) (fun _ k => X15.ldc2J hx hown (mvT hZ (hw _ (List.mem_of_getElem? (i := 57) rfl))) rfl (hb hby at_86) k) ?_
      refine Go.step (g' := (mkF m 91 #[.val (.int p0), .val (.int p1), .val (.int p2), .val (.double aa), .second, .val (.double bb), .second, .val (.int ((p2 &&& (2147483647 : Int32)) % (3 : Int32))), .val (.ref b3), .val (.long (2 : Int64)), .second, .unset, .unset, .unset, .unset, .unset, .unset] [])) (fun _ k => XS.lstore X15.here hx rfl (hb hby at_89) rfl (l' := #[.val (.int p0), .val (.int p1), .val (.int p2), .val (.double aa), .second, .val (.double bb), .second, .val (.int ((p2 &&& (2147483647 : Int32)) % (3 : Int32))), .val (.ref b3), .val (.long (2 : Int64)), .second, .unset, .unset, .unset, .unset, .unset, .unset]) rfl k) ?_
      refine Go.step (g' := (mkF m 92 #[.val (.int p0), .val (.int p1), .val (.int p2), .val (.double aa), .second, .val (.double bb), .second, .val (.int ((p2 &&& (2147483647 : Int32)) % (3 : Int32))), .val (.ref b3), .val (.long (2 : Int64)), .second, .unset, .unset, .unset, .unset, .unset, .unset] [(.double aa)])) (fun _ k => XS.dloadN X15.here hx rfl (hb hby at_91) rfl k) ?_
      refine Go.step (g' := (mkF m 94 #[.val (.int p0), .val (.int p1), .val (.int p2), .val (.double aa), .second, .val (.double bb), .second, .val (.int ((p2 &&& (2147483647 : Int32)) % (3 : Int32))), .val (.ref b3), .val (.long (2 : Int64)), .second, .unset, .unset, .unset, .unset, .unset, .unset] [(.double bb), (.double aa)])) (fun _ k => XS.dload X15.here hx rfl (hb hby at_92) rfl k) ?_
      have DS : Dy (FP.dadd aa bb) (1024 * (I + J)) := DA.add DB (by omega) (by omega)
      have DE : Dy (FP.ddiv (FP.dadd aa bb) (4611686018427387904 : UInt64)) (512 * (I + J)) := DS.div 1 (by decide) (by decide +kernel) (by rw [show ((2 ^ 1 : Nat) : Int) = 2 from rfl]; omega) (by omega)
      refine Go.step (g' := (mkF m 95 #[.val (.int p0), .val (.int p1), .val (.int p2), .val (.double aa), .second, .val (.double bb), .second, .val (.int ((p2 &&& (2147483647 : Int32)) % (3 : Int32))), .val (.ref b3), .val (.long (2 : Int64)), .second, .unset, .unset, .unset, .unset, .unset, .unset] [(.double (FP.dadd aa bb))])) (fun _ k => XS.daddS X15.here hx rfl (hb hby at_94) rfl (DA.add DB rfl (by omega)).noNaN rfl k) ?_
      have kd16 : (Jvm.Cond.constantDouble "com/example/laelaps/laelaps/testbed/AccumulatorAddPinLaw" 19 (4611686018427387904 : UInt64)).before #[(.int p0), (.int p1), (.int p2)] s = true := mvT hZ (hw _ (List.mem_of_getElem? (i := 58) rfl))
      refine Go.step (g' := (mkF m 98 #[.val (.int p0), .val (.int p1), .val (.int p2), .val (.double aa), .second, .val (.double bb), .second, .val (.int ((p2 &&& (2147483647 : Int32)) % (3 : Int32))), .val (.ref b3), .val (.long (2 : Int64)), .second, .unset, .unset, .unset, .unset, .unset, .unset] [(.double (4611686018427387904 : UInt64)), (.double (FP.dadd aa bb))])) (fun _ k => X15.ldc2DoubleC hx hown kd16 (g := (mkF m 95 #[.val (.int p0), .val (.int p1), .val (.int p2), .val (.double aa), .second, .val (.double bb), .second, .val (.int ((p2 &&& (2147483647 : Int32)) % (3 : Int32))), .val (.ref b3), .val (.long (2 : Int64)), .second, .unset, .unset, .unset, .unset, .unset, .unset] [(.double (FP.dadd aa bb))])) rfl (hb hby at_95) _ k) ?_
      refine Go.step (g' := (mkF m 99 #[.val (.int p0), .val (.int p1), .val (.int p2), .val (.double aa), .second, .val (.double bb), .second, .val (.int ((p2 &&& (2147483647 : Int32)) % (3 : Int32))), .val (.ref b3), .val (.long (2 : Int64)), .second, .unset, .unset, .unset, .unset, .unset, .unset] [(.double (FP.ddiv (FP.dadd aa bb) (4611686018427387904 : UInt64)))])) (fun _ k => XS.ddivS X15.here hx rfl (hb hby at_98) rfl DE.noNaN rfl k) ?_
      refine Go.step (g' := (mkF m 101 #[.val (.int p0), .val (.int p1), .val (.int p2), .val (.double aa), .second, .val (.double bb), .second, .val (.int ((p2 &&& (2147483647 : Int32)) % (3 : Int32))), .val (.ref b3), .val (.long (2 : Int64)), .second, .val (.double (FP.ddiv (FP.dadd aa bb) (4611686018427387904 : UInt64))), .second, .unset, .unset, .unset, .unset] [])) (fun _ k => XS.dstore X15.here hx rfl (hb hby at_99) rfl (l' := #[.val (.int p0), .val (.int p1), .val (.int p2), .val (.double aa), .second, .val (.double bb), .second, .val (.int ((p2 &&& (2147483647 : Int32)) % (3 : Int32))), .val (.ref b3), .val (.long (2 : Int64)), .second, .val (.double (FP.ddiv (FP.dadd aa bb) (4611686018427387904 : UInt64))), .second, .unset, .unset, .unset, .unset]) rfl k) ?_
      generalize hem : (FP.ddiv (FP.dadd aa bb) (4611686018427387904 : UInt64)) = em
      rw [hem] at DE
      refine Go.step (g' := (mkF m 102 #[.val (.int p0), .val (.int p1), .val (.int p2), .val (.double aa), .second, .val (.double bb), .second, .val (.int ((p2 &&& (2147483647 : Int32)) % (3 : Int32))), .val (.ref b3), .val (.long (2 : Int64)), .second, .val (.double em), .second, .unset, .unset, .unset, .unset] [(.double aa)])) (fun _ k => XS.dloadN X15.here hx rfl (hb hby at_101) rfl k) ?_
      refine Go.step (g' := (mkF m 104 #[.val (.int p0), .val (.int p1), .val (.int p2), .val (.double aa), .second, .val (.double bb), .second, .val (.int ((p2 &&& (2147483647 : Int32)) % (3 : Int32))), .val (.ref b3), .val (.long (2 : Int64)), .second, .val (.double em), .second, .unset, .unset, .unset, .unset] [(.double bb), (.double aa)])) (fun _ k => XS.dload X15.here hx rfl (hb hby at_102) rfl k) ?_
      have DT : Dy (FP.dsub aa bb) (1024 * (I - J)) := DA.sub DB (by omega) (by omega)
      have DH : Dy (FP.ddiv (FP.dsub aa bb) (4611686018427387904 : UInt64)) (512 * (I - J)) := DT.div 1 (by decide) (by decide +kernel) (by rw [show ((2 ^ 1 : Nat) : Int) = 2 from rfl]; omega) (by omega)
      refine Go.step (g' := (mkF m 105 #[.val (.int p0), .val (.int p1), .val (.int p2), .val (.double aa), .second, .val (.double bb), .second, .val (.int ((p2 &&& (2147483647 : Int32)) % (3 : Int32))), .val (.ref b3), .val (.long (2 : Int64)), .second, .val (.double em), .second, .unset, .unset, .unset, .unset] [(.double (FP.dsub aa bb))])) (fun _ k => XS.dsubS X15.here hx rfl (hb hby at_104) rfl (DA.sub DB rfl (by omega)).noNaN rfl k) ?_
      have kd17 : (Jvm.Cond.constantDouble "com/example/laelaps/laelaps/testbed/AccumulatorAddPinLaw" 19 (4611686018427387904 : UInt64)).before #[(.int p0), (.int p1), (.int p2)] s = true := mvT hZ (hw _ (List.mem_of_getElem? (i := 58) rfl))
      refine Go.step (g' := (mkF m 108 #[.val (.int p0), .val (.int p1), .val (.int p2), .val (.double aa), .second, .val (.double bb), .second, .val (.int ((p2 &&& (2147483647 : Int32)) % (3 : Int32))), .val (.ref b3), .val (.long (2 : Int64)), .second, .val (.double em), .second, .unset, .unset, .unset, .unset] [(.double (4611686018427387904 : UInt64)), (.double (FP.dsub aa bb))])) (fun _ k => X15.ldc2DoubleC hx hown kd17 (g := (mkF m 105 #[.val (.int p0), .val (.int p1), .val (.int p2), .val (.double aa), .second, .val (.double bb), .second, .val (.int ((p2 &&& (2147483647 : Int32)) % (3 : Int32))), .val (.ref b3), .val (.long (2 : Int64)), .second, .val (.double em), .second, .unset, .unset, .unset, .unset] [(.double (FP.dsub aa bb))])) rfl (hb hby at_105) _ k) ?_
      refine Go.step (g' := (mkF m 109 #[.val (.int p0), .val (.int p1), .val (.int p2), .val (.double aa), .second, .val (.double bb), .second, .val (.int ((p2 &&& (2147483647 : Int32)) % (3 : Int32))), .val (.ref b3), .val (.long (2 : Int64)), .second, .val (.double em), .second, .unset, .unset, .unset, .unset] [(.double (FP.ddiv (FP.dsub aa bb) (4611686018427387904 : UInt64)))])) (fun _ k => XS.ddivS X15.here hx rfl (hb hby at_108) rfl DH.noNaN rfl k) ?_
      refine Go.step (g' := (mkF m 111 #[.val (.int p0), .val (.int p1), .val (.int p2), .val (.double aa), .second, .val (.double bb), .second, .val (.int ((p2 &&& (2147483647 : Int32)) % (3 : Int32))), .val (.ref b3), .val (.long (2 : Int64)), .second, .val (.double em), .second, .unset, .unset, .val (.double (FP.ddiv (FP.dsub aa bb) (4611686018427387904 : UInt64))), .second] [])) (fun _ k => XS.dstore X15.here hx rfl (hb hby at_109) rfl (l' := #[.val (.int p0), .val (.int p1), .val (.int p2), .val (.double aa), .second, .val (.double bb), .second, .val (.int ((p2 &&& (2147483647 : Int32)) % (3 : Int32))), .val (.ref b3), .val (.long (2 : Int64)), .second, .val (.double em), .second, .unset, .unset, .val (.double (FP.ddiv (FP.dsub aa bb) (4611686018427387904 : UInt64))), .second]) rfl k) ?_
      generalize hhh : (FP.ddiv (FP.dsub aa bb) (4611686018427387904 : UInt64)) = hh
      rw [hhh] at DH
      refine Go.step (g' := (mkF m 113 #[.val (.int p0), .val (.int p1), .val (.int p2), .val (.double aa), .second, .val (.double bb), .second, .val (.int ((p2 &&& (2147483647 : Int32)) % (3 : Int32))), .val (.ref b3), .val (.long (2 : Int64)), .second, .val (.double em), .second, .unset, .unset, .val (.double hh), .second] [(.double hh)])) (fun _ k => XS.dload X15.here hx rfl (hb hby at_111) rfl k) ?_
      refine Go.step (g' := (mkF m 115 #[.val (.int p0), .val (.int p1), .val (.int p2), .val (.double aa), .second, .val (.double bb), .second, .val (.int ((p2 &&& (2147483647 : Int32)) % (3 : Int32))), .val (.ref b3), .val (.long (2 : Int64)), .second, .val (.double em), .second, .unset, .unset, .val (.double hh), .second] [(.double hh), (.double hh)])) (fun _ k => XS.dload X15.here hx rfl (hb hby at_113) rfl k) ?_
      have DV : Dy (FP.dmul hh hh) ((J - I) * (J - I)) := DH.mul DH (own_sqh _ _) (by omega)
      refine Go.step (g' := (mkF m 116 #[.val (.int p0), .val (.int p1), .val (.int p2), .val (.double aa), .second, .val (.double bb), .second, .val (.int ((p2 &&& (2147483647 : Int32)) % (3 : Int32))), .val (.ref b3), .val (.long (2 : Int64)), .second, .val (.double em), .second, .unset, .unset, .val (.double hh), .second] [(.double (FP.dmul hh hh))])) (fun _ k => XS.dmulS X15.here hx rfl (hb hby at_115) rfl DV.noNaN rfl k) ?_
      refine Go.step (g' := (mkF m 118 #[.val (.int p0), .val (.int p1), .val (.int p2), .val (.double aa), .second, .val (.double bb), .second, .val (.int ((p2 &&& (2147483647 : Int32)) % (3 : Int32))), .val (.ref b3), .val (.long (2 : Int64)), .second, .val (.double em), .second, .val (.double (FP.dmul hh hh)), .second, .val (.double hh), .second] [])) (fun _ k => XS.dstore X15.here hx rfl (hb hby at_116) rfl (l' := #[.val (.int p0), .val (.int p1), .val (.int p2), .val (.double aa), .second, .val (.double bb), .second, .val (.int ((p2 &&& (2147483647 : Int32)) % (3 : Int32))), .val (.ref b3), .val (.long (2 : Int64)), .second, .val (.double em), .second, .val (.double (FP.dmul hh hh)), .second, .val (.double hh), .second]) rfl k) ?_
      generalize hev : (FP.dmul hh hh) = ev
      rw [hev] at DV
      refine Go.step (g' := (mkF m 150 #[.val (.int p0), .val (.int p1), .val (.int p2), .val (.double aa), .second, .val (.double bb), .second, .val (.int ((p2 &&& (2147483647 : Int32)) % (3 : Int32))), .val (.ref b3), .val (.long (2 : Int64)), .second, .val (.double em), .second, .val (.double ev), .second, .val (.double hh), .second] [])) (fun _ k => XS.goto X15.here hx rfl (pc0 := 118) (pc' := 150) rfl (hb hby at_118) (by decide) (by decide) k) ?_
      rw [show f0_73 = f0_150d118 from rfl]
      refine Go.step (g' := (mkF m 152 #[.val (.int p0), .val (.int p1), .val (.int p2), .val (.double aa), .second, .val (.double bb), .second, .val (.int ((p2 &&& (2147483647 : Int32)) % (3 : Int32))), .val (.ref b3), .val (.long (2 : Int64)), .second, .val (.double em), .second, .val (.double ev), .second, .val (.double hh), .second] [(.ref b3)])) (fun _ k => XS.aload X15.here hx rfl (hb hby at_150) rfl rfl  k) ?_
      have yv2 : Dy (FP.ddiv sq15 (FP.l2d (((0 : Int64) + (1 : Int64)) + (1 : Int64)))) ((J - I) * (J - I)) := y6_15.div 1 (by decide) (by decide +kernel) (by rw [show ((2 ^ 1 : Nat) : Int) = 2 from rfl]; omega) (by omega)
      obtain ⟨cq18, kq18, q18a, q18b, q18c⟩ := isOf hZ rfl Xp15_0
      obtain ⟨_, _, ⟨T18, L18, k18, n18⟩, -, X18, ⟨Lc18, hQ18, l18, y18, z18⟩, st18⟩ := X15.virtualBack hx (y := (⟨"com/example/laelaps/laelaps/testbed/ScoreMoments$Accumulator", "moments", "()Lcom/example/laelaps/laelaps/testbed/ScoreMoments;"⟩ : MethodName)) (z := (⟨"com/example/laelaps/laelaps/testbed/ScoreMoments$Accumulator", "moments", "()Lcom/example/laelaps/laelaps/testbed/ScoreMoments;"⟩ : MethodName)) hown (mvT hZ (hw _ (List.mem_of_getElem? (i := 23) rfl))) (mvT hZ (hw _ (List.mem_of_getElem? (i := 24) rfl))) (notFace_of_selects (args := #[]) (mvT hZ (hw _ (List.mem_of_getElem? (i := 26) rfl)))) (mvT hZ (hw _ (List.mem_of_getElem? (i := 26) rfl))) (mvT hZ (hw _ (List.mem_of_getElem? (i := 25) rfl))) (by decide) (backOf (W := 0) (rm4 l Z a0 hw [] b3 (((0 : Int64) + (1 : Int64)) + (1 : Int64)) mn15 sq15 T15.heap n0 (Nat.le_trans Q13 K15.1) Xp15_1 Xp15_2 Xp15_3 yv2.noNaN (by decide) (own_c13 y3_15 (by omega)) (own_c19 y3_15 (by omega)) (own_c26 yv2 (by omega)) (own_c35 yv2)) hZ (hw _ (List.mem_of_getElem? (i := 27) rfl)) (hw _ (List.mem_of_getElem? (i := 4) rfl)) (by decide) (by decide)) q18a q18c (g := (mkF m 152 #[.val (.int p0), .val (.int p1), .val (.int p2), .val (.double aa), .second, .val (.double bb), .second, .val (.int ((p2 &&& (2147483647 : Int32)) % (3 : Int32))), .val (.ref b3), .val (.long (2 : Int64)), .second, .val (.double em), .second, .val (.double ev), .second, .val (.double hh), .second] [(.ref b3)])) rfl (by rw [hml]; rfl) (Steps.refl _) (argsL := []) (rest := []) (lenOf pd_3 rfl) rfl (by show 2 * 0 + _ ≤ _; exact Nat.le_of_eq rfl) (hb hby at_152) (fun _ _ => ⟨rfl, rfl, (by decide : ((((0 + 1) + 0) + 0) + 0) + 1 ≤ _), (by decide : ((((0 + 3) + 0) + 0) + 0) + 3 ≤ _)⟩)
      dsimp only [Pt.U, Pt.locs, Pt.cells, Pt.slots] at X18 l18 y18 z18 st18 hQ18
      subst l18 y18 z18
      obtain ⟨c18, rfl, N18q, K18, sc18, Ei18, Fd18, Fm18, Fv18⟩ := hQ18
      obtain ⟨lc18, X18, N18⟩ := own_pack X18 (Fr.app N15 N18q)
      have ne_b3_c18 : b3 ≠ c18 := Nat.ne_of_lt (Nat.lt_of_lt_of_le Xp15_0.lt sc18)
      have g_c18 : n0 ≤ c18 := Nat.le_trans (Nat.le_trans Q13 K15.1) sc18
      have sz_c18 : h0.size ≤ c18 := Nat.le_trans (Q14.trans K15 (allS (Or.inr sz_b3) all0)).1 sc18
      refine Go.step (g' := (mkF m 155 #[.val (.int p0), .val (.int p1), .val (.int p2), .val (.double aa), .second, .val (.double bb), .second, .val (.int ((p2 &&& (2147483647 : Int32)) % (3 : Int32))), .val (.ref b3), .val (.long (2 : Int64)), .second, .val (.double em), .second, .val (.double ev), .second, .val (.double hh), .second] [(.ref c18)])) (fun _ k => st18.trans k) ?_
      refine Go.step (g' := (mkF m 157 #[.val (.int p0), .val (.int p1), .val (.int p2), .val (.double aa), .second, .val (.double bb), .second, .val (.int ((p2 &&& (2147483647 : Int32)) % (3 : Int32))), .val (.ref b3), .val (.long (2 : Int64)), .second, .val (.double em), .second, .val (.double ev), .second, .val (.ref c18), .unset] [])) (fun _ k => XS.astore X18.here hx rfl (hb hby at_155) rfl rfl (l' := #[.val (.int p0), .val (.int p1), .val (.int p2), .val (.double aa), .second, .val (.double bb), .second, .val (.int ((p2 &&& (2147483647 : Int32)) % (3 : Int32))), .val (.ref b3), .val (.long (2 : Int64)), .second, .val (.double em), .second, .val (.double ev), .second, .val (.ref c18), .unset]) rfl k) ?_
      refine Go.step (g' := (mkF m 159 #[.val (.int p0), .val (.int p1), .val (.int p2), .val (.double aa), .second, .val (.double bb), .second, .val (.int ((p2 &&& (2147483647 : Int32)) % (3 : Int32))), .val (.ref b3), .val (.long (2 : Int64)), .second, .val (.double em), .second, .val (.double ev), .second, .val (.ref c18), .unset] [(.ref c18)])) (fun _ k => XS.aload X18.here hx rfl (hb hby at_157) rfl rfl  k) ?_
      obtain ⟨cq19, kq19, q19a, q19b, q19c⟩ := isOf hZ rfl Ei18
      obtain ⟨_, _, ⟨T19, L19, k19, n19⟩, -, X19, ⟨Lc19, hQ19, l19, y19, z19⟩, st19⟩ := X18.virtualBack hx (y := (⟨"com/example/laelaps/laelaps/testbed/ScoreMoments", "documents", "()J"⟩ : MethodName)) (z := (⟨"com/example/laelaps/laelaps/testbed/ScoreMoments", "documents", "()J"⟩ : MethodName)) hown (mvT hZ (hw _ (List.mem_of_getElem? (i := 42) rfl))) (mvT hZ (hw _ (List.mem_of_getElem? (i := 43) rfl))) (notFace_of_selects (args := #[]) (mvT hZ (hw _ (List.mem_of_getElem? (i := 45) rfl)))) (mvT hZ (hw _ (List.mem_of_getElem? (i := 45) rfl))) (mvT hZ (hw _ (List.mem_of_getElem? (i := 44) rfl))) (by decide) (backOf (W := 0) (rm6 l Z a0 hw [] c18 (((0 : Int64) + (1 : Int64)) + (1 : Int64)) T18.heap Fd18) hZ (hw _ (List.mem_of_getElem? (i := 46) rfl)) (hw _ (List.mem_of_getElem? (i := 30) rfl)) (by decide) (by decide)) q19a q19c (g := (mkF m 159 #[.val (.int p0), .val (.int p1), .val (.int p2), .val (.double aa), .second, .val (.double bb), .second, .val (.int ((p2 &&& (2147483647 : Int32)) % (3 : Int32))), .val (.ref b3), .val (.long (2 : Int64)), .second, .val (.double em), .second, .val (.double ev), .second, .val (.ref c18), .unset] [(.ref c18)])) rfl (by rw [hml]; rfl) (Steps.refl _) (argsL := []) (rest := []) (lenOf pd_4 rfl) rfl (by show 2 * 0 + _ ≤ _; exact Nat.le_of_eq rfl) (hb hby at_159) (fun _ _ => ⟨rfl, rfl, (by decide : (((((0 + 1) + 0) + 0) + 0) + 1) + 0 ≤ _), (by decide : (((((0 + 3) + 0) + 0) + 0) + 3) + 0 ≤ _)⟩)
      dsimp only [Pt.U, Pt.locs, Pt.cells, Pt.slots] at X19 l19 y19 z19 st19 hQ19
      subst l19 y19 z19
      obtain ⟨rfl, rfl, e19⟩ := hQ19
      try rw [List.append_nil] at X19
      refine Go.step (g' := (mkF m 162 #[.val (.int p0), .val (.int p1), .val (.int p2), .val (.double aa), .second, .val (.double bb), .second, .val (.int ((p2 &&& (2147483647 : Int32)) % (3 : Int32))), .val (.ref b3), .val (.long (2 : Int64)), .second, .val (.double em), .second, .val (.double ev), .second, .val (.ref c18), .unset] [(.long (((0 : Int64) + (1 : Int64)) + (1 : Int64)))])) (fun _ k => st19.trans k) ?_
      refine Go.step (g' := (mkF m 164 #[.val (.int p0), .val (.int p1), .val (.int p2), .val (.double aa), .second, .val (.double bb), .second, .val (.int ((p2 &&& (2147483647 : Int32)) % (3 : Int32))), .val (.ref b3), .val (.long (2 : Int64)), .second, .val (.double em), .second, .val (.double ev), .second, .val (.ref c18), .unset] [(.long (2 : Int64)), (.long (((0 : Int64) + (1 : Int64)) + (1 : Int64)))])) (fun _ k => XS.lload X19.here hx rfl (hb hby at_162) rfl  k) ?_
      refine Go.step (g' := (mkF m 165 #[.val (.int p0), .val (.int p1), .val (.int p2), .val (.double aa), .second, .val (.double bb), .second, .val (.int ((p2 &&& (2147483647 : Int32)) % (3 : Int32))), .val (.ref b3), .val (.long (2 : Int64)), .second, .val (.double em), .second, .val (.double ev), .second, .val (.ref c18), .unset] [(.int (lcmpW (((0 : Int64) + (1 : Int64)) + (1 : Int64)) (2 : Int64)))])) (fun _ k => XS.lcmp X19.here hx rfl (hb hby at_164) rfl k) ?_
      refine Go.step (g' := (mkF m 168 #[.val (.int p0), .val (.int p1), .val (.int p2), .val (.double aa), .second, .val (.double bb), .second, .val (.int ((p2 &&& (2147483647 : Int32)) % (3 : Int32))), .val (.ref b3), .val (.long (2 : Int64)), .second, .val (.double em), .second, .val (.double ev), .second, .val (.ref c18), .unset] [])) (fun _ k => XS.ifNo X19.here hx rfl (hb hby at_165) rfl ((if0 _ _).trans (teq (by decide : (lcmpW (((0 : Int64) + (1 : Int64)) + (1 : Int64)) (2 : Int64)) = (0 : Int32))).2) k) ?_
      rw [show f0_150d118 = f0_168d118 from rfl]
      refine Go.step (g' := (mkF m 170 #[.val (.int p0), .val (.int p1), .val (.int p2), .val (.double aa), .second, .val (.double bb), .second, .val (.int ((p2 &&& (2147483647 : Int32)) % (3 : Int32))), .val (.ref b3), .val (.long (2 : Int64)), .second, .val (.double em), .second, .val (.double ev), .second, .val (.ref c18), .unset] [(.ref c18)])) (fun _ k => XS.aload X19.here hx rfl (hb hby at_168) rfl rfl  k) ?_
      obtain ⟨cq20, kq20, q20a, q20b, q20c⟩ := isOf hZ e19 Ei18
      obtain ⟨_, _, ⟨T20, L20, k20, n20⟩, -, X20, ⟨Lc20, hQ20, l20, y20, z20⟩, st20⟩ := X19.virtualBack hx (y := (⟨"com/example/laelaps/laelaps/testbed/ScoreMoments", "mean", "()D"⟩ : MethodName)) (z := (⟨"com/example/laelaps/laelaps/testbed/ScoreMoments", "mean", "()D"⟩ : MethodName)) hown (mvT hZ (hw _ (List.mem_of_getElem? (i := 47) rfl))) (mvT hZ (hw _ (List.mem_of_getElem? (i := 48) rfl))) (notFace_of_selects (args := #[]) (mvT hZ (hw _ (List.mem_of_getElem? (i := 50) rfl)))) (mvT hZ (hw _ (List.mem_of_getElem? (i := 50) rfl))) (mvT hZ (hw _ (List.mem_of_getElem? (i := 49) rfl))) (by decide) (backOf (W := 0) (rm7 l Z a0 hw [] c18 mn15 T18.heap Fm18) hZ (hw _ (List.mem_of_getElem? (i := 51) rfl)) (hw _ (List.mem_of_getElem? (i := 30) rfl)) (by decide) (by decide)) q20a q20c (g := (mkF m 170 #[.val (.int p0), .val (.int p1), .val (.int p2), .val (.double aa), .second, .val (.double bb), .second, .val (.int ((p2 &&& (2147483647 : Int32)) % (3 : Int32))), .val (.ref b3), .val (.long (2 : Int64)), .second, .val (.double em), .second, .val (.double ev), .second, .val (.ref c18), .unset] [(.ref c18)])) rfl (by rw [hml]; rfl) (Steps.refl _) (argsL := []) (rest := []) (lenOf pd_5 rfl) rfl (by show 2 * 0 + _ ≤ _; exact Nat.le_of_eq rfl) (hb hby at_170) (fun _ _ => ⟨rfl, e19, (by decide : (((((0 + 1) + 0) + 0) + 0) + 1) + 0 ≤ _), (by decide : (((((0 + 3) + 0) + 0) + 0) + 3) + 0 ≤ _)⟩)
      dsimp only [Pt.U, Pt.locs, Pt.cells, Pt.slots] at X20 l20 y20 z20 st20 hQ20
      subst l20 y20 z20
      obtain ⟨rfl, rfl, e20⟩ := hQ20
      try rw [List.append_nil] at X20
      refine Go.step (g' := (mkF m 173 #[.val (.int p0), .val (.int p1), .val (.int p2), .val (.double aa), .second, .val (.double bb), .second, .val (.int ((p2 &&& (2147483647 : Int32)) % (3 : Int32))), .val (.ref b3), .val (.long (2 : Int64)), .second, .val (.double em), .second, .val (.double ev), .second, .val (.ref c18), .unset] [(.double mn15)])) (fun _ k => st20.trans k) ?_
      refine Go.step (g' := (mkF m 175 #[.val (.int p0), .val (.int p1), .val (.int p2), .val (.double aa), .second, .val (.double bb), .second, .val (.int ((p2 &&& (2147483647 : Int32)) % (3 : Int32))), .val (.ref b3), .val (.long (2 : Int64)), .second, .val (.double em), .second, .val (.double ev), .second, .val (.ref c18), .unset] [(.double em), (.double mn15)])) (fun _ k => XS.dload X20.here hx rfl (hb hby at_173) rfl k) ?_
      refine Go.step (g' := (mkF m 176 #[.val (.int p0), .val (.int p1), .val (.int p2), .val (.double aa), .second, .val (.double bb), .second, .val (.int ((p2 &&& (2147483647 : Int32)) % (3 : Int32))), .val (.ref b3), .val (.long (2 : Int64)), .second, .val (.double em), .second, .val (.double ev), .second, .val (.ref c18), .unset] [(.int (cmpValue (FP.dcmp mn15 em) .l))])) (fun _ k => XS.dcmpS X20.here hx rfl (hb hby at_175) rfl rfl k) ?_
      refine Go.step (g' := (mkF m 179 #[.val (.int p0), .val (.int p1), .val (.int p2), .val (.double aa), .second, .val (.double bb), .second, .val (.int ((p2 &&& (2147483647 : Int32)) % (3 : Int32))), .val (.ref b3), .val (.long (2 : Int64)), .second, .val (.double em), .second, .val (.double ev), .second, .val (.ref c18), .unset] [])) (fun _ k => XS.ifNo X20.here hx rfl (hb hby at_176) rfl ((if0 _ _).trans (teq (y3_15.eq0 DE .l : (cmpValue (FP.dcmp mn15 em) .l) = (0 : Int32))).2) k) ?_
      rw [show f0_168d118 = f0_179d118 from rfl]
      refine Go.step (g' := (mkF m 181 #[.val (.int p0), .val (.int p1), .val (.int p2), .val (.double aa), .second, .val (.double bb), .second, .val (.int ((p2 &&& (2147483647 : Int32)) % (3 : Int32))), .val (.ref b3), .val (.long (2 : Int64)), .second, .val (.double em), .second, .val (.double ev), .second, .val (.ref c18), .unset] [(.ref c18)])) (fun _ k => XS.aload X20.here hx rfl (hb hby at_179) rfl rfl  k) ?_
      obtain ⟨cq21, kq21, q21a, q21b, q21c⟩ := isOf hZ e20 Ei18
      obtain ⟨_, _, ⟨T21, L21, k21, n21⟩, -, X21, ⟨Lc21, hQ21, l21, y21, z21⟩, st21⟩ := X20.virtualBack hx (y := (⟨"com/example/laelaps/laelaps/testbed/ScoreMoments", "variance", "()D"⟩ : MethodName)) (z := (⟨"com/example/laelaps/laelaps/testbed/ScoreMoments", "variance", "()D"⟩ : MethodName)) hown (mvT hZ (hw _ (List.mem_of_getElem? (i := 52) rfl))) (mvT hZ (hw _ (List.mem_of_getElem? (i := 53) rfl))) (notFace_of_selects (args := #[]) (mvT hZ (hw _ (List.mem_of_getElem? (i := 55) rfl)))) (mvT hZ (hw _ (List.mem_of_getElem? (i := 55) rfl))) (mvT hZ (hw _ (List.mem_of_getElem? (i := 54) rfl))) (by decide) (backOf (W := 0) (rm8 l Z a0 hw [] c18 (FP.ddiv sq15 (FP.l2d (((0 : Int64) + (1 : Int64)) + (1 : Int64)))) T18.heap Fv18) hZ (hw _ (List.mem_of_getElem? (i := 56) rfl)) (hw _ (List.mem_of_getElem? (i := 30) rfl)) (by decide) (by decide)) q21a q21c (g := (mkF m 181 #[.val (.int p0), .val (.int p1), .val (.int p2), .val (.double aa), .second, .val (.double bb), .second, .val (.int ((p2 &&& (2147483647 : Int32)) % (3 : Int32))), .val (.ref b3), .val (.long (2 : Int64)), .second, .val (.double em), .second, .val (.double ev), .second, .val (.ref c18), .unset] [(.ref c18)])) rfl (by rw [hml]; rfl) (Steps.refl _) (argsL := []) (rest := []) (lenOf pd_5 rfl) rfl (by show 2 * 0 + _ ≤ _; exact Nat.le_of_eq rfl) (hb hby at_181) (fun _ _ => ⟨rfl, e20, (by decide : (((((0 + 1) + 0) + 0) + 0) + 1) + 0 ≤ _), (by decide : (((((0 + 3) + 0) + 0) + 0) + 3) + 0 ≤ _)⟩)
      dsimp only [Pt.U, Pt.locs, Pt.cells, Pt.slots] at X21 l21 y21 z21 st21 hQ21
      subst l21 y21 z21
      obtain ⟨rfl, rfl, e21⟩ := hQ21
      try rw [List.append_nil] at X21
      refine Go.step (g' := (mkF m 184 #[.val (.int p0), .val (.int p1), .val (.int p2), .val (.double aa), .second, .val (.double bb), .second, .val (.int ((p2 &&& (2147483647 : Int32)) % (3 : Int32))), .val (.ref b3), .val (.long (2 : Int64)), .second, .val (.double em), .second, .val (.double ev), .second, .val (.ref c18), .unset] [(.double (FP.ddiv sq15 (FP.l2d (((0 : Int64) + (1 : Int64)) + (1 : Int64)))))])) (fun _ k => st21.trans k) ?_
      refine Go.step (g' := (mkF m 186 #[.val (.int p0), .val (.int p1), .val (.int p2), .val (.double aa), .second, .val (.double bb), .second, .val (.int ((p2 &&& (2147483647 : Int32)) % (3 : Int32))), .val (.ref b3), .val (.long (2 : Int64)), .second, .val (.double em), .second, .val (.double ev), .second, .val (.ref c18), .unset] [(.double ev), (.double (FP.ddiv sq15 (FP.l2d (((0 : Int64) + (1 : Int64)) + (1 : Int64)))))])) (fun _ k => XS.dload X21.here hx rfl (hb hby at_184) rfl k) ?_
      refine Go.step (g' := (mkF m 187 #[.val (.int p0), .val (.int p1), .val (.int p2), .val (.double aa), .second, .val (.double bb), .second, .val (.int ((p2 &&& (2147483647 : Int32)) % (3 : Int32))), .val (.ref b3), .val (.long (2 : Int64)), .second, .val (.double em), .second, .val (.double ev), .second, .val (.ref c18), .unset] [(.int (cmpValue (FP.dcmp (FP.ddiv sq15 (FP.l2d (((0 : Int64) + (1 : Int64)) + (1 : Int64)))) ev) .l))])) (fun _ k => XS.dcmpS X21.here hx rfl (hb hby at_186) rfl rfl k) ?_
      refine Go.step (g' := (mkF m 190 #[.val (.int p0), .val (.int p1), .val (.int p2), .val (.double aa), .second, .val (.double bb), .second, .val (.int ((p2 &&& (2147483647 : Int32)) % (3 : Int32))), .val (.ref b3), .val (.long (2 : Int64)), .second, .val (.double em), .second, .val (.double ev), .second, .val (.ref c18), .unset] [])) (fun _ k => XS.ifNo X21.here hx rfl (hb hby at_187) rfl ((if0 _ _).trans (teq (yv2.eq0 DV .l : (cmpValue (FP.dcmp (FP.ddiv sq15 (FP.l2d (((0 : Int64) + (1 : Int64)) + (1 : Int64)))) ev) .l) = (0 : Int32))).2) k) ?_
      rw [show f0_179d118 = f0_190d118 from rfl]
      refine Go.step (g' := (mkF m 191 #[.val (.int p0), .val (.int p1), .val (.int p2), .val (.double aa), .second, .val (.double bb), .second, .val (.int ((p2 &&& (2147483647 : Int32)) % (3 : Int32))), .val (.ref b3), .val (.long (2 : Int64)), .second, .val (.double em), .second, .val (.double ev), .second, .val (.ref c18), .unset] [(.int (1 : Int32))])) (fun _ k => XS.iconst X21.here hx rfl (hb hby at_190) k) ?_
      refine Go.step (g' := (mkF m 195 #[.val (.int p0), .val (.int p1), .val (.int p2), .val (.double aa), .second, .val (.double bb), .second, .val (.int ((p2 &&& (2147483647 : Int32)) % (3 : Int32))), .val (.ref b3), .val (.long (2 : Int64)), .second, .val (.double em), .second, .val (.double ev), .second, .val (.ref c18), .unset] [(.int (1 : Int32))])) (fun _ k => XS.goto X21.here hx rfl (pc0 := 191) (pc' := 195) rfl (hb hby at_191) (by decide) (by decide) k) ?_
      rw [show f0_190d118 = f0_195d118 from rfl]
      exact Go.retN X21 hx hlk (t := .boolean) Bd.returns (by simp) (hb hby at_195) (by decide) (by decide) ⟨rfl, N18⟩
    · rw [show (f0_67 p2) = f0_121 from if_neg hc70]
      refine Go.step (g' := (mkF m 121 #[.val (.int p0), .val (.int p1), .val (.int p2), .val (.double aa), .second, .val (.double bb), .second, .val (.int ((p2 &&& (2147483647 : Int32)) % (3 : Int32))), .val (.ref b3), .unset, .unset, .unset, .unset, .unset, .unset, .unset, .unset] [])) (fun _ k => XS.icmpYes X4.here hx rfl (pc0 := 70) (pc' := 121) rfl (hb hby at_70) rfl (feq hc70).2 (by decide) (by decide) k) ?_
      refine Go.step (g' := (mkF m 123 #[.val (.int p0), .val (.int p1), .val (.int p2), .val (.double aa), .second, .val (.double bb), .second, .val (.int ((p2 &&& (2147483647 : Int32)) % (3 : Int32))), .val (.ref b3), .unset, .unset, .unset, .unset, .unset, .unset, .unset, .unset] [(.ref b3)])) (fun _ k => XS.aload X4.here hx rfl (hb hby at_121) rfl rfl  k) ?_
      refine Go.step (g' := (mkF m 124 #[.val (.int p0), .val (.int p1), .val (.int p2), .val (.double aa), .second, .val (.double bb), .second, .val (.int ((p2 &&& (2147483647 : Int32)) % (3 : Int32))), .val (.ref b3), .unset, .unset, .unset, .unset, .unset, .unset, .unset, .unset] [(.double aa), (.ref b3)])) (fun _ k => XS.dloadN X4.here hx rfl (hb hby at_123) rfl k) ?_
      have y1_22 : Dy (FP.dsub aa (0 : UInt64)) (1024 * I) := DA.sub own_d0 (by omega) (by omega)
      have y2_22 : Dy (FP.ddiv (FP.dsub aa (0 : UInt64)) (FP.l2d ((0 : Int64) + (1 : Int64)))) (1024 * I) := y1_22.div 0 (by decide) (by decide +kernel) (by rw [show ((2 ^ 0 : Nat) : Int) = 1 from rfl]; omega) (by omega)
      have y3_22 : Dy (FP.dadd (0 : UInt64) (FP.ddiv (FP.dsub aa (0 : UInt64)) (FP.l2d ((0 : Int64) + (1 : Int64))))) (1024 * I) := own_d0.add y2_22 (by omega) (by omega)
      have y4_22 : Dy (FP.dsub aa (FP.dadd (0 : UInt64) (FP.ddiv (FP.dsub aa (0 : UInt64)) (FP.l2d ((0 : Int64) + (1 : Int64)))))) (0) := DA.sub y3_22 (by omega) (by omega)
      have y5_22 : Dy (FP.dmul (FP.dsub aa (0 : UInt64)) (FP.dsub aa (FP.dadd (0 : UInt64) (FP.ddiv (FP.dsub aa (0 : UInt64)) (FP.l2d ((0 : Int64) + (1 : Int64))))))) (0) := y1_22.mul y4_22 (by simp) (by omega)
      have y6_22 : Dy (FP.dadd (0 : UInt64) (FP.dmul (FP.dsub aa (0 : UInt64)) (FP.dsub aa (FP.dadd (0 : UInt64) (FP.ddiv (FP.dsub aa (0 : UInt64)) (FP.l2d ((0 : Int64) + (1 : Int64)))))))) (0) := own_d0.add y5_22 (by omega) (by omega)
      obtain ⟨cq22, kq22, q22a, q22b, q22c⟩ := isOf hZ rfl (A3.keep K4)
      obtain ⟨_, _, ⟨T22, L22, k22, n22⟩, -, X22, ⟨Lc22, hQ22, l22, y22, z22⟩, st22⟩ := X4.virtualBack hx (y := (⟨"com/example/laelaps/laelaps/testbed/ScoreMoments$Accumulator", "add", "(D)V"⟩ : MethodName)) (z := (⟨"com/example/laelaps/laelaps/testbed/ScoreMoments$Accumulator", "add", "(D)V"⟩ : MethodName)) hown (mvT hZ (hw _ (List.mem_of_getElem? (i := 11) rfl))) (mvT hZ (hw _ (List.mem_of_getElem? (i := 12) rfl))) (notFace_of_selects (args := #[]) (mvT hZ (hw _ (List.mem_of_getElem? (i := 14) rfl)))) (mvT hZ (hw _ (List.mem_of_getElem? (i := 14) rfl))) (mvT hZ (hw _ (List.mem_of_getElem? (i := 13) rfl))) (by decide) (backOf (W := 0) (rm3 l Z a0 hw [] b3 aa (0 : Int64) (0 : UInt64) (0 : UInt64) T4.heap n0 (Nat.le_trans (Nat.le_trans Z0 E3.1) K4.1) (A3.keep K4) g_b3 (F3_documents.keep K4 nin0) (F3_mean.keep K4 nin0) (F3_squares.keep K4 nin0) y1_22.noNaN y2_22.noNaN y3_22.noNaN y4_22.noNaN y5_22.noNaN y6_22.noNaN) hZ (hw _ (List.mem_of_getElem? (i := 15) rfl)) (hw _ (List.mem_of_getElem? (i := 4) rfl)) (by decide) (by decide)) q22a q22c (g := (mkF m 124 #[.val (.int p0), .val (.int p1), .val (.int p2), .val (.double aa), .second, .val (.double bb), .second, .val (.int ((p2 &&& (2147483647 : Int32)) % (3 : Int32))), .val (.ref b3), .unset, .unset, .unset, .unset, .unset, .unset, .unset, .unset] [(.double aa), (.ref b3)])) rfl (by rw [hml]; rfl) (Steps.refl _) (argsL := [(.double aa)]) (rest := []) (lenOf pd_2 rfl) rfl (by show 2 * 0 + _ ≤ _; exact Nat.le_of_eq rfl) (hb hby at_124) (fun _ _ => ⟨rfl, rfl, (by decide : ((0 + 1) + 0) + 0 ≤ _), (by decide : ((0 + 3) + 0) + 0 ≤ _)⟩)
      dsimp only [Pt.U, Pt.locs, Pt.cells, Pt.slots] at X22 l22 y22 z22 st22 hQ22
      subst l22 y22 z22
      obtain ⟨rfl, N22q, K22, Xp22_0, Xp22_1, Xp22_2, Xp22_3⟩ := hQ22
      obtain ⟨lc22, X22, N22⟩ := own_pack X22 (Fr.app N4 N22q)
      obtain ⟨mn22, hmn22⟩ : ∃ z, z = (FP.dadd (0 : UInt64) (FP.ddiv (FP.dsub aa (0 : UInt64)) (FP.l2d ((0 : Int64) + (1 : Int64))))) := ⟨_, rfl⟩
      obtain ⟨sq22, hsq22⟩ : ∃ z, z = (FP.dadd (0 : UInt64) (FP.dmul (FP.dsub aa (0 : UInt64)) (FP.dsub aa (FP.dadd (0 : UInt64) (FP.ddiv (FP.dsub aa (0 : UInt64)) (FP.l2d ((0 : Int64) + (1 : Int64)))))))) := ⟨_, rfl⟩
      rw [← hsq22] at y6_22 Xp22_3
      rw [← hmn22] at y3_22 Xp22_2
      have Q23 := (Nat.le_trans (Nat.le_trans (Nat.le_trans Z0 E3.1) K4.1) K22.1)
      have Q24 := ((((Keep.refl h0 []).ext E3).trans K4 all0).trans K22 (allS (Or.inr sz_b3) all0))
      refine Go.step (g' := (mkF m 127 #[.val (.int p0), .val (.int p1), .val (.int p2), .val (.double aa), .second, .val (.double bb), .second, .val (.int ((p2 &&& (2147483647 : Int32)) % (3 : Int32))), .val (.ref b3), .unset, .unset, .unset, .unset, .unset, .unset, .unset, .unset] [])) (fun _ k => st22.trans k) ?_
      refine Go.step (g' := (mkF m 129 #[.val (.int p0), .val (.int p1), .val (.int p2), .val (.double aa), .second, .val (.double bb), .second, .val (.int ((p2 &&& (2147483647 : Int32)) % (3 : Int32))), .val (.ref b3), .unset, .unset, .unset, .unset, .unset, .unset, .unset, .unset] [(.ref b3)])) (fun _ k => XS.aload X22.here hx rfl (hb hby at_127) rfl rfl  k) ?_
      refine Go.step (g' := (mkF m 130 #[.val (.int p0), .val (.int p1), .val (.int p2), .val (.double aa), .second, .val (.double bb), .second, .val (.int ((p2 &&& (2147483647 : Int32)) % (3 : Int32))), .val (.ref b3), .unset, .unset, .unset, .unset, .unset, .unset, .unset, .unset] [(.double aa), (.ref b3)])) (fun _ k => XS.dloadN X22.here hx rfl (hb hby at_129) rfl k) ?_
      have y1_25 : Dy (FP.dsub aa mn22) (0) := DA.sub y3_22 (by omega) (by omega)
      have y2_25 : Dy (FP.ddiv (FP.dsub aa mn22) (FP.l2d (((0 : Int64) + (1 : Int64)) + (1 : Int64)))) (0) := y1_25.div 1 (by decide) (by decide +kernel) (by rw [show ((2 ^ 1 : Nat) : Int) = 2 from rfl]; omega) (by omega)
      have y3_25 : Dy (FP.dadd mn22 (FP.ddiv (FP.dsub aa mn22) (FP.l2d (((0 : Int64) + (1 : Int64)) + (1 : Int64))))) (1024 * I) := y3_22.add y2_25 (by omega) (by omega)
      have y4_25 : Dy (FP.dsub aa (FP.dadd mn22 (FP.ddiv (FP.dsub aa mn22) (FP.l2d (((0 : Int64) + (1 : Int64)) + (1 : Int64)))))) (0) := DA.sub y3_25 (by omega) (by omega)
      have y5_25 : Dy (FP.dmul (FP.dsub aa mn22) (FP.dsub aa (FP.dadd mn22 (FP.ddiv (FP.dsub aa mn22) (FP.l2d (((0 : Int64) + (1 : Int64)) + (1 : Int64))))))) (0) := y1_25.mul y4_25 (by simp) (by omega)
      have y6_25 : Dy (FP.dadd sq22 (FP.dmul (FP.dsub aa mn22) (FP.dsub aa (FP.dadd mn22 (FP.ddiv (FP.dsub aa mn22) (FP.l2d (((0 : Int64) + (1 : Int64)) + (1 : Int64)))))))) (0) := y6_22.add y5_25 (by omega) (by omega)
      obtain ⟨cq25, kq25, q25a, q25b, q25c⟩ := isOf hZ rfl Xp22_0
      obtain ⟨_, _, ⟨T25, L25, k25, n25⟩, -, X25, ⟨Lc25, hQ25, l25, y25, z25⟩, st25⟩ := X22.virtualBack hx (y := (⟨"com/example/laelaps/laelaps/testbed/ScoreMoments$Accumulator", "add", "(D)V"⟩ : MethodName)) (z := (⟨"com/example/laelaps/laelaps/testbed/ScoreMoments$Accumulator", "add", "(D)V"⟩ : MethodName)) hown (mvT hZ (hw _ (List.mem_of_getElem? (i := 11) rfl))) (mvT hZ (hw _ (List.mem_of_getElem? (i := 12) rfl))) (notFace_of_selects (args := #[]) (mvT hZ (hw _ (List.mem_of_getElem? (i := 14) rfl)))) (mvT hZ (hw _ (List.mem_of_getElem? (i := 14) rfl))) (mvT hZ (hw _ (List.mem_of_getElem? (i := 13) rfl))) (by decide) (backOf (W := 0) (rm3 l Z a0 hw [] b3 aa ((0 : Int64) + (1 : Int64)) mn22 sq22 T22.heap n0 Q23 Xp22_0 g_b3 Xp22_1 Xp22_2 Xp22_3 y1_25.noNaN y2_25.noNaN y3_25.noNaN y4_25.noNaN y5_25.noNaN y6_25.noNaN) hZ (hw _ (List.mem_of_getElem? (i := 15) rfl)) (hw _ (List.mem_of_getElem? (i := 4) rfl)) (by decide) (by decide)) q25a q25c (g := (mkF m 130 #[.val (.int p0), .val (.int p1), .val (.int p2), .val (.double aa), .second, .val (.double bb), .second, .val (.int ((p2 &&& (2147483647 : Int32)) % (3 : Int32))), .val (.ref b3), .unset, .unset, .unset, .unset, .unset, .unset, .unset, .unset] [(.double aa), (.ref b3)])) rfl (by rw [hml]; rfl) (Steps.refl _) (argsL := [(.double aa)]) (rest := []) (lenOf pd_2 rfl) rfl (by show 2 * 0 + _ ≤ _; exact Nat.le_of_eq rfl) (hb hby at_130) (fun _ _ => ⟨rfl, rfl, (by decide : (((0 + 1) + 0) + 0) + 0 ≤ _), (by decide : (((0 + 3) + 0) + 0) + 0 ≤ _)⟩)
      dsimp only [Pt.U, Pt.locs, Pt.cells, Pt.slots] at X25 l25 y25 z25 st25 hQ25
      subst l25 y25 z25
      obtain ⟨rfl, N25q, K25, Xp25_0, Xp25_1, Xp25_2, Xp25_3⟩ := hQ25
      obtain ⟨lc25, X25, N25⟩ := own_pack X25 (Fr.app N22 N25q)
      obtain ⟨mn25, hmn25⟩ : ∃ z, z = (FP.dadd mn22 (FP.ddiv (FP.dsub aa mn22) (FP.l2d (((0 : Int64) + (1 : Int64)) + (1 : Int64))))) := ⟨_, rfl⟩
      obtain ⟨sq25, hsq25⟩ : ∃ z, z = (FP.dadd sq22 (FP.dmul (FP.dsub aa mn22) (FP.dsub aa (FP.dadd mn22 (FP.ddiv (FP.dsub aa mn22) (FP.l2d (((0 : Int64) + (1 : Int64)) + (1 : Int64)))))))) := ⟨_, rfl⟩
      rw [← hsq25] at y6_25 Xp25_3
      rw [← hmn25] at y3_25 Xp25_2
      refine Go.step (g' := (mkF m 133 #[.val (.int p0), .val (.int p1), .val (.int p2), .val (.double aa), .second, .val (.double bb), .second, .val (.int ((p2 &&& (2147483647 : Int32)) % (3 : Int32))), .val (.ref b3), .unset, .unset, .unset, .unset, .unset, .unset, .unset, .unset] [])) (fun _ k => st25.trans k) ?_
      refine Go.step (g' := (mkF m 135 #[.val (.int p0), .val (.int p1), .val (.int p2), .val (.double aa), .second, .val (.double bb), .second, .val (.int ((p2 &&& (2147483647 : Int32)) % (3 : Int32))), .val (.ref b3), .unset, .unset, .unset, .unset, .unset, .unset, .unset, .unset] [(.ref b3)])) (fun _ k => XS.aload X25.here hx rfl (hb hby at_133) rfl rfl  k) ?_
      refine Go.step (g' := (mkF m 136 #[.val (.int p0), .val (.int p1), .val (.int p2), .val (.double aa), .second, .val (.double bb), .second, .val (.int ((p2 &&& (2147483647 : Int32)) % (3 : Int32))), .val (.ref b3), .unset, .unset, .unset, .unset, .unset, .unset, .unset, .unset] [(.double aa), (.ref b3)])) (fun _ k => XS.dloadN X25.here hx rfl (hb hby at_135) rfl k) ?_
      have y1_26 : Dy (FP.dsub aa mn25) (0) := DA.sub y3_25 (by omega) (by omega)
      have y2_26 : Dy (FP.ddiv (FP.dsub aa mn25) (FP.l2d ((((0 : Int64) + (1 : Int64)) + (1 : Int64)) + (1 : Int64)))) (0) := y1_26.div0 (t := false) (d := 6755399441055744) (r := -51) (by decide +kernel) (by decide)
      have y3_26 : Dy (FP.dadd mn25 (FP.ddiv (FP.dsub aa mn25) (FP.l2d ((((0 : Int64) + (1 : Int64)) + (1 : Int64)) + (1 : Int64))))) (1024 * I) := y3_25.add y2_26 (by omega) (by omega)
      have y4_26 : Dy (FP.dsub aa (FP.dadd mn25 (FP.ddiv (FP.dsub aa mn25) (FP.l2d ((((0 : Int64) + (1 : Int64)) + (1 : Int64)) + (1 : Int64)))))) (0) := DA.sub y3_26 (by omega) (by omega)
      have y5_26 : Dy (FP.dmul (FP.dsub aa mn25) (FP.dsub aa (FP.dadd mn25 (FP.ddiv (FP.dsub aa mn25) (FP.l2d ((((0 : Int64) + (1 : Int64)) + (1 : Int64)) + (1 : Int64))))))) (0) := y1_26.mul y4_26 (by simp) (by omega)
      have y6_26 : Dy (FP.dadd sq25 (FP.dmul (FP.dsub aa mn25) (FP.dsub aa (FP.dadd mn25 (FP.ddiv (FP.dsub aa mn25) (FP.l2d ((((0 : Int64) + (1 : Int64)) + (1 : Int64)) + (1 : Int64)))))))) (0) := y6_25.add y5_26 (by omega) (by omega)
      obtain ⟨cq26, kq26, q26a, q26b, q26c⟩ := isOf hZ rfl Xp25_0
      obtain ⟨_, _, ⟨T26, L26, k26, n26⟩, -, X26, ⟨Lc26, hQ26, l26, y26, z26⟩, st26⟩ := X25.virtualBack hx (y := (⟨"com/example/laelaps/laelaps/testbed/ScoreMoments$Accumulator", "add", "(D)V"⟩ : MethodName)) (z := (⟨"com/example/laelaps/laelaps/testbed/ScoreMoments$Accumulator", "add", "(D)V"⟩ : MethodName)) hown (mvT hZ (hw _ (List.mem_of_getElem? (i := 11) rfl))) (mvT hZ (hw _ (List.mem_of_getElem? (i := 12) rfl))) (notFace_of_selects (args := #[]) (mvT hZ (hw _ (List.mem_of_getElem? (i := 14) rfl)))) (mvT hZ (hw _ (List.mem_of_getElem? (i := 14) rfl))) (mvT hZ (hw _ (List.mem_of_getElem? (i := 13) rfl))) (by decide) (backOf (W := 0) (rm3 l Z a0 hw [] b3 aa (((0 : Int64) + (1 : Int64)) + (1 : Int64)) mn25 sq25 T25.heap n0 (Nat.le_trans Q23 K25.1) Xp25_0 g_b3 Xp25_1 Xp25_2 Xp25_3 y1_26.noNaN y2_26.noNaN y3_26.noNaN y4_26.noNaN y5_26.noNaN y6_26.noNaN) hZ (hw _ (List.mem_of_getElem? (i := 15) rfl)) (hw _ (List.mem_of_getElem? (i := 4) rfl)) (by decide) (by decide)) q26a q26c (g := (mkF m 136 #[.val (.int p0), .val (.int p1), .val (.int p2), .val (.double aa), .second, .val (.double bb), .second, .val (.int ((p2 &&& (2147483647 : Int32)) % (3 : Int32))), .val (.ref b3), .unset, .unset, .unset, .unset, .unset, .unset, .unset, .unset] [(.double aa), (.ref b3)])) rfl (by rw [hml]; rfl) (Steps.refl _) (argsL := [(.double aa)]) (rest := []) (lenOf pd_2 rfl) rfl (by show 2 * 0 + _ ≤ _; exact Nat.le_of_eq rfl) (hb hby at_136) (fun _ _ => ⟨rfl, rfl, (by decide : ((((0 + 1) + 0) + 0) + 0) + 0 ≤ _), (by decide : ((((0 + 3) + 0) + 0) + 0) + 0 ≤ _)⟩)
      dsimp only [Pt.U, Pt.locs, Pt.cells, Pt.slots] at X26 l26 y26 z26 st26 hQ26
      subst l26 y26 z26
      obtain ⟨rfl, N26q, K26, Xp26_0, Xp26_1, Xp26_2, Xp26_3⟩ := hQ26
      obtain ⟨lc26, X26, N26⟩ := own_pack X26 (Fr.app N25 N26q)
      obtain ⟨mn26, hmn26⟩ : ∃ z, z = (FP.dadd mn25 (FP.ddiv (FP.dsub aa mn25) (FP.l2d ((((0 : Int64) + (1 : Int64)) + (1 : Int64)) + (1 : Int64))))) := ⟨_, rfl⟩
      obtain ⟨sq26, hsq26⟩ : ∃ z, z = (FP.dadd sq25 (FP.dmul (FP.dsub aa mn25) (FP.dsub aa (FP.dadd mn25 (FP.ddiv (FP.dsub aa mn25) (FP.l2d ((((0 : Int64) + (1 : Int64)) + (1 : Int64)) + (1 : Int64)))))))) := ⟨_, rfl⟩
      rw [← hsq26] at y6_26 Xp26_3
      rw [← hmn26] at y3_26 Xp26_2
      have Q27 := ((Q24.trans K25 (allS (Or.inr sz_b3) all0)).trans K26 (allS (Or.inr sz_b3) all0))
      refine Go.step (g' := (mkF m 139 #[.val (.int p0), .val (.int p1), .val (.int p2), .val (.double aa), .second, .val (.double bb), .second, .val (.int ((p2 &&& (2147483647 : Int32)) % (3 : Int32))), .val (.ref b3), .unset, .unset, .unset, .unset, .unset, .unset, .unset, .unset] [])) (fun _ k => st26.trans k) ?_
      refine Go.step (g' := (mkF m 142 #[.val (.int p0), .val (.int p1), .val (.int p2), .val (.double aa), .second, .val (.double bb), .second, .val (.int ((p2 &&& (2147483647 : Int32)) % (3 : Int32))), .val (.ref b3), .unset, .unset, .unset, .unset, .unset, .unset, .unset, .unset] [(.long (3 : Int64))])) (fun _ k => X26.ldc2J hx hown (mvT hZ (hw _ (List.mem_of_getElem? (i := 22) rfl))) rfl (hb hby at_139) k) ?_
      refine Go.step (g' := (mkF m 144 #[.val (.int p0), .val (.int p1), .val (.int p2), .val (.double aa), .second, .val (.double bb), .second, .val (.int ((p2 &&& (2147483647 : Int32)) % (3 : Int32))), .val (.ref b3), .val (.long (3 : Int64)), .second, .unset, .unset, .unset, .unset, .unset, .unset] [])) (fun _ k => XS.lstore X26.here hx rfl (hb hby at_142) rfl (l' := #[.val (.int p0), .val (.int p1), .val (.int p2), .val (.double aa), .second, .val (.double bb), .second, .val (.int ((p2 &&& (2147483647 : Int32)) % (3 : Int32))), .val (.ref b3), .val (.long (3 : Int64)), .second, .unset, .unset, .unset, .unset, .unset, .unset]) rfl k) ?_
      refine Go.step (g' := (mkF m 145 #[.val (.int p0), .val (.int p1), .val (.int p2), .val (.double aa), .second, .val (.double bb), .second, .val (.int ((p2 &&& (2147483647 : Int32)) % (3 : Int32))), .val (.ref b3), .val (.long (3 : Int64)), .second, .unset, .unset, .unset, .unset, .unset, .unset] [(.double aa)])) (fun _ k => XS.dloadN X26.here hx rfl (hb hby at_144) rfl k) ?_
      refine Go.step (g' := (mkF m 147 #[.val (.int p0), .val (.int p1), .val (.int p2), .val (.double aa), .second, .val (.double bb), .second, .val (.int ((p2 &&& (2147483647 : Int32)) % (3 : Int32))), .val (.ref b3), .val (.long (3 : Int64)), .second, .val (.double aa), .second, .unset, .unset, .unset, .unset] [])) (fun _ k => XS.dstore X26.here hx rfl (hb hby at_145) rfl (l' := #[.val (.int p0), .val (.int p1), .val (.int p2), .val (.double aa), .second, .val (.double bb), .second, .val (.int ((p2 &&& (2147483647 : Int32)) % (3 : Int32))), .val (.ref b3), .val (.long (3 : Int64)), .second, .val (.double aa), .second, .unset, .unset, .unset, .unset]) rfl k) ?_
      refine Go.step (g' := (mkF m 148 #[.val (.int p0), .val (.int p1), .val (.int p2), .val (.double aa), .second, .val (.double bb), .second, .val (.int ((p2 &&& (2147483647 : Int32)) % (3 : Int32))), .val (.ref b3), .val (.long (3 : Int64)), .second, .val (.double aa), .second, .unset, .unset, .unset, .unset] [(.double (0 : UInt64))])) (fun _ k => XS.dconst0 X26.here hx rfl (hb hby at_147) (by decide +kernel) k) ?_
      refine Go.step (g' := (mkF m 150 #[.val (.int p0), .val (.int p1), .val (.int p2), .val (.double aa), .second, .val (.double bb), .second, .val (.int ((p2 &&& (2147483647 : Int32)) % (3 : Int32))), .val (.ref b3), .val (.long (3 : Int64)), .second, .val (.double aa), .second, .val (.double (0 : UInt64)), .second, .unset, .unset] [])) (fun _ k => XS.dstore X26.here hx rfl (hb hby at_148) rfl (l' := #[.val (.int p0), .val (.int p1), .val (.int p2), .val (.double aa), .second, .val (.double bb), .second, .val (.int ((p2 &&& (2147483647 : Int32)) % (3 : Int32))), .val (.ref b3), .val (.long (3 : Int64)), .second, .val (.double aa), .second, .val (.double (0 : UInt64)), .second, .unset, .unset]) rfl k) ?_
      rw [show f0_121 = f0_150d148 from rfl]
      refine Go.step (g' := (mkF m 152 #[.val (.int p0), .val (.int p1), .val (.int p2), .val (.double aa), .second, .val (.double bb), .second, .val (.int ((p2 &&& (2147483647 : Int32)) % (3 : Int32))), .val (.ref b3), .val (.long (3 : Int64)), .second, .val (.double aa), .second, .val (.double (0 : UInt64)), .second, .unset, .unset] [(.ref b3)])) (fun _ k => XS.aload X26.here hx rfl (hb hby at_150) rfl rfl  k) ?_
      have yv3 : Dy (FP.ddiv sq26 (FP.l2d ((((0 : Int64) + (1 : Int64)) + (1 : Int64)) + (1 : Int64)))) 0 := y6_26.div0 (t := false) (d := 6755399441055744) (r := -51) (by decide +kernel) (by decide)
      obtain ⟨cq28, kq28, q28a, q28b, q28c⟩ := isOf hZ rfl Xp26_0
      obtain ⟨_, _, ⟨T28, L28, k28, n28⟩, -, X28, ⟨Lc28, hQ28, l28, y28, z28⟩, st28⟩ := X26.virtualBack hx (y := (⟨"com/example/laelaps/laelaps/testbed/ScoreMoments$Accumulator", "moments", "()Lcom/example/laelaps/laelaps/testbed/ScoreMoments;"⟩ : MethodName)) (z := (⟨"com/example/laelaps/laelaps/testbed/ScoreMoments$Accumulator", "moments", "()Lcom/example/laelaps/laelaps/testbed/ScoreMoments;"⟩ : MethodName)) hown (mvT hZ (hw _ (List.mem_of_getElem? (i := 23) rfl))) (mvT hZ (hw _ (List.mem_of_getElem? (i := 24) rfl))) (notFace_of_selects (args := #[]) (mvT hZ (hw _ (List.mem_of_getElem? (i := 26) rfl)))) (mvT hZ (hw _ (List.mem_of_getElem? (i := 26) rfl))) (mvT hZ (hw _ (List.mem_of_getElem? (i := 25) rfl))) (by decide) (backOf (W := 0) (rm4 l Z a0 hw [] b3 ((((0 : Int64) + (1 : Int64)) + (1 : Int64)) + (1 : Int64)) mn26 sq26 T26.heap n0 (Nat.le_trans (Nat.le_trans Q23 K25.1) K26.1) Xp26_1 Xp26_2 Xp26_3 yv3.noNaN (by decide) (own_c13 y3_26 (by omega)) (own_c19 y3_26 (by omega)) (own_c26 yv3 (by omega)) (own_c35 yv3)) hZ (hw _ (List.mem_of_getElem? (i := 27) rfl)) (hw _ (List.mem_of_getElem? (i := 4) rfl)) (by decide) (by decide)) q28a q28c (g := (mkF m 152 #[.val (.int p0), .val (.int p1), .val (.int p2), .val (.double aa), .second, .val (.double bb), .second, .val (.int ((p2 &&& (2147483647 : Int32)) % (3 : Int32))), .val (.ref b3), .val (.long (3 : Int64)), .second, .val (.double aa), .second, .val (.double (0 : UInt64)), .second, .unset, .unset] [(.ref b3)])) rfl (by rw [hml]; rfl) (Steps.refl _) (argsL := []) (rest := []) (lenOf pd_3 rfl) rfl (by show 2 * 0 + _ ≤ _; exact Nat.le_of_eq rfl) (hb hby at_152) (fun _ _ => ⟨rfl, rfl, (by decide : (((((0 + 1) + 0) + 0) + 0) + 0) + 1 ≤ _), (by decide : (((((0 + 3) + 0) + 0) + 0) + 0) + 3 ≤ _)⟩)
      dsimp only [Pt.U, Pt.locs, Pt.cells, Pt.slots] at X28 l28 y28 z28 st28 hQ28
      subst l28 y28 z28
      obtain ⟨c28, rfl, N28q, K28, sc28, Ei28, Fd28, Fm28, Fv28⟩ := hQ28
      obtain ⟨lc28, X28, N28⟩ := own_pack X28 (Fr.app N26 N28q)
      have ne_b3_c28 : b3 ≠ c28 := Nat.ne_of_lt (Nat.lt_of_lt_of_le Xp26_0.lt sc28)
      have g_c28 : n0 ≤ c28 := Nat.le_trans (Nat.le_trans (Nat.le_trans Q23 K25.1) K26.1) sc28
      have sz_c28 : h0.size ≤ c28 := Nat.le_trans Q27.1 sc28
      have Q29 := (Nat.le_trans (Nat.le_trans (Nat.le_trans Q23 K25.1) K26.1) K28.1)
      refine Go.step (g' := (mkF m 155 #[.val (.int p0), .val (.int p1), .val (.int p2), .val (.double aa), .second, .val (.double bb), .second, .val (.int ((p2 &&& (2147483647 : Int32)) % (3 : Int32))), .val (.ref b3), .val (.long (3 : Int64)), .second, .val (.double aa), .second, .val (.double (0 : UInt64)), .second, .unset, .unset] [(.ref c28)])) (fun _ k => st28.trans k) ?_
      refine Go.step (g' := (mkF m 157 #[.val (.int p0), .val (.int p1), .val (.int p2), .val (.double aa), .second, .val (.double bb), .second, .val (.int ((p2 &&& (2147483647 : Int32)) % (3 : Int32))), .val (.ref b3), .val (.long (3 : Int64)), .second, .val (.double aa), .second, .val (.double (0 : UInt64)), .second, .val (.ref c28), .unset] [])) (fun _ k => XS.astore X28.here hx rfl (hb hby at_155) rfl rfl (l' := #[.val (.int p0), .val (.int p1), .val (.int p2), .val (.double aa), .second, .val (.double bb), .second, .val (.int ((p2 &&& (2147483647 : Int32)) % (3 : Int32))), .val (.ref b3), .val (.long (3 : Int64)), .second, .val (.double aa), .second, .val (.double (0 : UInt64)), .second, .val (.ref c28), .unset]) rfl k) ?_
      refine Go.step (g' := (mkF m 159 #[.val (.int p0), .val (.int p1), .val (.int p2), .val (.double aa), .second, .val (.double bb), .second, .val (.int ((p2 &&& (2147483647 : Int32)) % (3 : Int32))), .val (.ref b3), .val (.long (3 : Int64)), .second, .val (.double aa), .second, .val (.double (0 : UInt64)), .second, .val (.ref c28), .unset] [(.ref c28)])) (fun _ k => XS.aload X28.here hx rfl (hb hby at_157) rfl rfl  k) ?_
      obtain ⟨cq30, kq30, q30a, q30b, q30c⟩ := isOf hZ rfl Ei28
      obtain ⟨_, _, ⟨T30, L30, k30, n30⟩, -, X30, ⟨Lc30, hQ30, l30, y30, z30⟩, st30⟩ := X28.virtualBack hx (y := (⟨"com/example/laelaps/laelaps/testbed/ScoreMoments", "documents", "()J"⟩ : MethodName)) (z := (⟨"com/example/laelaps/laelaps/testbed/ScoreMoments", "documents", "()J"⟩ : MethodName)) hown (mvT hZ (hw _ (List.mem_of_getElem? (i := 42) rfl))) (mvT hZ (hw _ (List.mem_of_getElem? (i := 43) rfl))) (notFace_of_selects (args := #[]) (mvT hZ (hw _ (List.mem_of_getElem? (i := 45) rfl)))) (mvT hZ (hw _ (List.mem_of_getElem? (i := 45) rfl))) (mvT hZ (hw _ (List.mem_of_getElem? (i := 44) rfl))) (by decide) (backOf (W := 0) (rm6 l Z a0 hw [] c28 ((((0 : Int64) + (1 : Int64)) + (1 : Int64)) + (1 : Int64)) T28.heap Fd28) hZ (hw _ (List.mem_of_getElem? (i := 46) rfl)) (hw _ (List.mem_of_getElem? (i := 30) rfl)) (by decide) (by decide)) q30a q30c (g := (mkF m 159 #[.val (.int p0), .val (.int p1), .val (.int p2), .val (.double aa), .second, .val (.double bb), .second, .val (.int ((p2 &&& (2147483647 : Int32)) % (3 : Int32))), .val (.ref b3), .val (.long (3 : Int64)), .second, .val (.double aa), .second, .val (.double (0 : UInt64)), .second, .val (.ref c28), .unset] [(.ref c28)])) rfl (by rw [hml]; rfl) (Steps.refl _) (argsL := []) (rest := []) (lenOf pd_4 rfl) rfl (by show 2 * 0 + _ ≤ _; exact Nat.le_of_eq rfl) (hb hby at_159) (fun _ _ => ⟨rfl, rfl, (by decide : ((((((0 + 1) + 0) + 0) + 0) + 0) + 1) + 0 ≤ _), (by decide : ((((((0 + 3) + 0) + 0) + 0) + 0) + 3) + 0 ≤ _)⟩)
      dsimp only [Pt.U, Pt.locs, Pt.cells, Pt.slots] at X30 l30 y30 z30 st30 hQ30
      subst l30 y30 z30
      obtain ⟨rfl, rfl, e30⟩ := hQ30
      try rw [List.append_nil] at X30
      refine Go.step (g' := (mkF m 162 #[.val (.int p0), .val (.int p1), .val (.int p2), .val (.double aa), .second, .val (.double bb), .second, .val (.int ((p2 &&& (2147483647 : Int32)) % (3 : Int32))), .val (.ref b3), .val (.long (3 : Int64)), .second, .val (.double aa), .second, .val (.double (0 : UInt64)), .second, .val (.ref c28), .unset] [(.long ((((0 : Int64) + (1 : Int64)) + (1 : Int64)) + (1 : Int64)))])) (fun _ k => st30.trans k) ?_
      refine Go.step (g' := (mkF m 164 #[.val (.int p0), .val (.int p1), .val (.int p2), .val (.double aa), .second, .val (.double bb), .second, .val (.int ((p2 &&& (2147483647 : Int32)) % (3 : Int32))), .val (.ref b3), .val (.long (3 : Int64)), .second, .val (.double aa), .second, .val (.double (0 : UInt64)), .second, .val (.ref c28), .unset] [(.long (3 : Int64)), (.long ((((0 : Int64) + (1 : Int64)) + (1 : Int64)) + (1 : Int64)))])) (fun _ k => XS.lload X30.here hx rfl (hb hby at_162) rfl  k) ?_
      refine Go.step (g' := (mkF m 165 #[.val (.int p0), .val (.int p1), .val (.int p2), .val (.double aa), .second, .val (.double bb), .second, .val (.int ((p2 &&& (2147483647 : Int32)) % (3 : Int32))), .val (.ref b3), .val (.long (3 : Int64)), .second, .val (.double aa), .second, .val (.double (0 : UInt64)), .second, .val (.ref c28), .unset] [(.int (lcmpW ((((0 : Int64) + (1 : Int64)) + (1 : Int64)) + (1 : Int64)) (3 : Int64)))])) (fun _ k => XS.lcmp X30.here hx rfl (hb hby at_164) rfl k) ?_
      refine Go.step (g' := (mkF m 168 #[.val (.int p0), .val (.int p1), .val (.int p2), .val (.double aa), .second, .val (.double bb), .second, .val (.int ((p2 &&& (2147483647 : Int32)) % (3 : Int32))), .val (.ref b3), .val (.long (3 : Int64)), .second, .val (.double aa), .second, .val (.double (0 : UInt64)), .second, .val (.ref c28), .unset] [])) (fun _ k => XS.ifNo X30.here hx rfl (hb hby at_165) rfl ((if0 _ _).trans (teq (by decide : (lcmpW ((((0 : Int64) + (1 : Int64)) + (1 : Int64)) + (1 : Int64)) (3 : Int64)) = (0 : Int32))).2) k) ?_
      rw [show f0_150d148 = f0_168d148 from rfl]
      refine Go.step (g' := (mkF m 170 #[.val (.int p0), .val (.int p1), .val (.int p2), .val (.double aa), .second, .val (.double bb), .second, .val (.int ((p2 &&& (2147483647 : Int32)) % (3 : Int32))), .val (.ref b3), .val (.long (3 : Int64)), .second, .val (.double aa), .second, .val (.double (0 : UInt64)), .second, .val (.ref c28), .unset] [(.ref c28)])) (fun _ k => XS.aload X30.here hx rfl (hb hby at_168) rfl rfl  k) ?_
      obtain ⟨cq31, kq31, q31a, q31b, q31c⟩ := isOf hZ e30 Ei28
      obtain ⟨_, _, ⟨T31, L31, k31, n31⟩, -, X31, ⟨Lc31, hQ31, l31, y31, z31⟩, st31⟩ := X30.virtualBack hx (y := (⟨"com/example/laelaps/laelaps/testbed/ScoreMoments", "mean", "()D"⟩ : MethodName)) (z := (⟨"com/example/laelaps/laelaps/testbed/ScoreMoments", "mean", "()D"⟩ : MethodName)) hown (mvT hZ (hw _ (List.mem_of_getElem? (i := 47) rfl))) (mvT hZ (hw _ (List.mem_of_getElem? (i := 48) rfl))) (notFace_of_selects (args := #[]) (mvT hZ (hw _ (List.mem_of_getElem? (i := 50) rfl)))) (mvT hZ (hw _ (List.mem_of_getElem? (i := 50) rfl))) (mvT hZ (hw _ (List.mem_of_getElem? (i := 49) rfl))) (by decide) (backOf (W := 0) (rm7 l Z a0 hw [] c28 mn26 T28.heap Fm28) hZ (hw _ (List.mem_of_getElem? (i := 51) rfl)) (hw _ (List.mem_of_getElem? (i := 30) rfl)) (by decide) (by decide)) q31a q31c (g := (mkF m 170 #[.val (.int p0), .val (.int p1), .val (.int p2), .val (.double aa), .second, .val (.double bb), .second, .val (.int ((p2 &&& (2147483647 : Int32)) % (3 : Int32))), .val (.ref b3), .val (.long (3 : Int64)), .second, .val (.double aa), .second, .val (.double (0 : UInt64)), .second, .val (.ref c28), .unset] [(.ref c28)])) rfl (by rw [hml]; rfl) (Steps.refl _) (argsL := []) (rest := []) (lenOf pd_5 rfl) rfl (by show 2 * 0 + _ ≤ _; exact Nat.le_of_eq rfl) (hb hby at_170) (fun _ _ => ⟨rfl, e30, (by decide : ((((((0 + 1) + 0) + 0) + 0) + 0) + 1) + 0 ≤ _), (by decide : ((((((0 + 3) + 0) + 0) + 0) + 0) + 3) + 0 ≤ _)⟩)
      dsimp only [Pt.U, Pt.locs, Pt.cells, Pt.slots] at X31 l31 y31 z31 st31 hQ31
      subst l31 y31 z31
      obtain ⟨rfl, rfl, e31⟩ := hQ31
      try rw [List.append_nil] at X31
      refine Go.step (g' := (mkF m 173 #[.val (.int p0), .val (.int p1), .val (.int p2), .val (.double aa), .second, .val (.double bb), .second, .val (.int ((p2 &&& (2147483647 : Int32)) % (3 : Int32))), .val (.ref b3), .val (.long (3 : Int64)), .second, .val (.double aa), .second, .val (.double (0 : UInt64)), .second, .val (.ref c28), .unset] [(.double mn26)])) (fun _ k => st31.trans k) ?_
      refine Go.step (g' := (mkF m 175 #[.val (.int p0), .val (.int p1), .val (.int p2), .val (.double aa), .second, .val (.double bb), .second, .val (.int ((p2 &&& (2147483647 : Int32)) % (3 : Int32))), .val (.ref b3), .val (.long (3 : Int64)), .second, .val (.double aa), .second, .val (.double (0 : UInt64)), .second, .val (.ref c28), .unset] [(.double aa), (.double mn26)])) (fun _ k => XS.dload X31.here hx rfl (hb hby at_173) rfl k) ?_
      refine Go.step (g' := (mkF m 176 #[.val (.int p0), .val (.int p1), .val (.int p2), .val (.double aa), .second, .val (.double bb), .second, .val (.int ((p2 &&& (2147483647 : Int32)) % (3 : Int32))), .val (.ref b3), .val (.long (3 : Int64)), .second, .val (.double aa), .second, .val (.double (0 : UInt64)), .second, .val (.ref c28), .unset] [(.int (cmpValue (FP.dcmp mn26 aa) .l))])) (fun _ k => XS.dcmpS X31.here hx rfl (hb hby at_175) rfl rfl k) ?_
      refine Go.step (g' := (mkF m 179 #[.val (.int p0), .val (.int p1), .val (.int p2), .val (.double aa), .second, .val (.double bb), .second, .val (.int ((p2 &&& (2147483647 : Int32)) % (3 : Int32))), .val (.ref b3), .val (.long (3 : Int64)), .second, .val (.double aa), .second, .val (.double (0 : UInt64)), .second, .val (.ref c28), .unset] [])) (fun _ k => XS.ifNo X31.here hx rfl (hb hby at_176) rfl ((if0 _ _).trans (teq (y3_26.eq0 DA .l : (cmpValue (FP.dcmp mn26 aa) .l) = (0 : Int32))).2) k) ?_
      rw [show f0_168d148 = f0_179d148 from rfl]
      refine Go.step (g' := (mkF m 181 #[.val (.int p0), .val (.int p1), .val (.int p2), .val (.double aa), .second, .val (.double bb), .second, .val (.int ((p2 &&& (2147483647 : Int32)) % (3 : Int32))), .val (.ref b3), .val (.long (3 : Int64)), .second, .val (.double aa), .second, .val (.double (0 : UInt64)), .second, .val (.ref c28), .unset] [(.ref c28)])) (fun _ k => XS.aload X31.here hx rfl (hb hby at_179) rfl rfl  k) ?_
      obtain ⟨cq32, kq32, q32a, q32b, q32c⟩ := isOf hZ e31 Ei28
      obtain ⟨_, _, ⟨T32, L32, k32, n32⟩, -, X32, ⟨Lc32, hQ32, l32, y32, z32⟩, st32⟩ := X31.virtualBack hx (y := (⟨"com/example/laelaps/laelaps/testbed/ScoreMoments", "variance", "()D"⟩ : MethodName)) (z := (⟨"com/example/laelaps/laelaps/testbed/ScoreMoments", "variance", "()D"⟩ : MethodName)) hown (mvT hZ (hw _ (List.mem_of_getElem? (i := 52) rfl))) (mvT hZ (hw _ (List.mem_of_getElem? (i := 53) rfl))) (notFace_of_selects (args := #[]) (mvT hZ (hw _ (List.mem_of_getElem? (i := 55) rfl)))) (mvT hZ (hw _ (List.mem_of_getElem? (i := 55) rfl))) (mvT hZ (hw _ (List.mem_of_getElem? (i := 54) rfl))) (by decide) (backOf (W := 0) (rm8 l Z a0 hw [] c28 (FP.ddiv sq26 (FP.l2d ((((0 : Int64) + (1 : Int64)) + (1 : Int64)) + (1 : Int64)))) T28.heap Fv28) hZ (hw _ (List.mem_of_getElem? (i := 56) rfl)) (hw _ (List.mem_of_getElem? (i := 30) rfl)) (by decide) (by decide)) q32a q32c (g := (mkF m 181 #[.val (.int p0), .val (.int p1), .val (.int p2), .val (.double aa), .second, .val (.double bb), .second, .val (.int ((p2 &&& (2147483647 : Int32)) % (3 : Int32))), .val (.ref b3), .val (.long (3 : Int64)), .second, .val (.double aa), .second, .val (.double (0 : UInt64)), .second, .val (.ref c28), .unset] [(.ref c28)])) rfl (by rw [hml]; rfl) (Steps.refl _) (argsL := []) (rest := []) (lenOf pd_5 rfl) rfl (by show 2 * 0 + _ ≤ _; exact Nat.le_of_eq rfl) (hb hby at_181) (fun _ _ => ⟨rfl, e31, (by decide : ((((((0 + 1) + 0) + 0) + 0) + 0) + 1) + 0 ≤ _), (by decide : ((((((0 + 3) + 0) + 0) + 0) + 0) + 3) + 0 ≤ _)⟩)
      dsimp only [Pt.U, Pt.locs, Pt.cells, Pt.slots] at X32 l32 y32 z32 st32 hQ32
      subst l32 y32 z32
      obtain ⟨rfl, rfl, e32⟩ := hQ32
      try rw [List.append_nil] at X32
      refine Go.step (g' := (mkF m 184 #[.val (.int p0), .val (.int p1), .val (.int p2), .val (.double aa), .second, .val (.double bb), .second, .val (.int ((p2 &&& (2147483647 : Int32)) % (3 : Int32))), .val (.ref b3), .val (.long (3 : Int64)), .second, .val (.double aa), .second, .val (.double (0 : UInt64)), .second, .val (.ref c28), .unset] [(.double (FP.ddiv sq26 (FP.l2d ((((0 : Int64) + (1 : Int64)) + (1 : Int64)) + (1 : Int64)))))])) (fun _ k => st32.trans k) ?_
      refine Go.step (g' := (mkF m 186 #[.val (.int p0), .val (.int p1), .val (.int p2), .val (.double aa), .second, .val (.double bb), .second, .val (.int ((p2 &&& (2147483647 : Int32)) % (3 : Int32))), .val (.ref b3), .val (.long (3 : Int64)), .second, .val (.double aa), .second, .val (.double (0 : UInt64)), .second, .val (.ref c28), .unset] [(.double (0 : UInt64)), (.double (FP.ddiv sq26 (FP.l2d ((((0 : Int64) + (1 : Int64)) + (1 : Int64)) + (1 : Int64)))))])) (fun _ k => XS.dload X32.here hx rfl (hb hby at_184) rfl k) ?_
      refine Go.step (g' := (mkF m 187 #[.val (.int p0), .val (.int p1), .val (.int p2), .val (.double aa), .second, .val (.double bb), .second, .val (.int ((p2 &&& (2147483647 : Int32)) % (3 : Int32))), .val (.ref b3), .val (.long (3 : Int64)), .second, .val (.double aa), .second, .val (.double (0 : UInt64)), .second, .val (.ref c28), .unset] [(.int (cmpValue (FP.dcmp (FP.ddiv sq26 (FP.l2d ((((0 : Int64) + (1 : Int64)) + (1 : Int64)) + (1 : Int64)))) (0 : UInt64)) .l))])) (fun _ k => XS.dcmpS X32.here hx rfl (hb hby at_186) rfl rfl k) ?_
      refine Go.step (g' := (mkF m 190 #[.val (.int p0), .val (.int p1), .val (.int p2), .val (.double aa), .second, .val (.double bb), .second, .val (.int ((p2 &&& (2147483647 : Int32)) % (3 : Int32))), .val (.ref b3), .val (.long (3 : Int64)), .second, .val (.double aa), .second, .val (.double (0 : UInt64)), .second, .val (.ref c28), .unset] [])) (fun _ k => XS.ifNo X32.here hx rfl (hb hby at_187) rfl ((if0 _ _).trans (teq (yv3.eq0 own_d0 .l : (cmpValue (FP.dcmp (FP.ddiv sq26 (FP.l2d ((((0 : Int64) + (1 : Int64)) + (1 : Int64)) + (1 : Int64)))) (0 : UInt64)) .l) = (0 : Int32))).2) k) ?_
      rw [show f0_179d148 = f0_190d148 from rfl]
      refine Go.step (g' := (mkF m 191 #[.val (.int p0), .val (.int p1), .val (.int p2), .val (.double aa), .second, .val (.double bb), .second, .val (.int ((p2 &&& (2147483647 : Int32)) % (3 : Int32))), .val (.ref b3), .val (.long (3 : Int64)), .second, .val (.double aa), .second, .val (.double (0 : UInt64)), .second, .val (.ref c28), .unset] [(.int (1 : Int32))])) (fun _ k => XS.iconst X32.here hx rfl (hb hby at_190) k) ?_
      refine Go.step (g' := (mkF m 195 #[.val (.int p0), .val (.int p1), .val (.int p2), .val (.double aa), .second, .val (.double bb), .second, .val (.int ((p2 &&& (2147483647 : Int32)) % (3 : Int32))), .val (.ref b3), .val (.long (3 : Int64)), .second, .val (.double aa), .second, .val (.double (0 : UInt64)), .second, .val (.ref c28), .unset] [(.int (1 : Int32))])) (fun _ k => XS.goto X32.here hx rfl (pc0 := 191) (pc' := 195) rfl (hb hby at_191) (by decide) (by decide) k) ?_
      rw [show f0_190d148 = f0_195d148 from rfl]
      exact Go.retN X32 hx hlk (t := .boolean) Bd.returns (by simp) (hb hby at_195) (by decide) (by decide) ⟨rfl, N28⟩
set_option maxRecDepth 65536 in
set_option maxHeartbeats 40000000 in
theorem comes_1 {Post : Tables → Env → Array Value → State → Outcome → State → Prop} (hpost : ∀ tb e args s v u, (limb_1_1.after args s (.returned v) u = true ∧ limb_1_2.after args s (.returned v) u = true) → FrameEnd s (.returned v) u (Jvm.fieldLocs frame_1_writes args s ++ Jvm.arrayLocs frame_1_arrays args s ++ Jvm.staticLocs frame_1_statics s) 16 128 → Post tb e args s (.returned v) u) :
    ArmFor flags0 classFile x code maxLocals ret World_1 tables_1 room_1 Calls_1 rest_1 Pre_1 Post := by
  intro l hfl _ _ p e ha hc hk s m args below hf hA hF happ hP
  obtain ⟨hcalls, hrest, hpre⟩ := hP
  obtain ⟨-, -, -, hnamed, -, -, -, hat⟩ := (Spec.applies_iff hf).mp happ
  obtain ⟨hg, hn⟩ := and_e (Cond.before_iff.mp (show (Jvm.Cond.and given_1 narrow_1).before args s = true from hpre))
  obtain ⟨gc, hg⟩ := and_e hg
  obtain ⟨g0, hg⟩ := and_e hg
  obtain ⟨g1, hg⟩ := and_e hg
  have g2 := hg
  obtain ⟨w0, w1, w2, rfl⟩ : ∃ w0 w1 w2 : Value, args = #[w0, w1, w2] := by
    have hs : args.size = 3 := by simpa [Cond.value, given_1] using gc
    obtain ⟨L⟩ := args
    match L, hs with
    | [w0, w1, w2], _ => exact ⟨w0, w1, w2, rfl⟩
  have hw := fun d (hd : d ∈ tables_1) => atoms_spec (ws := Jvm.Cond.code x code maxLocals ret :: tables_1) hat d (List.mem_cons_of_mem _ hd)
  have hfit : Fit s := fun {y c} hc i hi => by
    obtain ⟨ha, rfl⟩ := Array.getElem?_eq_some_iff.mp hc
    have q := List.all_eq_true.mp ((Array.all_eq_true_iff_forall_mem.mp hF) _ (Array.getElem_mem ha)) i (List.mem_range.mpr hi)
    simpa [Array.getElem?_eq_getElem hi] using q
  obtain ⟨i0, ei0⟩ := is_v g0
  obtain rfl : w0 = (.int i0) := Option.some.inj ei0
  obtain ⟨i1, ei1⟩ := is_v g1
  obtain rfl : w1 = (.int i1) := Option.some.inj ei1
  obtain ⟨i2, ei2⟩ := is_v g2
  obtain rfl : w2 = (.int i2) := Option.some.inj ei2
  obtain ⟨n, o, h1, h2, h3, v, L, rfl, hQ, hq⟩ := rm0 l s _ hw tables_1 i0 i1 i2  s.heap s.heap.size (Nat.le_refl _)  p e ha hc hk s m _ below hf ((Spec.applies_iff_loose hf).mp happ).1 ⟨rfl, State.Warmed39.refl s, rfl⟩ trivial
  obtain ⟨rfl, N⟩ := hQ
  rw [law_eq] at *
  refine ⟨n, _, h1, h2, h3, hpost _ _ _ _ _ _ ⟨Cond.after_iff.mpr rfl, Cond.after_iff.mpr (eq_i res_at (Term.int_eval (1)) rfl)⟩ ⟨hq.1, hq.2.1, (hq.2.2.sift fun y hy => Or.inr (N y hy)).mono (by decide) (by decide)⟩⟩
theorem main_1_1 : Claimed_1_1 := comes_1 fun _ _ _ _ _ _ h hF => ⟨h.1, hF⟩
theorem main_1_2 : Claimed_1_2 := comes_1 fun _ _ _ _ _ _ h hF => ⟨h.2, hF⟩
end Jvm.Pilot.@@N@@
namespace Jvm.Pilot.@@N@@
open Jvm Jvm.ClassFile Sem Op Lib Jvm.Free Jvm.Stand Jvm.Pilot.@@N@@.Jvm.D
/-! MADE BY PROGRAM (witnessworld.py) out of the Statement's table words and the real class files: 10 classes; the members and pool entries that the words name. The judged class is class 1, her method 1. -/
namespace start1
open Jvm.ClassFile
def u (s : String) : CpInfo := .utf8 (stringToUtf16 s)
/-- a pool by its gaps: so many unusable entries, then the entry; so many at the end -/
def gap : Nat → List CpInfo → List CpInfo
  | 0, r => r
  | n + 1, r => .unusable :: gap n r
def poolList (es : List (Nat × CpInfo)) (last : Nat) : List CpInfo := es.foldr (fun e r => gap e.1 (e.2 :: r)) (gap last [])
def pool (es : List (Nat × CpInfo)) (last : Nat) : Array CpInfo := ⟨poolList es last⟩
def fileOf (pool : Array CpInfo) (this : Nat) (attrs : Array Attribute := #[]) (ms : Array MethodInfo := #[]) (fl : Nat := 33) (sup : Nat := 0) (ifs : Array Nat := #[]) (fds : Array FieldInfo := #[]) : ClassFile where
  minorVersion := 0
  majorVersion := 65
  constantPool := pool
  accessFlags := fl
  thisClass := this
  superClass := sup
  interfaces := ifs
  fields := fds
  methods := ms
  attributes := attrs
def plain (name : String) (sup : Option ClassId) : Class where
  name := name
  kind := .ordinary
  loader := none
  accessFlags := 33
  super := sup
  interfaces := #[]
  cf := none
  fields := #[]
  methods := #[]
  instanceTypes := #[]
  staticTypes := #[]
  resolved := #[]
  callSites := []
  init := .initialized
  statics := none
  mirror := none

def pool0 : Array CpInfo := pool [(5, u "<init>"), (0, u "()V"), (1, .class_ 10), (1, u "java/lang/Object")] 113

def k0c0 : Code := { maxStack := 0, maxLocals := 1, code := object_method_1_code, exceptionTable := #[], attributes := #[] }
def k0m0 : Method := { name := "<init>", desc := "()V", sig := { parameters := [], returnType := none }, accessFlags := 1, code := some k0c0 }
/-- java/lang/Object -/
def k0 : Class := { plain "java/lang/Object" none with
  accessFlags := 33
  interfaces := #[]
  cf := some (fileOf pool0 8 #[] #[{ accessFlags := 1, nameIndex := 5, descriptorIndex := 6, attributes := #[] }] 33 0 #[] #[])
  fields := #[]
  methods := #[k0m0]
  instanceTypes := #[]
  staticTypes := #[]
  resolved := Array.replicate 124 none
  statics := none }

def pool1 : Array CpInfo := pool [(2, .class_ 4), (0, .nameAndType 5 6), (0, u "java/lang/Object"), (0, u "<init>"), (0, u "()V"), (0, .double 4643211215818981376), (1, .integer 2147483647), (0, .class_ 11), (0, u "com/example/laelaps/laelaps/testbed/ScoreMoments$Accumulator"), (0, .methodref 10 3), (0, .methodref 10 14), (0, .nameAndType 15 16), (0, u "add"), (0, u "(D)V"), (0, .long 2), (1, .double 4611686018427387904), (1, .long 3), (1, .methodref 10 24), (0, .nameAndType 25 26), (0, u "moments"), (0, u "()Lcom/example/laelaps/laelaps/testbed/ScoreMoments;"), (0, .methodref 28 29), (0, .class_ 30), (0, .nameAndType 31 32), (0, u "com/example/laelaps/laelaps/testbed/ScoreMoments"), (0, u "documents"), (0, u "()J"), (0, .methodref 28 34), (0, .nameAndType 35 36), (0, u "mean"), (0, u "()D"), (0, .methodref 28 38), (0, .nameAndType 39 36), (0, u "variance"), (0, .class_ 41), (0, u "com/example/laelaps/laelaps/testbed/AccumulatorAddPinLaw"), (2, u "law"), (0, u "(III)Z")] 5

def k1m0 : Method := { name := "<init>", desc := "()V", sig := { parameters := [], returnType := none }, accessFlags := 1, code := none }
def k1c1 : Code := { maxStack := 4, maxLocals := 17, code := code, exceptionTable := #[], attributes := #[] }
def k1m1 : Method := { name := "law", desc := "(III)Z", sig := { parameters := [.int, .int, .int], returnType := some .boolean }, accessFlags := 9, code := some k1c1 }
/-- com/example/laelaps/laelaps/testbed/AccumulatorAddPinLaw -/
def k1 : Class := { plain "com/example/laelaps/laelaps/testbed/AccumulatorAddPinLaw" (some 0) with
  accessFlags := 49
  interfaces := #[]
  cf := some (fileOf pool1 40 #[] #[{ accessFlags := 1, nameIndex := 5, descriptorIndex := 6, attributes := #[] }, { accessFlags := 9, nameIndex := 44, descriptorIndex := 45, attributes := #[] }] 49 2 #[] #[])
  fields := #[]
  methods := #[k1m0, k1m1]
  instanceTypes := #[]
  staticTypes := #[]
  resolved := Array.replicate 51 none
  statics := none }

def pool2 : Array CpInfo := pool [(1, .methodref 2 3), (0, .class_ 4), (0, .nameAndType 5 6), (0, u "java/lang/Object"), (0, u "<init>"), (0, u "()V"), (0, .fieldref 8 9), (0, .class_ 10), (0, .nameAndType 11 12), (0, u "com/example/laelaps/laelaps/testbed/ScoreMoments$Accumulator"), (0, u "documents"), (0, u "J"), (0, .fieldref 8 14), (0, .nameAndType 15 16), (0, u "mean"), (0, u "D"), (0, .fieldref 8 18), (0, .nameAndType 19 16), (0, u "squares"), (0, .class_ 21), (0, u "com/example/laelaps/laelaps/testbed/ScoreMoments"), (0, .methodref 20 23), (0, .nameAndType 5 24), (0, u "(JDD)V"), (2, u "add"), (0, u "(D)V"), (0, u "moments"), (0, u "()Lcom/example/laelaps/laelaps/testbed/ScoreMoments;")] 5

def k2c0 : Code := { maxStack := 1, maxLocals := 1, code := prog_22_method_1_code, exceptionTable := #[], attributes := #[] }
def k2m0 : Method := { name := "<init>", desc := "()V", sig := { parameters := [], returnType := none }, accessFlags := 0, code := some k2c0 }
def k2c1 : Code := { maxStack := 9, maxLocals := 5, code := prog_22_method_2_code, exceptionTable := #[], attributes := #[] }
def k2m1 : Method := { name := "add", desc := "(D)V", sig := { parameters := [.double], returnType := none }, accessFlags := 0, code := some k2c1 }
def k2c2 : Code := { maxStack := 10, maxLocals := 1, code := prog_22_method_3_code, exceptionTable := #[], attributes := #[] }
def k2m2 : Method := { name := "moments", desc := "()Lcom/example/laelaps/laelaps/testbed/ScoreMoments;", sig := { parameters := [], returnType := some (.object "com/example/laelaps/laelaps/testbed/ScoreMoments") }, accessFlags := 0, code := some k2c2 }
/-- com/example/laelaps/laelaps/testbed/ScoreMoments$Accumulator -/
def k2 : Class := { plain "com/example/laelaps/laelaps/testbed/ScoreMoments$Accumulator" (some 0) with
  accessFlags := 48
  interfaces := #[]
  cf := some (fileOf pool2 8 #[.nestHost 20] #[{ accessFlags := 0, nameIndex := 5, descriptorIndex := 6, attributes := #[] }, { accessFlags := 0, nameIndex := 27, descriptorIndex := 28, attributes := #[] }, { accessFlags := 0, nameIndex := 29, descriptorIndex := 30, attributes := #[] }] 48 2 #[] #[{ accessFlags := 2, nameIndex := 11, descriptorIndex := 12, attributes := #[] }, { accessFlags := 2, nameIndex := 15, descriptorIndex := 16, attributes := #[] }, { accessFlags := 2, nameIndex := 19, descriptorIndex := 16, attributes := #[] }])
  fields := #[{ name := "documents", type := .long, accessFlags := 2, slot := 0, constantValue := 0 }, { name := "mean", type := .double, accessFlags := 2, slot := 1, constantValue := 0 }, { name := "squares", type := .double, accessFlags := 2, slot := 2, constantValue := 0 }]
  methods := #[k2m0, k2m1, k2m2]
  instanceTypes := #[.long, .double, .double]
  staticTypes := #[]
  resolved := Array.replicate 36 none
  statics := none }

def pool3 : Array CpInfo := pool [(1, .methodref 2 3), (0, .class_ 4), (0, .nameAndType 5 6), (0, u "java/lang/Object"), (0, u "<init>"), (0, u "()V"), (2, .double 9218868437227405312), (10, .fieldref 21 22), (0, .class_ 23), (0, .nameAndType 24 25), (0, u "com/example/laelaps/laelaps/testbed/ScoreMoments"), (0, u "documents"), (0, u "J"), (0, .fieldref 21 27), (0, .nameAndType 28 29), (0, u "mean"), (0, u "D"), (0, .fieldref 21 31), (0, .nameAndType 32 29), (0, u "variance"), (2, u "(JDD)V"), (2, u "NONE"), (0, u "Lcom/example/laelaps/laelaps/testbed/ScoreMoments;"), (3, u "()J"), (0, u "()D"), (6, .class_ 52), (0, u "com/example/laelaps/laelaps/testbed/ScoreMoments$Accumulator")] 16

def k3c0 : Code := { maxStack := 8, maxLocals := 9, code := prog_21_method_1_code, exceptionTable := #[], attributes := #[] }
def k3m0 : Method := { name := "<init>", desc := "(JDD)V", sig := { parameters := [.long, .double, .double], returnType := none }, accessFlags := 1, code := some k3c0 }
def k3c1 : Code := { maxStack := 2, maxLocals := 1, code := prog_21_method_2_code, exceptionTable := #[], attributes := #[] }
def k3m1 : Method := { name := "documents", desc := "()J", sig := { parameters := [], returnType := some .long }, accessFlags := 1, code := some k3c1 }
def k3c2 : Code := { maxStack := 2, maxLocals := 1, code := prog_21_method_3_code, exceptionTable := #[], attributes := #[] }
def k3m2 : Method := { name := "mean", desc := "()D", sig := { parameters := [], returnType := some .double }, accessFlags := 1, code := some k3c2 }
def k3c3 : Code := { maxStack := 2, maxLocals := 1, code := prog_21_method_4_code, exceptionTable := #[], attributes := #[] }
def k3m3 : Method := { name := "variance", desc := "()D", sig := { parameters := [], returnType := some .double }, accessFlags := 1, code := some k3c3 }
/-- com/example/laelaps/laelaps/testbed/ScoreMoments -/
def k3 : Class := { plain "com/example/laelaps/laelaps/testbed/ScoreMoments" (some 0) with
  accessFlags := 49
  interfaces := #[]
  cf := some (fileOf pool3 21 #[.nestMembers #[51]] #[{ accessFlags := 1, nameIndex := 5, descriptorIndex := 35, attributes := #[] }, { accessFlags := 1, nameIndex := 24, descriptorIndex := 43, attributes := #[] }, { accessFlags := 1, nameIndex := 28, descriptorIndex := 44, attributes := #[] }, { accessFlags := 1, nameIndex := 32, descriptorIndex := 44, attributes := #[] }] 49 2 #[] #[{ accessFlags := 25, nameIndex := 38, descriptorIndex := 39, attributes := #[] }, { accessFlags := 18, nameIndex := 24, descriptorIndex := 25, attributes := #[] }, { accessFlags := 18, nameIndex := 28, descriptorIndex := 29, attributes := #[] }, { accessFlags := 18, nameIndex := 32, descriptorIndex := 29, attributes := #[] }])
  fields := #[{ name := "NONE", type := (.object "com/example/laelaps/laelaps/testbed/ScoreMoments"), accessFlags := 25, slot := 0, constantValue := 0 }, { name := "documents", type := .long, accessFlags := 18, slot := 0, constantValue := 0 }, { name := "mean", type := .double, accessFlags := 18, slot := 1, constantValue := 0 }, { name := "variance", type := .double, accessFlags := 18, slot := 2, constantValue := 0 }]
  methods := #[k3m0, k3m1, k3m2, k3m3]
  instanceTypes := #[.long, .double, .double]
  staticTypes := #[(.object "com/example/laelaps/laelaps/testbed/ScoreMoments")]
  resolved := Array.replicate 69 none
  statics := none }

def pool4 : Array CpInfo := pool [(1, u "java/lang/Cloneable"), (0, .class_ 1), (0, u "java/lang/Object"), (0, .class_ 3)] 3

/-- java/lang/Cloneable -/
def k4 : Class := { plain "java/lang/Cloneable" (some 0) with
  accessFlags := 1537
  interfaces := #[]
  cf := some (fileOf pool4 2 #[] #[] 1537 4 #[] #[])
  fields := #[]
  methods := #[]
  instanceTypes := #[]
  staticTypes := #[]
  resolved := Array.replicate 8 none
  statics := none }

def pool5 : Array CpInfo := pool [(1, u "java/io/Serializable"), (0, .class_ 1), (0, u "java/lang/Object"), (0, .class_ 3)] 3

/-- java/io/Serializable -/
def k5 : Class := { plain "java/io/Serializable" (some 0) with
  accessFlags := 1537
  interfaces := #[]
  cf := some (fileOf pool5 2 #[] #[] 1537 4 #[] #[])
  fields := #[]
  methods := #[]
  instanceTypes := #[]
  staticTypes := #[]
  resolved := Array.replicate 8 none
  statics := none }

/-- the primitive byte -/
def k6 : Class := { plain "byte" none with kind := .primitive 'B', accessFlags := 0x411 }
/-- [B -/
def k7 : Class := { plain "[B" (some 0) with kind := .array 6 .byte, interfaces := #[4, 5], accessFlags := 1041 }

/-- the primitive int -/
def k8 : Class := { plain "int" none with kind := .primitive 'I', accessFlags := 0x411 }
/-- [I -/
def k9 : Class := { plain "[I" (some 0) with kind := .array 8 .int, interfaces := #[4, 5], accessFlags := 1041 }

def heap : Heap := #[]
def classes : Array Class := #[k0, k1, k2, k3, k4, k5, k6, k7, k8, k9]
def interned : List (Array UInt16 × Addr) := []
def slotsUsed : Nat := 0
def theMethod : MethodId := ⟨1, 1⟩
def args0 : Array Value := #[.int 7, .int 9, .int 1]
def aboutOver (below : List Frame) : State where
  vm := { classes := classes, interned := interned.toArray }
  heap := heap
  slotsUsed := slotsUsed
  threads := #[{ frames := .invoking theMethod args0 :: below }]
def below0 : List Frame := [.native { method := ⟨0, 0⟩, args := #[] }]
def about1 : State := aboutOver below0
def p0 : Program := .bare "" "" ""
def e0 : Env := launch0.env 0 0 0
theorem w_frames : about1.frames = Frame.invoking theMethod args0 :: below0 := rfl
set_option maxRecDepth 65536 in
theorem w_args : argsFit about1.vm theMethod args0 = true := by decide +kernel
set_option maxRecDepth 65536 in
theorem w_heap : heapFits about1 = true := by decide +kernel
set_option maxRecDepth 65536 in
theorem w_runnable : about1.curStatus? = some .runnable := by decide +kernel
set_option maxRecDepth 65536 in
theorem w_alone : about1.alone = true := by decide +kernel
set_option maxRecDepth 65536 in
theorem w_named : about1.methodNamed? x = some theMethod := by decide +kernel
set_option maxRecDepth 65536 in
theorem w_hears : about1.hears theMethod below0 = true := by decide +kernel
set_option maxRecDepth 65536 in
theorem w_ripe : about1.ripe theMethod args0 below0 = true := by decide +kernel
theorem w_running : about1.status = .running := rfl
set_option maxRecDepth 65536 in
theorem w_room : about1.hasRoom e0.platform room_1 = true :=
  launch0.hasRoom_least _ room_1 (by decide +kernel) (by decide +kernel) (by decide +kernel) (by decide +kernel) (by decide +kernel) (by decide +kernel)
theorem allAtoms_all (ts : List Jvm.Cond) (a : Array Jvm.Value) (st : Jvm.State) : (allAtoms ts).before a st = ts.all (fun c => c.before a st) := by
  induction ts with
  | nil => rfl
  | cons c t ih =>
    show (Jvm.Cond.and c (allAtoms t)).before a st = _
    rw [Jvm.Cond.before_and, ih, List.all_cons]
def words1 : List Jvm.Cond := Jvm.Cond.code x code maxLocals ret :: tables_1
/-- a 'code' word, met by the world's own term for the bytes: nothing is compared byte by byte -/
theorem code_word {y : MethodName} {bytes : ByteArray} {mx : Nat} {rt : Option FieldType} {a : Array Value} {s : State} {m : MethodId} {meth : Method} {c : Code} (h1 : s.methodNamed? y = some m) (h2 : s.vm.method? m = some meth) (h3 : meth.code = some c) (h4 : c.code = bytes)
    (h5 : (c.maxLocals == mx && c.exceptionTable.isEmpty && decide (c.maxStack ≤ mostOperands) && decide (meth.sig.returnType = rt) && !meth.locks && decide (parseMethodDescriptor y.desc = some meth.sig)) = true) : (Jvm.Cond.code y bytes mx rt).before a s = true := by
  simp only [Bool.and_eq_true, beq_iff_eq, Bool.not_eq_true', decide_eq_true_eq] at h5
  obtain ⟨⟨⟨⟨⟨g1, g2⟩, g3⟩, g4⟩, g5⟩, g6⟩ := h5
  simp [Cond.before, Cond.holds, Cond.value, h1, h2, h3, h4, g1, g2, g3, g4, g5, g6]
def isCode : Jvm.Cond → Bool
  | .code _ _ _ _ => true
  | _ => false
theorem all_split {L : List Jvm.Cond} {P : Jvm.Cond → Bool} (h1 : L.all (fun c => isCode c || P c) = true) (h2 : ∀ c ∈ L.filter isCode, P c = true) : L.all P = true := by
  refine List.all_eq_true.mpr fun c hc => ?_
  have h := List.all_eq_true.mp h1 c hc
  rcases Bool.eq_false_or_eq_true (isCode c) with hi | hi
  · exact h2 c (List.mem_filter.mpr ⟨hc, hi⟩)
  · simpa [hi] using h
set_option maxRecDepth 65536 in
theorem w_c0 : (Jvm.Cond.code x code maxLocals ret).before args0 about1 = true := code_word (m := ⟨1, 1⟩) (meth := k1m1) (c := k1c1) (by decide +kernel) rfl rfl rfl (by decide +kernel)
set_option maxRecDepth 65536 in
theorem w_c1 : (Jvm.Cond.code ({ cls := "com/example/laelaps/laelaps/testbed/ScoreMoments$Accumulator", name := "<init>", desc := "()V" } : Jvm.MethodName) prog_22_method_1_code (1 : Nat) (Option.none : Option Jvm.ClassFile.FieldType)).before args0 about1 = true := code_word (m := ⟨2, 0⟩) (meth := k2m0) (c := k2c0) (by decide +kernel) rfl rfl rfl (by decide +kernel)
set_option maxRecDepth 65536 in
theorem w_c2 : (Jvm.Cond.code ({ cls := "java/lang/Object", name := "<init>", desc := "()V" } : Jvm.MethodName) object_method_1_code (1 : Nat) (Option.none : Option Jvm.ClassFile.FieldType)).before args0 about1 = true := code_word (m := ⟨0, 0⟩) (meth := k0m0) (c := k0c0) (by decide +kernel) rfl rfl rfl (by decide +kernel)
set_option maxRecDepth 65536 in
theorem w_c3 : (Jvm.Cond.code ({ cls := "com/example/laelaps/laelaps/testbed/ScoreMoments$Accumulator", name := "add", desc := "(D)V" } : Jvm.MethodName) prog_22_method_2_code (5 : Nat) (Option.none : Option Jvm.ClassFile.FieldType)).before args0 about1 = true := code_word (m := ⟨2, 1⟩) (meth := k2m1) (c := k2c1) (by decide +kernel) rfl rfl rfl (by decide +kernel)
set_option maxRecDepth 65536 in
theorem w_c4 : (Jvm.Cond.code ({ cls := "com/example/laelaps/laelaps/testbed/ScoreMoments$Accumulator", name := "moments", desc := "()Lcom/example/laelaps/laelaps/testbed/ScoreMoments;" } : Jvm.MethodName) prog_22_method_3_code (1 : Nat) (Option.some (Jvm.ClassFile.FieldType.object "com/example/laelaps/laelaps/testbed/ScoreMoments"))).before args0 about1 = true := code_word (m := ⟨2, 2⟩) (meth := k2m2) (c := k2c2) (by decide +kernel) rfl rfl rfl (by decide +kernel)
set_option maxRecDepth 65536 in
theorem w_c5 : (Jvm.Cond.code ({ cls := "com/example/laelaps/laelaps/testbed/ScoreMoments", name := "<init>", desc := "(JDD)V" } : Jvm.MethodName) prog_21_method_1_code (9 : Nat) (Option.none : Option Jvm.ClassFile.FieldType)).before args0 about1 = true := code_word (m := ⟨3, 0⟩) (meth := k3m0) (c := k3c0) (by decide +kernel) rfl rfl rfl (by decide +kernel)
set_option maxRecDepth 65536 in
theorem w_c6 : (Jvm.Cond.code ({ cls := "com/example/laelaps/laelaps/testbed/ScoreMoments", name := "documents", desc := "()J" } : Jvm.MethodName) prog_21_method_2_code (1 : Nat) (Option.some Jvm.ClassFile.FieldType.long)).before args0 about1 = true := code_word (m := ⟨3, 1⟩) (meth := k3m1) (c := k3c1) (by decide +kernel) rfl rfl rfl (by decide +kernel)
set_option maxRecDepth 65536 in
theorem w_c7 : (Jvm.Cond.code ({ cls := "com/example/laelaps/laelaps/testbed/ScoreMoments", name := "mean", desc := "()D" } : Jvm.MethodName) prog_21_method_3_code (1 : Nat) (Option.some Jvm.ClassFile.FieldType.double)).before args0 about1 = true := code_word (m := ⟨3, 2⟩) (meth := k3m2) (c := k3c2) (by decide +kernel) rfl rfl rfl (by decide +kernel)
set_option maxRecDepth 65536 in
theorem w_c8 : (Jvm.Cond.code ({ cls := "com/example/laelaps/laelaps/testbed/ScoreMoments", name := "variance", desc := "()D" } : Jvm.MethodName) prog_21_method_4_code (1 : Nat) (Option.some Jvm.ClassFile.FieldType.double)).before args0 about1 = true := code_word (m := ⟨3, 3⟩) (meth := k3m3) (c := k3c3) (by decide +kernel) rfl rfl rfl (by decide +kernel)
def codes1 : List Jvm.Cond := [Jvm.Cond.code x code maxLocals ret, Jvm.Cond.code ({ cls := "com/example/laelaps/laelaps/testbed/ScoreMoments$Accumulator", name := "<init>", desc := "()V" } : Jvm.MethodName) prog_22_method_1_code (1 : Nat) (Option.none : Option Jvm.ClassFile.FieldType), Jvm.Cond.code ({ cls := "java/lang/Object", name := "<init>", desc := "()V" } : Jvm.MethodName) object_method_1_code (1 : Nat) (Option.none : Option Jvm.ClassFile.FieldType), Jvm.Cond.code ({ cls := "com/example/laelaps/laelaps/testbed/ScoreMoments$Accumulator", name := "add", desc := "(D)V" } : Jvm.MethodName) prog_22_method_2_code (5 : Nat) (Option.none : Option Jvm.ClassFile.FieldType), Jvm.Cond.code ({ cls := "com/example/laelaps/laelaps/testbed/ScoreMoments$Accumulator", name := "moments", desc := "()Lcom/example/laelaps/laelaps/testbed/ScoreMoments;" } : Jvm.MethodName) prog_22_method_3_code (1 : Nat) (Option.some (Jvm.ClassFile.FieldType.object "com/example/laelaps/laelaps/testbed/ScoreMoments")), Jvm.Cond.code ({ cls := "com/example/laelaps/laelaps/testbed/ScoreMoments", name := "<init>", desc := "(JDD)V" } : Jvm.MethodName) prog_21_method_1_code (9 : Nat) (Option.none : Option Jvm.ClassFile.FieldType), Jvm.Cond.code ({ cls := "com/example/laelaps/laelaps/testbed/ScoreMoments", name := "documents", desc := "()J" } : Jvm.MethodName) prog_21_method_2_code (1 : Nat) (Option.some Jvm.ClassFile.FieldType.long), Jvm.Cond.code ({ cls := "com/example/laelaps/laelaps/testbed/ScoreMoments", name := "mean", desc := "()D" } : Jvm.MethodName) prog_21_method_3_code (1 : Nat) (Option.some Jvm.ClassFile.FieldType.double), Jvm.Cond.code ({ cls := "com/example/laelaps/laelaps/testbed/ScoreMoments", name := "variance", desc := "()D" } : Jvm.MethodName) prog_21_method_4_code (1 : Nat) (Option.some Jvm.ClassFile.FieldType.double)]
set_option maxRecDepth 65536 in
theorem codes_eq : words1.filter isCode = codes1 := rfl
theorem w_codes : ∀ c ∈ words1.filter isCode, c.before args0 about1 = true := by
  rw [codes_eq]
  intro c hc
  simp only [codes1, List.mem_cons, List.not_mem_nil, or_false] at hc
  rcases hc with rfl | rfl | rfl | rfl | rfl | rfl | rfl | rfl | rfl
  · exact w_c0
  · exact w_c1
  · exact w_c2
  · exact w_c3
  · exact w_c4
  · exact w_c5
  · exact w_c6
  · exact w_c7
  · exact w_c8
set_option maxRecDepth 65536 in
theorem w_t1 : (words1.take 24).all (fun c => isCode c || c.before args0 about1) = true := by decide +kernel
set_option maxRecDepth 65536 in
theorem w_t2 : ((words1.drop 24).take 24).all (fun c => isCode c || c.before args0 about1) = true := by decide +kernel
set_option maxRecDepth 65536 in
theorem w_t3 : ((words1.drop 24).drop 24).all (fun c => isCode c || c.before args0 about1) = true := by decide +kernel
theorem w_tables : (allAtoms (Jvm.Cond.code x code maxLocals ret :: tables_1)).before args0 about1 = true := by
  rw [allAtoms_all]
  show words1.all (fun c => c.before args0 about1) = true
  refine all_split ?_ w_codes
  rw [← List.take_append_drop 24 words1, List.all_append, w_t1, ← List.take_append_drop 24 (words1.drop 24), List.all_append, w_t2, w_t3]
  rfl
set_option maxRecDepth 65536 in
theorem w_case : (Jvm.Cond.and given_1 narrow_1).before args0 about1 = true := by decide +kernel
theorem w_applies : (headSpec (Jvm.Cond.code x code maxLocals ret :: tables_1) room_1).applies x e0.platform about1 = true :=
  (Spec.applies_iff w_frames).mpr ⟨w_running, w_runnable, w_alone, w_named, w_hears, w_ripe, w_room, w_tables⟩
theorem atStart : AtStart classFile x code maxLocals ret World_1 tables_1 room_1 Calls_1 rest_1 Pre_1 launch0 p0 e0 about1 theMethod args0 below0 :=
  ⟨lists_1, trivial, launch0.admits_env _ _ _, launch0.least_env, fairChoices_fair.cas, fairChoices_fair.clock, w_frames, w_args, w_heap, w_applies, trivial, trivial, w_case⟩
end start1
theorem witness_1 : WitnessClaimed_1 := ⟨start1.p0, start1.e0, start1.about1, start1.theMethod, start1.args0, start1.below0, start1.atStart⟩
end Jvm.Pilot.@@N@@
