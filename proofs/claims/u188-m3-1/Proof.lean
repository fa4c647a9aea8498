import JvmDerived
import JvmDerived.Pilot.@@N@@Statement
import JvmDerived.Pilot.@@N@@Code
set_option linter.unusedVariables false
set_option linter.unusedSimpArgs false
namespace Jvm.Pilot.@@N@@
open Jvm Jvm.ClassFile Sem Op Lib Jvm.Free Jvm.Stand Jvm.LawKit Jvm.RoadKit Bundle Jvm.Pilot.@@N@@.Jvm.D
/-! from a frame on, the body comes to its end as Q says -/
section OwnKit
variable {p : Program} {l : Launch} {e : Env} {R : Room} {s : State} {m : MethodId} {args : Array Value} {below : List Frame} {meth : Method} {c : Code} {T T' : State} {locs : List Loc} {cells slots C D : Nat} {Q Q' : Option Value → Heap → List Loc → Prop} {g g' : JFrame}
def Go (p : Program) (e : Env) (below : List Frame) (s : State) (C D : Nat) (Q : Option Value → Heap → List Loc → Prop) (T : State) (g : JFrame) : Prop :=
  ∃ u o, Steps p.tables e below (T.setTop g) u ∧ u.status = .running ∧ Ended u below o ∧ ∃ v L, o = .returned v ∧ Q v u.heap L ∧ FrameEnd s o u L C D
def PureQ (r : Value) (h0 : Heap) (v : Option Value) (h : Heap) (L : List Loc) : Prop := v = some r ∧ L = [] ∧ h = h0
theorem Go.step (k : ∀ t, Steps p.tables e below (T'.setTop g') t → Steps p.tables e below (T.setTop g) t) (h : Go p e below s C D Q T' g') : Go p e below s C D Q T g := by
  obtain ⟨u, o, h1, r⟩ := h
  exact ⟨u, o, k _ h1, r⟩
theorem Go.mono (h : Go p e below s C D Q T g) (q : ∀ v h L, Q v h L → Q' v h L) : Go p e below s C D Q' T g := by
  obtain ⟨u, o, h1, h2, h3, v, L, h4, h5, h6⟩ := h
  exact ⟨u, o, h1, h2, h3, v, L, h4, q _ _ _ h5, h6⟩
theorem Go.retN (X : Stand p l e R s m args below meth c T locs cells slots) (hx : p.tables.exec = Jvm.exec) (hlk : meth.locks = false) {pc : Nat} {Ls : Array Slot} {z : Int32} {t : FieldType} {rest : List Value} (hret : meth.sig.returnType = some t) (ht : t = .boolean ∨ t = .byte ∨ t = .char ∨ t = .short)
    (hd : decode c.code pc = .ok (.ireturn, 1)) (hC : cells ≤ C) (hD : slots ≤ D) (hq : Q (some (.int (nar t z))) T.heap locs) : Go p e below s C D Q T (mkF m pc Ls (.int z :: rest)) := by
  obtain ⟨fs, hr, hrun, hended, hW, hsame⟩ := X.leave (v := some (.int (nar t z))) (fun h => by rw [hret] at h; cases h) hlk
  exact ⟨_, _, Jvm.RoadKit.retN X hx hret ht hd hr, hrun, hended, _, _, rfl, hq, ⟨_, rfl⟩, hW, hsame.mono hC hD⟩
theorem Go.retW (X : Stand p l e R s m args below meth c T locs cells slots) (hx : p.tables.exec = Jvm.exec) (hlk : meth.locks = false) {pc : Nat} {Ls : Array Slot} {w : Value} {t : FieldType} {i : Instr} {rest : List Value} (hret : meth.sig.returnType = some t) (hn : narrow t w = w)
    (hi : (i = .ireturn ∧ (t = .int ∨ t = .boolean ∨ t = .byte ∨ t = .char ∨ t = .short) ∧ ∃ z, w = .int z) ∨ (i = .lreturn ∧ t = .long ∧ ∃ z, w = .long z) ∨ (i = .dreturn ∧ t = .double ∧ ∃ z, w = .double z) ∨ (i = .freturn ∧ t = .float ∧ ∃ z, w = .float z) ∨ (i = .areturn ∧ t.isReference = true ∧ w.isRef = true))
    (hd : decode c.code pc = .ok (i, 1)) (hC : cells ≤ C) (hD : slots ≤ D) (hq : Q (some w) T.heap locs) : Go p e below s C D Q T (mkF m pc Ls (w :: rest)) := by
  obtain ⟨fs, hr, hrun, hended, hW, hsame⟩ := X.leave (v := some w) (fun h => by rw [hret] at h; cases h) hlk
  exact ⟨_, _, retOut X hx hret hn hi hd hr, hrun, hended, _, _, rfl, hq, ⟨_, rfl⟩, hW, hsame.mono hC hD⟩
theorem Go.ret0 (X : Stand p l e R s m args below meth c T locs cells slots) (hx : p.tables.exec = Jvm.exec) (hlk : meth.locks = false) {pc : Nat} {Ls : Array Slot} (hret : meth.sig.returnType = none)
    (hd : decode c.code pc = .ok (.return_, 1)) (hC : cells ≤ C) (hD : slots ≤ D) (hq : Q none T.heap locs) : Go p e below s C D Q T (mkF m pc Ls []) := by
  obtain ⟨fs, hr, hrun, hended, hW, hsame⟩ := X.leave (v := none) (fun _ => rfl) hlk
  exact ⟨_, _, X.returnOut hx hret hd hr, hrun, hended, _, _, rfl, hq, ⟨_, rfl⟩, hW, hsame.mono hC hD⟩
end OwnKit
theorem pd_0 : parseMethodDescriptor "(I)V" = some ⟨[.int], none⟩ := by decide +kernel
theorem pd_1 : parseMethodDescriptor "(IIIDD)V" = some ⟨[.int, .int, .int, .double, .double], none⟩ := by decide +kernel
theorem pd_2 : parseMethodDescriptor "()[I" = some ⟨[], some (.array .int)⟩ := by decide +kernel
theorem pd_3 : parseMethodDescriptor "()[D" = some ⟨[], some (.array .double)⟩ := by decide +kernel
theorem pd_4 : parseMethodDescriptor "()I" = some ⟨[], some .int⟩ := by decide +kernel
theorem pd_5 : parseMethodDescriptor "([I[I[DIIII)Z" = some ⟨[(.array .int), (.array .int), (.array .double), .int, .int, .int, .int], some .boolean⟩ := by decide +kernel
section OwnHeap
variable {p : Program} {l : Launch} {e : Env} {R : Room} {s : State} {m : MethodId} {args : Array Value} {below : List Frame} {meth : Method} {c : Code} {T : State} {locs : List Loc} {cells slots n0 : Nat}
variable {Z : State} {h h' : Heap} {a b : Addr} {ty : FieldType} {n sl : Nat} {f : Nat → Value} {v : Value} {ws : List Addr} {j : Int32} {gf : JFrame} {rest : List Value}
def IA (Z : State) (h : Heap) (a : Addr) (ty : FieldType) (n : Nat) (f : Nat → Value) : Prop := ∃ c : Cell, Arr Z h a c ty ∧ c.slots.size = n ∧ ∀ k, k < n → c.slots[k]? = some (f k)
def upd {α : Type} (g : Nat → α) (j : Nat) (v : α) (k : Nat) : α := if k = j then v else g k
theorem IA.lt (F : IA Z h a ty n f) : a < h.size := by obtain ⟨c, A, -⟩ := F; exact A.lt
theorem IA.ext (F : IA Z h a ty n f) (E : Ext h h') : IA Z h' a ty n f := by obtain ⟨c, A, r⟩ := F; exact ⟨c, A.ext E, r⟩
theorem IA.other (F : IA Z h b ty n f) (W : Wr h h' a sl v) (q : b ≠ a) : IA Z h' b ty n f := by obtain ⟨c, A, r⟩ := F; exact ⟨c, A.other W q, r⟩
theorem IA.keep (F : IA Z h a ty n f) (K : Keep h h' ws) (q : a ∉ ws) : IA Z h' a ty n f := by obtain ⟨c, A, r⟩ := F; exact ⟨c, ⟨K.2.1 a c A.1 q, A.2⟩, r⟩
theorem IA.of_new {k : ClassId} {z : Int32} (A : Arr Z h a (newA k ty z) ty) (hn : z.toNatClampNeg = n) : IA Z h a ty n (fun _ => defaultValue ty) :=
  ⟨_, A, (sz_new _ _ _).trans hn, fun i hi => by subst hn; simp [newA, hi]⟩
theorem IA.set {c : Cell} {F : Nat → Value} (A : Arr Z h a c ty) (S : c.slots.size = n) (H : ∀ k, k < n → c.slots[k]? = some (F k)) (hj : ¬ (j < 0 ∨ n ≤ j.toNatClampNeg)) (W : Wr h h' a j.toNatClampNeg v) : IA Z h' a ty n (upd F j.toNatClampNeg v) := by
  refine ⟨_, A.same W, (sz_set _ _ _).trans S, fun k hk => ?_⟩
  by_cases q : k = j.toNatClampNeg
  · subst q; simp [Cell.setSlot, upd, S, hk]
  · simp only [Cell.setSlot, upd, if_neg q]
    rw [Array.getElem?_setIfInBounds_ne (Ne.symm q)]; exact H k hk
theorem IA.cong {f' : Nat → Value} (F : IA Z h a ty n f) (q : ∀ k, k < n → f k = f' k) : IA Z h a ty n f' := by
  obtain ⟨c, A, S, H⟩ := F; exact ⟨c, A, S, fun k hk => by rw [H k hk, q k hk]⟩
theorem own_pack (X : Stand p l e R s m args below meth c T locs cells slots) (N : Fr n0 locs) : ∃ lc, Stand p l e R s m args below meth c T lc cells slots ∧ Fr n0 lc := ⟨_, X, N⟩
theorem own_more {C D : Nat} (X : Stand p l e R s m args below meth c T locs cells slots) (hC : cells ≤ C) (hD : slots ≤ D) : Stand p l e R s m args below meth c T locs C D := X.more hC hD
theorem putAI {g : Nat → Int32} {x : Int32} (X : Stand p l e R s m args below meth c T locs cells slots) (hx : p.tables.exec = Jvm.exec) (hZ : Z.Warmed39 s.vm) (eT : T.heap = h) (F : IA Z h a .int n (fun k => .int (g k))) (hj : ¬ (j < 0 ∨ n ≤ j.toNatClampNeg)) (N : Fr n0 locs) (ha : n0 ≤ a) (hg : gf.method = m) (hs : gf.stack = .int x :: .int j :: .ref a :: rest) (hd : decode c.code gf.pc = .ok (.iastore, 1)) :
    ∃ T' h' lc, Stand p l e R s m args below meth c T' lc cells slots ∧ T'.heap = h' ∧ Wr h h' a j.toNatClampNeg (.int x) ∧ Fr n0 lc ∧ IA Z h' a .int n (fun k => .int (upd g j.toNatClampNeg x k)) ∧ ∀ target, Steps p.tables e below (T'.setTop { gf with pc := gf.pc + 1, stack := rest }) target → Steps p.tables e below (T.setTop gf) target := by
  obtain ⟨cl, A, S, H⟩ := F
  obtain ⟨T', h', X', e', W, st⟩ := stI X hx hZ eT A (j := j) (x := x) (by rw [S]; exact hj) hg hs hd
  exact ⟨T', h', _, X', e', W, Fr.snoc X' N ha, (IA.set A S H hj W).cong fun k _ => by simp only [upd]; split <;> rfl, st⟩
theorem putAJ {g : Nat → Int64} {x : Int64} (X : Stand p l e R s m args below meth c T locs cells slots) (hx : p.tables.exec = Jvm.exec) (hZ : Z.Warmed39 s.vm) (eT : T.heap = h) (F : IA Z h a .long n (fun k => .long (g k))) (hj : ¬ (j < 0 ∨ n ≤ j.toNatClampNeg)) (N : Fr n0 locs) (ha : n0 ≤ a) (hg : gf.method = m) (hs : gf.stack = .long x :: .int j :: .ref a :: rest) (hd : decode c.code gf.pc = .ok (.lastore, 1)) :
    ∃ T' h' lc, Stand p l e R s m args below meth c T' lc cells slots ∧ T'.heap = h' ∧ Wr h h' a j.toNatClampNeg (.long x) ∧ Fr n0 lc ∧ IA Z h' a .long n (fun k => .long (upd g j.toNatClampNeg x k)) ∧ ∀ target, Steps p.tables e below (T'.setTop { gf with pc := gf.pc + 1, stack := rest }) target → Steps p.tables e below (T.setTop gf) target := by
  obtain ⟨cl, A, S, H⟩ := F
  obtain ⟨T', h', X', e', W, st⟩ := stJ X hx hZ eT A (j := j) (x := x) (by rw [S]; exact hj) hg hs hd
  exact ⟨T', h', _, X', e', W, Fr.snoc X' N ha, (IA.set A S H hj W).cong fun k _ => by simp only [upd]; split <;> rfl, st⟩
theorem putAC {g : Nat → Int32} {x : Int32} (X : Stand p l e R s m args below meth c T locs cells slots) (hx : p.tables.exec = Jvm.exec) (hZ : Z.Warmed39 s.vm) (eT : T.heap = h) (F : IA Z h a .char n (fun k => .int (g k))) (hj : ¬ (j < 0 ∨ n ≤ j.toNatClampNeg)) (N : Fr n0 locs) (ha : n0 ≤ a) (hg : gf.method = m) (hs : gf.stack = .int x :: .int j :: .ref a :: rest) (hd : decode c.code gf.pc = .ok (.castore, 1)) :
    ∃ T' h' lc, Stand p l e R s m args below meth c T' lc cells slots ∧ T'.heap = h' ∧ Wr h h' a j.toNatClampNeg (.int (nar .char x)) ∧ Fr n0 lc ∧ IA Z h' a .char n (fun k => .int (upd g j.toNatClampNeg (nar .char x) k)) ∧ ∀ target, Steps p.tables e below (T'.setTop { gf with pc := gf.pc + 1, stack := rest }) target → Steps p.tables e below (T.setTop gf) target := by
  obtain ⟨cl, A, S, H⟩ := F
  obtain ⟨T', h', X', e', W, st⟩ := stC X hx hZ eT A (j := j) (x := x) (by rw [S]; exact hj) hg hs hd
  exact ⟨T', h', _, X', e', W, Fr.snoc X' N ha, (IA.set A S H hj W).cong fun k _ => by simp only [upd]; split <;> rfl, st⟩
theorem putAB {g : Nat → Int32} {x : Int32} (X : Stand p l e R s m args below meth c T locs cells slots) (hx : p.tables.exec = Jvm.exec) (hZ : Z.Warmed39 s.vm) (eT : T.heap = h) (F : IA Z h a .byte n (fun k => .int (g k))) (hj : ¬ (j < 0 ∨ n ≤ j.toNatClampNeg)) (N : Fr n0 locs) (ha : n0 ≤ a) (hg : gf.method = m) (hs : gf.stack = .int x :: .int j :: .ref a :: rest) (hd : decode c.code gf.pc = .ok (.bastore, 1)) :
    ∃ T' h' lc, Stand p l e R s m args below meth c T' lc cells slots ∧ T'.heap = h' ∧ Wr h h' a j.toNatClampNeg (.int (nar .byte x)) ∧ Fr n0 lc ∧ IA Z h' a .byte n (fun k => .int (upd g j.toNatClampNeg (nar .byte x) k)) ∧ ∀ target, Steps p.tables e below (T'.setTop { gf with pc := gf.pc + 1, stack := rest }) target → Steps p.tables e below (T.setTop gf) target := by
  obtain ⟨cl, A, S, H⟩ := F
  obtain ⟨T', h', X', e', W, st⟩ := stB X hx hZ eT A (j := j) (x := x) (by rw [S]; exact hj) hg hs hd
  exact ⟨T', h', _, X', e', W, Fr.snoc X' N ha, (IA.set A S H hj W).cong fun k _ => by simp only [upd]; split <;> rfl, st⟩
theorem putAD {g : Nat → UInt64} {x : UInt64} (X : Stand p l e R s m args below meth c T locs cells slots) (hx : p.tables.exec = Jvm.exec) (hZ : Z.Warmed39 s.vm) (eT : T.heap = h) (F : IA Z h a .double n (fun k => .double (g k))) (hj : ¬ (j < 0 ∨ n ≤ j.toNatClampNeg)) (N : Fr n0 locs) (ha : n0 ≤ a) (hg : gf.method = m) (hs : gf.stack = .double x :: .int j :: .ref a :: rest) (hd : decode c.code gf.pc = .ok (.dastore, 1)) :
    ∃ T' h' lc, Stand p l e R s m args below meth c T' lc cells slots ∧ T'.heap = h' ∧ Wr h h' a j.toNatClampNeg (.double x) ∧ Fr n0 lc ∧ IA Z h' a .double n (fun k => .double (upd g j.toNatClampNeg x k)) ∧ ∀ target, Steps p.tables e below (T'.setTop { gf with pc := gf.pc + 1, stack := rest }) target → Steps p.tables e below (T.setTop gf) target := by
  obtain ⟨cl, A, S, H⟩ := F
  have hj' : ¬ (j < 0 ∨ cl.slots.size ≤ j.toNatClampNeg) := by rw [S]; exact hj
  obtain ⟨X', st⟩ := X.dastore hx (x := x) (by rw [eT]; exact A.1) (State.isArrayOf_alike hZ.alike A.2.1) A.2.2 hj' hg hs hd
  have W : Wr h (T.setCell a (cl.setSlot j.toNatClampNeg (.double x))).heap a j.toNatClampNeg (.double x) := ⟨cl, A.1, A.plain, Nat.lt_of_not_le fun q => hj' (Or.inr q), by rw [← eT]; rfl⟩
  exact ⟨_, _, _, X', rfl, W, Fr.snoc X' N ha, (IA.set A S H hj W).cong fun k _ => by simp only [upd]; split <;> rfl, st⟩
theorem getAI {g : Nat → Int32} {t : State} (X : Stand p l e R s m args below meth c T locs cells slots) (hx : p.tables.exec = Jvm.exec) (hZ : Z.Warmed39 s.vm) (eT : T.heap = h) (F : IA Z h a .int n (fun k => .int (g k))) (hj : ¬ (j < 0 ∨ n ≤ j.toNatClampNeg)) (hg : gf.method = m) (hs : gf.stack = .int j :: .ref a :: rest) (hd : decode c.code gf.pc = .ok (.iaload, 1))
    (hr : Steps p.tables e below (T.setTop { gf with pc := gf.pc + 1, stack := .int (g j.toNatClampNeg) :: rest }) t) : Steps p.tables e below (T.setTop gf) t := by
  obtain ⟨cl, A, S, H⟩ := F
  exact X.iaload hx (by rw [eT]; exact A.1) (State.isArrayOf_alike hZ.alike A.2.1) A.2.2 (by rw [S]; exact hj) (H _ (Nat.lt_of_not_le fun q => hj (Or.inr q))) hg hs hd _ hr
theorem getAJ {g : Nat → Int64} {t : State} (X : Stand p l e R s m args below meth c T locs cells slots) (hx : p.tables.exec = Jvm.exec) (hZ : Z.Warmed39 s.vm) (eT : T.heap = h) (F : IA Z h a .long n (fun k => .long (g k))) (hj : ¬ (j < 0 ∨ n ≤ j.toNatClampNeg)) (hg : gf.method = m) (hs : gf.stack = .int j :: .ref a :: rest) (hd : decode c.code gf.pc = .ok (.laload, 1))
    (hr : Steps p.tables e below (T.setTop { gf with pc := gf.pc + 1, stack := .long (g j.toNatClampNeg) :: rest }) t) : Steps p.tables e below (T.setTop gf) t := by
  obtain ⟨cl, A, S, H⟩ := F
  exact X.laload hx (by rw [eT]; exact A.1) (State.isArrayOf_alike hZ.alike A.2.1) A.2.2 (by rw [S]; exact hj) (H _ (Nat.lt_of_not_le fun q => hj (Or.inr q))) hg hs hd _ hr
theorem getAC {g : Nat → Int32} {t : State} (X : Stand p l e R s m args below meth c T locs cells slots) (hx : p.tables.exec = Jvm.exec) (hZ : Z.Warmed39 s.vm) (eT : T.heap = h) (F : IA Z h a .char n (fun k => .int (g k))) (hj : ¬ (j < 0 ∨ n ≤ j.toNatClampNeg)) (hg : gf.method = m) (hs : gf.stack = .int j :: .ref a :: rest) (hd : decode c.code gf.pc = .ok (.caload, 1))
    (hr : Steps p.tables e below (T.setTop { gf with pc := gf.pc + 1, stack := .int (g j.toNatClampNeg) :: rest }) t) : Steps p.tables e below (T.setTop gf) t := by
  obtain ⟨cl, A, S, H⟩ := F
  exact X.caload hx (by rw [eT]; exact A.1) (State.isArrayOf_alike hZ.alike A.2.1) A.2.2 (by rw [S]; exact hj) (H _ (Nat.lt_of_not_le fun q => hj (Or.inr q))) hg hs hd _ hr
theorem getAB {g : Nat → Int32} {t : State} (X : Stand p l e R s m args below meth c T locs cells slots) (hx : p.tables.exec = Jvm.exec) (hZ : Z.Warmed39 s.vm) (eT : T.heap = h) (F : IA Z h a .byte n (fun k => .int (g k))) (hj : ¬ (j < 0 ∨ n ≤ j.toNatClampNeg)) (hg : gf.method = m) (hs : gf.stack = .int j :: .ref a :: rest) (hd : decode c.code gf.pc = .ok (.baload, 1))
    (hr : Steps p.tables e below (T.setTop { gf with pc := gf.pc + 1, stack := .int (g j.toNatClampNeg) :: rest }) t) : Steps p.tables e below (T.setTop gf) t := by
  obtain ⟨cl, A, S, H⟩ := F
  exact X.baloadBytes hx (by rw [eT]; exact A.1) (State.isArrayOf_alike hZ.alike A.2.1) A.2.2 (by rw [S]; exact hj) (H _ (Nat.lt_of_not_le fun q => hj (Or.inr q))) hg hs hd _ hr
theorem getAD {g : Nat → UInt64} {t : State} (X : Stand p l e R s m args below meth c T locs cells slots) (hx : p.tables.exec = Jvm.exec) (hZ : Z.Warmed39 s.vm) (eT : T.heap = h) (F : IA Z h a .double n (fun k => .double (g k))) (hj : ¬ (j < 0 ∨ n ≤ j.toNatClampNeg)) (hg : gf.method = m) (hs : gf.stack = .int j :: .ref a :: rest) (hd : decode c.code gf.pc = .ok (.daload, 1))
    (hr : Steps p.tables e below (T.setTop { gf with pc := gf.pc + 1, stack := .double (g j.toNatClampNeg) :: rest }) t) : Steps p.tables e below (T.setTop gf) t := by
  obtain ⟨cl, A, S, H⟩ := F
  exact X.daload hx (by rw [eT]; exact A.1) (State.isArrayOf_alike hZ.alike A.2.1) A.2.2 (by rw [S]; exact hj) (H _ (Nat.lt_of_not_le fun q => hj (Or.inr q))) hg hs hd _ hr
theorem getLen {t : State} {z : Int32} (X : Stand p l e R s m args below meth c T locs cells slots) (hx : p.tables.exec = Jvm.exec) (hZ : Z.Warmed39 s.vm) (eT : T.heap = h) (F : IA Z h a ty n f) (hz : n.toInt32 = z) (hg : gf.method = m) (hs : gf.stack = .ref a :: rest) (hd : decode c.code gf.pc = .ok (.arraylength, 1))
    (hr : Steps p.tables e below (T.setTop { gf with pc := gf.pc + 1, stack := .int z :: rest }) t) : Steps p.tables e below (T.setTop gf) t := by
  obtain ⟨cl, A, S, H⟩ := F
  exact X.arraylength hx (by rw [eT]; exact A.1) (State.isArrayOf_alike hZ.alike A.2.1) hg hs hd _ (by rw [S, hz]; exact hr)
end OwnHeap
def LawQ (r : Option Value) (n0 : Nat) (v : Option Value) (h : Heap) (L : List Loc) : Prop := v = r ∧ Fr n0 L
theorem Sta_keep0 {Z : State} {h h' : Heap} {C n d : String} {v : Value} (F : Sta Z h C n d v) (K : Keep h h' []) : Sta Z h' C n d v := by
  obtain ⟨cf, i, k, f, st, cell, h1, h2, h3, h4, h5, r⟩ := F
  exact ⟨cf, i, k, f, st, cell, h1, h2, h3, h4, K.2.1 _ _ h5 nin0, r⟩
theorem own_d2 {i c : Int32} (h0 : ¬ i < 0) (h : i < c) (hc0 : ¬ c < 0) (hc : c.toNatClampNeg ≤ 4) : ((2 : Int32) * i).toNatClampNeg = 2 * i.toNatClampNeg ∧ (((2 : Int32) * i) + (1 : Int32)).toNatClampNeg = 2 * i.toNatClampNeg + 1 ∧
    ¬ (i < 0 ∨ c.toNatClampNeg ≤ i.toNatClampNeg) ∧ ¬ ((2 : Int32) * i < 0 ∨ ((2 : Int32) * c).toNatClampNeg ≤ ((2 : Int32) * i).toNatClampNeg) ∧ ¬ (((2 : Int32) * i) + (1 : Int32) < 0 ∨ ((2 : Int32) * c).toNatClampNeg ≤ (((2 : Int32) * i) + (1 : Int32)).toNatClampNeg) := by
  have z : (0 : Int32).toInt = 0 := by decide
  have q2 : (2 : Int32).toInt = 2 := by decide
  have q1 : (1 : Int32).toInt = 1 := by decide
  have ei := nat_of h0
  have ec := nat_of hc0
  have m1 := c_imul 2 i
  have m2 := c_imul 2 c
  have r1 := rng32 ((2 : Int32) * i)
  have r2 := rng32 ((2 : Int32) * c)
  have m3 := c_iadd ((2 : Int32) * i) 1
  have r3 := rng32 (((2 : Int32) * i) + (1 : Int32))
  rw [q2] at m1 m2
  rw [q1] at m3
  have hl := h
  rw [Int32.lt_iff_toInt_lt] at hl
  have k1 : ¬ (2 : Int32) * i < 0 := by rw [Int32.lt_iff_toInt_lt, z]; omega
  have k2 : ¬ ((2 : Int32) * i) + (1 : Int32) < 0 := by rw [Int32.lt_iff_toInt_lt, z]; omega
  have k3 : ¬ (2 : Int32) * c < 0 := by rw [Int32.lt_iff_toInt_lt, z]; omega
  have e1 := nat_of k1
  have e2 := nat_of k2
  have e3 := nat_of k3
  refine ⟨by omega, by omega, ?_, ?_, ?_⟩
  · rintro (w | w)
    · exact h0 w
    · omega
  · rintro (w | w)
    · exact k1 w
    · omega
  · rintro (w | w)
    · exact k2 w
    · omega
theorem own_capf (x : Int32) : ¬ (1 : Int32) + (x &&& 3) < 0 ∧ ((1 : Int32) + (x &&& 3)).toNatClampNeg ≤ 4 ∧ ¬ (2 : Int32) * ((1 : Int32) + (x &&& 3)) < 0 ∧ ((2 : Int32) * ((1 : Int32) + (x &&& 3))).toNatClampNeg ≤ 8 ∧ (1 : Int32) + (x &&& 3) ≠ 0 := by
  have e : (x &&& (3 : Int32)).toInt = x.toInt % (2 ^ 2 : Nat) := c_mask x 3 2 (by decide) (by decide)
  have z : (0 : Int32).toInt = 0 := by decide
  have q2 : (2 : Int32).toInt = 2 := by decide
  have q1 : (1 : Int32).toInt = 1 := by decide
  have m1 := c_iadd 1 (x &&& 3)
  have r1 := rng32 ((1 : Int32) + (x &&& 3))
  rw [q1] at m1
  generalize (1 : Int32) + (x &&& 3) = c at *
  have m2 := c_imul 2 c
  have r2 := rng32 ((2 : Int32) * c)
  rw [q2] at m2
  have k1 : ¬ c < 0 := by rw [Int32.lt_iff_toInt_lt, z]; omega
  have k2 : ¬ (2 : Int32) * c < 0 := by rw [Int32.lt_iff_toInt_lt, z]; omega
  have e1 := nat_of k1
  have e2 := nat_of k2
  refine ⟨k1, by omega, k2, by omega, fun h => ?_⟩
  have := congrArg Int32.toInt h
  omega
theorem own_rem {x c : Int32} (hx : ¬ x < 0) (h0 : ¬ c < 0) (hn : c ≠ 0) : ¬ x % c < 0 ∧ x % c < c := by
  have z : (0 : Int32).toInt = 0 := by decide
  have hn' : c.toInt ≠ 0 := fun h => hn (Int32.toInt_inj.mp (h.trans z.symm))
  rw [Int32.lt_iff_toInt_lt, z] at hx h0
  have r := (c_iremV x c).1 (by omega) (by omega)
  rw [Int32.lt_iff_toInt_lt, Int32.lt_iff_toInt_lt, z]
  omega
theorem own_and3 (x : Int32) : ¬ x &&& 3 < 0 := by
  have e : (x &&& (3 : Int32)).toInt = x.toInt % (2 ^ 2 : Nat) := c_mask x 3 2 (by decide) (by decide)
  have z : (0 : Int32).toInt = 0 := by decide
  rw [Int32.lt_iff_toInt_lt, z]; omega
theorem own_cmp {x : UInt64} (v : Int32) (h : x = FP.i2d v) : cmpValue (FP.dcmp x (FP.i2d v)) .l = 0 := by
  subst h
  have e := Jvm.Free.Fl.dcmp_of_noNaN64 (Jvm.Free.Fl.i2d_fin v).noNaN
  revert e
  generalize FP.dcmp (FP.i2d v) (FP.i2d v) = o
  rcases o with _ | o
  · intro e; exact absurd e (by decide)
  · cases o <;> intro e
    · exact absurd e (by decide)
    · rfl
    · exact absurd e (by decide)
theorem own_g1 (a b : Nat) (x y : Int32) : upd (upd (fun _ => (0 : Int32)) b x) a y a = y := by simp [upd]
theorem own_g2 (a b : Nat) (x y : Int32) (h : ¬ b = a) : upd (upd (fun _ => (0 : Int32)) b x) a y b = x := by simp [upd, h]
theorem own_g3 (a b k : Nat) (x y : Int32) (h : ¬ k = a) (h' : ¬ k = b) : upd (upd (fun _ => (0 : Int32)) b x) a y k = 0 := by simp [upd, h, h']
theorem own_c1 (a b : Nat) (p q r s : UInt64) : upd (upd (upd (upd (fun _ => (0 : UInt64)) (2 * b) p) (2 * b + 1) q) (2 * a) r) (2 * a + 1) s (2 * a) = r := by
  unfold upd; rw [if_neg (by omega), if_pos rfl]
theorem own_c2 (a b : Nat) (p q r s : UInt64) : upd (upd (upd (upd (fun _ => (0 : UInt64)) (2 * b) p) (2 * b + 1) q) (2 * a) r) (2 * a + 1) s (2 * a + 1) = s := by
  unfold upd; rw [if_pos rfl]
theorem own_c3 (a b : Nat) (p q r s : UInt64) (h : ¬ b = a) : upd (upd (upd (upd (fun _ => (0 : UInt64)) (2 * b) p) (2 * b + 1) q) (2 * a) r) (2 * a + 1) s (2 * b) = p := by
  unfold upd; rw [if_neg (by omega), if_neg (by omega), if_neg (by omega), if_pos rfl]
theorem own_c4 (a b : Nat) (p q r s : UInt64) (h : ¬ b = a) : upd (upd (upd (upd (fun _ => (0 : UInt64)) (2 * b) p) (2 * b + 1) q) (2 * a) r) (2 * a + 1) s (2 * b + 1) = q := by
  unfold upd; rw [if_neg (by omega), if_neg (by omega), if_pos rfl]
theorem own_c5 (a b k : Nat) (p q r s : UInt64) (h : ¬ k = a) (h' : ¬ k = b) : upd (upd (upd (upd (fun _ => (0 : UInt64)) (2 * b) p) (2 * b + 1) q) (2 * a) r) (2 * a + 1) s (2 * k) = 0 ∧ upd (upd (upd (upd (fun _ => (0 : UInt64)) (2 * b) p) (2 * b + 1) q) (2 * a) r) (2 * a + 1) s (2 * k + 1) = 0 := by
  constructor <;> unfold upd
  · rw [if_neg (by omega), if_neg (by omega), if_neg (by omega), if_neg (by omega)]
  · rw [if_neg (by omega), if_neg (by omega), if_neg (by omega), if_neg (by omega)]
theorem own_nat {i j : Int32} (hi : ¬ i < 0) (hj : ¬ j < 0) (h : ¬ j = i) : ¬ j.toNatClampNeg = i.toNatClampNeg := by
  have e1 := nat_of hi
  have e2 := nat_of hj
  intro w
  exact h (Int32.toInt_inj.mp (by omega))
theorem d1_0 : decode prog_63_method_1_code 0 = .ok (.aload_n 0, 1) := by decide +kernel
theorem d1_1 : decode prog_63_method_1_code 1 = .ok (.invokespecial 1, 3) := by decide +kernel
theorem d1_4 : decode prog_63_method_1_code 4 = .ok (.aload_n 0, 1) := by decide +kernel
theorem d1_5 : decode prog_63_method_1_code 5 = .ok (.iload_n 1, 1) := by decide +kernel
theorem d1_6 : decode prog_63_method_1_code 6 = .ok (.newarray .int, 2) := by decide +kernel
theorem d1_8 : decode prog_63_method_1_code 8 = .ok (.putfield 7, 3) := by decide +kernel
theorem d1_11 : decode prog_63_method_1_code 11 = .ok (.aload_n 0, 1) := by decide +kernel
theorem d1_12 : decode prog_63_method_1_code 12 = .ok (.iload_n 1, 1) := by decide +kernel
theorem d1_13 : decode prog_63_method_1_code 13 = .ok (.newarray .int, 2) := by decide +kernel
theorem d1_15 : decode prog_63_method_1_code 15 = .ok (.putfield 13, 3) := by decide +kernel
theorem d1_18 : decode prog_63_method_1_code 18 = .ok (.aload_n 0, 1) := by decide +kernel
theorem d1_19 : decode prog_63_method_1_code 19 = .ok (.iconst 2, 1) := by decide +kernel
theorem d1_20 : decode prog_63_method_1_code 20 = .ok (.iload_n 1, 1) := by decide +kernel
theorem d1_21 : decode prog_63_method_1_code 21 = .ok (.imul, 1) := by decide +kernel
theorem d1_22 : decode prog_63_method_1_code 22 = .ok (.newarray .double, 2) := by decide +kernel
theorem d1_24 : decode prog_63_method_1_code 24 = .ok (.putfield 16, 3) := by decide +kernel
theorem d1_27 : decode prog_63_method_1_code 27 = .ok (.return_, 1) := by decide +kernel
theorem pn_1 : plainName "com/example/rhadamanthus/rhadamanthus/learn/HeldBins" = true := by first | (simp [plainName, overriddenIn]; done) | decide +kernel
theorem ef_1 (m : MethodId) (o0 : Addr) (p1 : Int32) : entryFrame m #[(.ref o0), (.int p1)] 2 = mkF m 0 #[.val (.ref o0), .val (.int p1)] [] := by first | (simp [entryFrame, mkF, argsToLocals, Value.category]; done) | rfl
def QI (Z : State) (o0 : Addr) (cap : Int32) (h0 : Heap) (n0 : Nat) (v : Option Value) (h : Heap) (L : List Loc) : Prop :=
  v = none ∧ Fr n0 L ∧ Keep h0 h [o0] ∧ Exa Z h o0 "com/example/rhadamanthus/rhadamanthus/learn/HeldBins" ∧ ∃ f b c : Addr, h0.size ≤ f ∧ h0.size ≤ b ∧ h0.size ≤ c ∧ f ≠ b ∧ f ≠ c ∧ b ≠ c ∧ Fld Z h o0 "com/example/rhadamanthus/rhadamanthus/learn/HeldBins" "features" "[I" (.ref f) ∧ Fld Z h o0 "com/example/rhadamanthus/rhadamanthus/learn/HeldBins" "bins" "[I" (.ref b) ∧ Fld Z h o0 "com/example/rhadamanthus/rhadamanthus/learn/HeldBins" "cells" "[D" (.ref c) ∧ Fld Z h o0 "com/example/rhadamanthus/rhadamanthus/learn/HeldBins" "size" "I" (.int (0 : Int32)) ∧
    IA Z h f .int cap.toNatClampNeg (fun k => .int ((fun _ => (0 : Int32)) k)) ∧ IA Z h b .int cap.toNatClampNeg (fun k => .int ((fun _ => (0 : Int32)) k)) ∧ IA Z h c .double ((2 : Int32) * cap).toNatClampNeg (fun k => .double ((fun _ => (0 : UInt64)) k))
set_option maxRecDepth 65536 in
set_option maxHeartbeats 40000000 in
theorem rm1 (l : Launch) (Z : State) (a0 : Array Value) (hw : ∀ d ∈ tables_1, d.before a0 Z = true) (ws : List Jvm.Cond) (o0 : Addr) (p1 : Int32)  (h0 : Heap) (n0 : Nat) (Z0 : n0 ≤ h0.size) (E_o0 : Exa Z h0 o0 "com/example/rhadamanthus/rhadamanthus/learn/HeldBins") (g_o0 : n0 ≤ o0) (F_features : Fld Z h0 o0 "com/example/rhadamanthus/rhadamanthus/learn/HeldBins" "features" "[I" .null) (F_bins : Fld Z h0 o0 "com/example/rhadamanthus/rhadamanthus/learn/HeldBins" "bins" "[I" .null) (F_cells : Fld Z h0 o0 "com/example/rhadamanthus/rhadamanthus/learn/HeldBins" "cells" "[D" .null) (F_size : Fld Z h0 o0 "com/example/rhadamanthus/rhadamanthus/learn/HeldBins" "size" "I" (.int (0 : Int32))) (hcap0 : ¬ p1 < 0) (hcap1 : p1.toNatClampNeg ≤ 4) (hcap2 : ¬ (2 : Int32) * p1 < 0) (hcap3 : ((2 : Int32) * p1).toNatClampNeg ≤ 8) :
    MetFree l (⟨"com/example/rhadamanthus/rhadamanthus/learn/HeldBins", "<init>", "(I)V"⟩ : MethodName) (head1 (Jvm.Cond.code (⟨"com/example/rhadamanthus/rhadamanthus/learn/HeldBins", "<init>", "(I)V"⟩ : MethodName) prog_63_method_1_code 2 none :: ws) ({ frames := 1, cells := 3, slots := 16, locals := 12 } : Room)) (fun a U => a = #[(.ref o0), (.int p1)] ∧ Z.Warmed39 U.vm ∧ U.heap = h0) (fun _ _ _ _ _ => True) (fun _ U o U' => ∃ v L, o = .returned v ∧ (QI Z o0 p1 h0 n0) v U'.heap L ∧ FrameEnd U o U' L ({ frames := 1, cells := 3, slots := 16, locals := 12 } : Room).cells ({ frames := 1, cells := 3, slots := 16, locals := 12 } : Room).slots) := by
  refine MetFree.of_bodySF (plainFor_of_name pn_1) hisR ?_
  intro p e s m args below meth c s₁ Bd hml0 hP hK
  obtain ⟨rfl, hZ, hh⟩ := hP
  have hx := Bd.exec
  have hby := Bd.bytes
  have hlk : meth.locks = false := BodyLoose.notSynchronized Bd
  have hml : c.maxLocals = 2 := hml0
  have hown : s.vm.findClass "com/example/rhadamanthus/rhadamanthus/learn/HeldBins" = some m.cls := findClass_of_methodNamed Bd.named
  have hnm := (name_of_methodNamed Bd.named Bd.method).1
  have X0 : Stand p l e ({ frames := 1, cells := 3, slots := 16, locals := 12 } : Room) s m #[(.ref o0), (.int p1)] below meth c s₁ ([] : List Loc) 0 0 := Stand.of_body Bd
  have e0 : s₁.heap = h0 := by rw [← hh, Bd.state]; rfl
  show Go p e below s 3 16 (QI Z o0 p1 h0 n0) s₁ (entryFrame m #[(.ref o0), (.int p1)] 2)
  rw [ef_1 m o0 p1]
  have N0 := Fr.nil n0
  refine Go.step (g' := (mkF m 1 #[.val (.ref o0), .val (.int p1)] [(.ref o0)])) (fun _ k => XS.aloadN X0.here hx rfl (hb hby d1_0) rfl rfl  k) ?_
  obtain ⟨T1, X1, e1, st1⟩ := initO X0 hx hZ hown (hw _ (List.mem_of_getElem? (i := 6) rfl)) (hw _ (List.mem_of_getElem? (i := 7) rfl)) (hw _ (List.mem_of_getElem? (i := 8) rfl)) e0 (g := (mkF m 1 #[.val (.ref o0), .val (.int p1)] [(.ref o0)])) rfl (by rw [hml]; rfl) rfl (hb hby d1_1) (by decide) (W := 0) (by show 2 * 0 + _ ≤ _; exact Nat.le_of_eq rfl) (by decide)
  refine Go.step (g' := (mkF m 4 #[.val (.ref o0), .val (.int p1)] [])) st1 ?_
  refine Go.step (g' := (mkF m 5 #[.val (.ref o0), .val (.int p1)] [(.ref o0)])) (fun _ k => XS.aloadN X1.here hx rfl (hb hby d1_4) rfl rfl  k) ?_
  refine Go.step (g' := (mkF m 6 #[.val (.ref o0), .val (.int p1)] [(.int p1), (.ref o0)])) (fun _ k => XS.iloadN X1.here hx rfl (hb hby d1_5) rfl  k) ?_
  obtain ⟨T2, h2, k2, X2, e2, E2, A2, st2⟩ := newP X1 hx hZ (hw _ (List.mem_of_getElem? (i := 9) rfl)) e1 (g := (mkF m 6 #[.val (.ref o0), .val (.int p1)] [(.int p1), (.ref o0)])) rfl (hb hby d1_6) rfl hcap0 (cap := 4) hcap1 (by decide) (by decide) (by decide)
  obtain ⟨b2, g2⟩ : ∃ z, z = h0.size := ⟨_, rfl⟩
  rw [← g2] at A2 st2
  have ne_o0_b2 : o0 ≠ b2 := Nat.ne_of_lt (Nat.lt_of_lt_of_le F_features.lt (Nat.le_of_eq g2.symm))
  have g_b2 : n0 ≤ b2 := Nat.le_trans Z0 (Nat.le_of_eq g2.symm)
  have sz_b2 : h0.size ≤ b2 := Nat.le_trans (Keep.refl h0 [o0]).1 (Nat.le_of_eq g2.symm)
  have V2 : IA Z h2 b2 .int (p1).toNatClampNeg (fun k => .int ((fun _ => (0 : Int32)) k)) := IA.of_new A2 rfl
  refine Go.step (g' := (mkF m 8 #[.val (.ref o0), .val (.int p1)] [(.ref b2), (.ref o0)])) st2 ?_
  obtain ⟨T3, h3, X3, e3, W3, st3⟩ := putF X2 hx hZ hown (host := "") (Or.inl (hw _ (List.mem_of_getElem? (i := 10) rfl))) Via.refl e2 (F_features.ext E2) (E_o0.ext E2) (Or.inr ⟨(hw _ (List.mem_of_getElem? (i := 11) rfl)), rfl, hnm⟩) (hw _ (List.mem_of_getElem? (i := 1) rfl)) (ty := (.array .int)) (by decide) rfl rfl (g := (mkF m 8 #[.val (.ref o0), .val (.int p1)] [(.ref b2), (.ref o0)])) rfl rfl (hb hby d1_8)
  obtain ⟨lc3, X3, N3⟩ := own_pack X3 (Fr.snoc X3 N0 g_o0)
  have Fw3 := (F_features.ext E2).same W3
  refine Go.step (g' := (mkF m 11 #[.val (.ref o0), .val (.int p1)] [])) st3 ?_
  have Q4 := ((F_bins.ext E2).other W3 (Or.inr (slot_ne (Or.inr (hw _ (List.mem_of_getElem? (i := 13) rfl))) (Or.inr (hw _ (List.mem_of_getElem? (i := 11) rfl))) (by decide) (t := (.array .int)) (t' := (.array .int)) (by decide) (by decide))))
  have Q5 := ((F_cells.ext E2).other W3 (Or.inr (slot_ne (Or.inr (hw _ (List.mem_of_getElem? (i := 16) rfl))) (Or.inr (hw _ (List.mem_of_getElem? (i := 11) rfl))) (by decide) (t := (.array .double)) (t' := (.array .int)) (by decide) (by decide))))
  have Q6 := ((F_size.ext E2).other W3 (Or.inr (slot_ne (Or.inl (hw _ (List.mem_of_getElem? (i := 43) rfl))) (Or.inr (hw _ (List.mem_of_getElem? (i := 11) rfl))) (by decide) (t := .int) (t' := (.array .int)) (by decide) (by decide))))
  have Q7 := (((Keep.refl h0 [o0]).ext E2).wr W3 (Or.inl (List.mem_of_getElem? (i := 0) rfl)))
  refine Go.step (g' := (mkF m 12 #[.val (.ref o0), .val (.int p1)] [(.ref o0)])) (fun _ k => XS.aloadN X3.here hx rfl (hb hby d1_11) rfl rfl  k) ?_
  refine Go.step (g' := (mkF m 13 #[.val (.ref o0), .val (.int p1)] [(.int p1), (.ref o0)])) (fun _ k => XS.iloadN X3.here hx rfl (hb hby d1_12) rfl  k) ?_
  obtain ⟨T8, h8, k8, X8, e8, E8, A8, st8⟩ := newP X3 hx hZ (hw _ (List.mem_of_getElem? (i := 9) rfl)) e3 (g := (mkF m 13 #[.val (.ref o0), .val (.int p1)] [(.int p1), (.ref o0)])) rfl (hb hby d1_13) rfl hcap0 (cap := 4) hcap1 (by decide) (by decide) (by decide)
  obtain ⟨b8, g8⟩ : ∃ z, z = h3.size := ⟨_, rfl⟩
  rw [← g8] at A8 st8
  have ne_o0_b8 : o0 ≠ b8 := Nat.ne_of_lt (Nat.lt_of_lt_of_le Q4.lt (Nat.le_of_eq g8.symm))
  have ne_b2_b8 : b2 ≠ b8 := Nat.ne_of_lt (Nat.lt_of_lt_of_le (V2.other W3 (Ne.symm ne_o0_b2)).lt (Nat.le_of_eq g8.symm))
  have g_b8 : n0 ≤ b8 := Nat.le_trans (Nat.le_trans (Nat.le_trans Z0 E2.1) (Keep.of_wr W3).1) (Nat.le_of_eq g8.symm)
  have sz_b8 : h0.size ≤ b8 := Nat.le_trans Q7.1 (Nat.le_of_eq g8.symm)
  have V8 : IA Z h8 b8 .int (p1).toNatClampNeg (fun k => .int ((fun _ => (0 : Int32)) k)) := IA.of_new A8 rfl
  refine Go.step (g' := (mkF m 15 #[.val (.ref o0), .val (.int p1)] [(.ref b8), (.ref o0)])) st8 ?_
  have Q9 := (Nat.le_trans (Nat.le_trans (Nat.le_trans Z0 E2.1) (Keep.of_wr W3).1) E8.1)
  obtain ⟨T10, h10, X10, e10, W10, st10⟩ := putF X8 hx hZ hown (host := "") (Or.inl (hw _ (List.mem_of_getElem? (i := 12) rfl))) Via.refl e8 (Q4.ext E8) (((E_o0.ext E2).wr W3).ext E8) (Or.inr ⟨(hw _ (List.mem_of_getElem? (i := 13) rfl)), rfl, hnm⟩) (hw _ (List.mem_of_getElem? (i := 1) rfl)) (ty := (.array .int)) (by decide) rfl rfl (g := (mkF m 15 #[.val (.ref o0), .val (.int p1)] [(.ref b8), (.ref o0)])) rfl rfl (hb hby d1_15)
  obtain ⟨lc10, X10, N10⟩ := own_pack X10 (Fr.snoc X10 N3 g_o0)
  have Fw10 := (Q4.ext E8).same W10
  refine Go.step (g' := (mkF m 18 #[.val (.ref o0), .val (.int p1)] [])) st10 ?_
  have Q11 := ((Q5.ext E8).other W10 (Or.inr (slot_ne (Or.inr (hw _ (List.mem_of_getElem? (i := 16) rfl))) (Or.inr (hw _ (List.mem_of_getElem? (i := 13) rfl))) (by decide) (t := (.array .double)) (t' := (.array .int)) (by decide) (by decide))))
  have Q12 := ((Q6.ext E8).other W10 (Or.inr (slot_ne (Or.inl (hw _ (List.mem_of_getElem? (i := 43) rfl))) (Or.inr (hw _ (List.mem_of_getElem? (i := 13) rfl))) (by decide) (t := .int) (t' := (.array .int)) (by decide) (by decide))))
  have Q13 := (((V2.other W3 (Ne.symm ne_o0_b2)).ext E8).other W10 (Ne.symm ne_o0_b2))
  have Q14 := ((Fw3.ext E8).other W10 (Or.inr (slot_ne (Or.inr (hw _ (List.mem_of_getElem? (i := 11) rfl))) (Or.inr (hw _ (List.mem_of_getElem? (i := 13) rfl))) (by decide) (t := (.array .int)) (t' := (.array .int)) (by decide) (by decide))))
  have Q15 := ((Q7.ext E8).wr W10 (Or.inl (List.mem_of_getElem? (i := 0) rfl)))
  refine Go.step (g' := (mkF m 19 #[.val (.ref o0), .val (.int p1)] [(.ref o0)])) (fun _ k => XS.aloadN X10.here hx rfl (hb hby d1_18) rfl rfl  k) ?_
  refine Go.step (g' := (mkF m 20 #[.val (.ref o0), .val (.int p1)] [(.int (2 : Int32)), (.ref o0)])) (fun _ k => XS.iconst X10.here hx rfl (hb hby d1_19) k) ?_
  refine Go.step (g' := (mkF m 21 #[.val (.ref o0), .val (.int p1)] [(.int p1), (.int (2 : Int32)), (.ref o0)])) (fun _ k => XS.iloadN X10.here hx rfl (hb hby d1_20) rfl  k) ?_
  refine Go.step (g' := (mkF m 22 #[.val (.ref o0), .val (.int p1)] [(.int ((2 : Int32) * p1)), (.ref o0)])) (fun _ k => XS.imul X10.here hx rfl (hb hby d1_21) rfl k) ?_
  obtain ⟨T16, h16, k16, X16, e16, E16, A16, st16⟩ := newP X10 hx hZ (hw _ (List.mem_of_getElem? (i := 14) rfl)) e10 (g := (mkF m 22 #[.val (.ref o0), .val (.int p1)] [(.int ((2 : Int32) * p1)), (.ref o0)])) rfl (hb hby d1_22) rfl hcap2 (cap := 8) hcap3 (by decide) (by decide) (by decide)
  obtain ⟨b16, g16⟩ : ∃ z, z = h10.size := ⟨_, rfl⟩
  rw [← g16] at A16 st16
  have ne_o0_b16 : o0 ≠ b16 := Nat.ne_of_lt (Nat.lt_of_lt_of_le Q11.lt (Nat.le_of_eq g16.symm))
  have ne_b2_b16 : b2 ≠ b16 := Nat.ne_of_lt (Nat.lt_of_lt_of_le Q13.lt (Nat.le_of_eq g16.symm))
  have ne_b8_b16 : b8 ≠ b16 := Nat.ne_of_lt (Nat.lt_of_lt_of_le (V8.other W10 (Ne.symm ne_o0_b8)).lt (Nat.le_of_eq g16.symm))
  have g_b16 : n0 ≤ b16 := Nat.le_trans (Nat.le_trans Q9 (Keep.of_wr W10).1) (Nat.le_of_eq g16.symm)
  have sz_b16 : h0.size ≤ b16 := Nat.le_trans Q15.1 (Nat.le_of_eq g16.symm)
  have V16 : IA Z h16 b16 .double (((2 : Int32) * p1)).toNatClampNeg (fun k => .double ((fun _ => (0 : UInt64)) k)) := IA.of_new A16 rfl
  refine Go.step (g' := (mkF m 24 #[.val (.ref o0), .val (.int p1)] [(.ref b16), (.ref o0)])) st16 ?_
  obtain ⟨T17, h17, X17, e17, W17, st17⟩ := putF X16 hx hZ hown (host := "") (Or.inl (hw _ (List.mem_of_getElem? (i := 15) rfl))) Via.refl e16 (Q11.ext E16) (((((E_o0.ext E2).wr W3).ext E8).wr W10).ext E16) (Or.inr ⟨(hw _ (List.mem_of_getElem? (i := 16) rfl)), rfl, hnm⟩) (hw _ (List.mem_of_getElem? (i := 1) rfl)) (ty := (.array .double)) (by decide) rfl rfl (g := (mkF m 24 #[.val (.ref o0), .val (.int p1)] [(.ref b16), (.ref o0)])) rfl rfl (hb hby d1_24)
  obtain ⟨lc17, X17, N17⟩ := own_pack X17 (Fr.snoc X17 N10 g_o0)
  have Fw17 := (Q11.ext E16).same W17
  refine Go.step (g' := (mkF m 27 #[.val (.ref o0), .val (.int p1)] [])) st17 ?_
  have Q18 := ((Q12.ext E16).other W17 (Or.inr (slot_ne (Or.inl (hw _ (List.mem_of_getElem? (i := 43) rfl))) (Or.inr (hw _ (List.mem_of_getElem? (i := 16) rfl))) (by decide) (t := .int) (t' := (.array .double)) (by decide) (by decide))))
  have Q19 := ((Q14.ext E16).other W17 (Or.inr (slot_ne (Or.inr (hw _ (List.mem_of_getElem? (i := 11) rfl))) (Or.inr (hw _ (List.mem_of_getElem? (i := 16) rfl))) (by decide) (t := (.array .int)) (t' := (.array .double)) (by decide) (by decide))))
  have Q20 := (((V8.other W10 (Ne.symm ne_o0_b8)).ext E16).other W17 (Ne.symm ne_o0_b8))
  have Q21 := ((Fw10.ext E16).other W17 (Or.inr (slot_ne (Or.inr (hw _ (List.mem_of_getElem? (i := 13) rfl))) (Or.inr (hw _ (List.mem_of_getElem? (i := 16) rfl))) (by decide) (t := (.array .int)) (t' := (.array .double)) (by decide) (by decide))))
  have Q22 := (Nat.le_trans (Nat.le_trans (Nat.le_trans Q9 (Keep.of_wr W10).1) E16.1) (Keep.of_wr W17).1)
  have Q23 := ((Q15.ext E16).wr W17 (Or.inl (List.mem_of_getElem? (i := 0) rfl)))
  exact Go.ret0 X17 hx hlk Bd.returns (hb hby d1_27) (by decide) (by decide) (by rw [e17]; exact ⟨rfl, N17, Q23, ((((((E_o0.ext E2).wr W3).ext E8).wr W10).ext E16).wr W17), b2, b8, b16, sz_b2, sz_b8, sz_b16, ne_b2_b8, ne_b2_b16, ne_b8_b16, Q19, Q21, Fw17, Q18, ((Q13.ext E16).other W17 (Ne.symm ne_o0_b2)), Q20, (V16.other W17 (Ne.symm ne_o0_b16))⟩)
theorem d3_0 : decode prog_63_method_7_code 0 = .ok (.aload_n 0, 1) := by decide +kernel
theorem d3_1 : decode prog_63_method_7_code 1 = .ok (.getfield 7, 3) := by decide +kernel
theorem d3_4 : decode prog_63_method_7_code 4 = .ok (.iload_n 1, 1) := by decide +kernel
theorem d3_5 : decode prog_63_method_7_code 5 = .ok (.iload_n 2, 1) := by decide +kernel
theorem d3_6 : decode prog_63_method_7_code 6 = .ok (.iastore, 1) := by decide +kernel
theorem d3_7 : decode prog_63_method_7_code 7 = .ok (.aload_n 0, 1) := by decide +kernel
theorem d3_8 : decode prog_63_method_7_code 8 = .ok (.getfield 13, 3) := by decide +kernel
theorem d3_11 : decode prog_63_method_7_code 11 = .ok (.iload_n 1, 1) := by decide +kernel
theorem d3_12 : decode prog_63_method_7_code 12 = .ok (.iload_n 3, 1) := by decide +kernel
theorem d3_13 : decode prog_63_method_7_code 13 = .ok (.iastore, 1) := by decide +kernel
theorem d3_14 : decode prog_63_method_7_code 14 = .ok (.aload_n 0, 1) := by decide +kernel
theorem d3_15 : decode prog_63_method_7_code 15 = .ok (.getfield 16, 3) := by decide +kernel
theorem d3_18 : decode prog_63_method_7_code 18 = .ok (.iconst 2, 1) := by decide +kernel
theorem d3_19 : decode prog_63_method_7_code 19 = .ok (.iload_n 1, 1) := by decide +kernel
theorem d3_20 : decode prog_63_method_7_code 20 = .ok (.imul, 1) := by decide +kernel
theorem d3_21 : decode prog_63_method_7_code 21 = .ok (.dload 4, 2) := by decide +kernel
theorem d3_23 : decode prog_63_method_7_code 23 = .ok (.dastore, 1) := by decide +kernel
theorem d3_24 : decode prog_63_method_7_code 24 = .ok (.aload_n 0, 1) := by decide +kernel
theorem d3_25 : decode prog_63_method_7_code 25 = .ok (.getfield 16, 3) := by decide +kernel
theorem d3_28 : decode prog_63_method_7_code 28 = .ok (.iconst 2, 1) := by decide +kernel
theorem d3_29 : decode prog_63_method_7_code 29 = .ok (.iload_n 1, 1) := by decide +kernel
theorem d3_30 : decode prog_63_method_7_code 30 = .ok (.imul, 1) := by decide +kernel
theorem d3_31 : decode prog_63_method_7_code 31 = .ok (.iconst 1, 1) := by decide +kernel
theorem d3_32 : decode prog_63_method_7_code 32 = .ok (.iadd, 1) := by decide +kernel
theorem d3_33 : decode prog_63_method_7_code 33 = .ok (.dload 6, 2) := by decide +kernel
theorem d3_35 : decode prog_63_method_7_code 35 = .ok (.dastore, 1) := by decide +kernel
theorem d3_36 : decode prog_63_method_7_code 36 = .ok (.return_, 1) := by decide +kernel
theorem pn_3 : plainName "com/example/rhadamanthus/rhadamanthus/learn/HeldBins" = true := by first | (simp [plainName, overriddenIn]; done) | decide +kernel
theorem ef_3 (m : MethodId) (o0 : Addr) (p1 : Int32) (p2 : Int32) (p3 : Int32) (d4 : UInt64) (d5 : UInt64) : entryFrame m #[(.ref o0), (.int p1), (.int p2), (.int p3), (.double d4), (.double d5)] 8 = mkF m 0 #[.val (.ref o0), .val (.int p1), .val (.int p2), .val (.int p3), .val (.double d4), .second, .val (.double d5), .second] [] := by first | (simp [entryFrame, mkF, argsToLocals, Value.category]; done) | rfl
def QS (Z : State) (af ab ac : Addr) (nf nc : Nat) (gf gb : Nat → Int32) (gc : Nat → UInt64) (h0 : Heap) (n0 : Nat) (v : Option Value) (h : Heap) (L : List Loc) : Prop :=
  v = none ∧ Fr n0 L ∧ Keep h0 h [af, ab, ac] ∧ IA Z h af .int nf (fun k => .int (gf k)) ∧ IA Z h ab .int nf (fun k => .int (gb k)) ∧ IA Z h ac .double nc (fun k => .double (gc k))
set_option maxRecDepth 65536 in
set_option maxHeartbeats 40000000 in
theorem rm3 (l : Launch) (Z : State) (a0 : Array Value) (hw : ∀ d ∈ tables_1, d.before a0 Z = true) (ws : List Jvm.Cond) (o0 : Addr) (p1 : Int32) (p2 : Int32) (p3 : Int32) (d4 : UInt64) (d5 : UInt64) (af : Addr) (ab : Addr) (ac : Addr) (nf : Nat) (nc : Nat) (gf : Nat → Int32) (gb : Nat → Int32) (gc : Nat → UInt64) (h0 : Heap) (n0 : Nat) (Z0 : n0 ≤ h0.size) (Ff : Fld Z h0 o0 "com/example/rhadamanthus/rhadamanthus/learn/HeldBins" "features" "[I" (.ref af)) (Fb : Fld Z h0 o0 "com/example/rhadamanthus/rhadamanthus/learn/HeldBins" "bins" "[I" (.ref ab)) (Fc : Fld Z h0 o0 "com/example/rhadamanthus/rhadamanthus/learn/HeldBins" "cells" "[D" (.ref ac)) (A_f : IA Z h0 af .int nf (fun k => .int (gf k))) (A_b : IA Z h0 ab .int nf (fun k => .int (gb k))) (A_c : IA Z h0 ac .double nc (fun k => .double (gc k))) (nof : o0 ≠ af) (nob : o0 ≠ ab) (noc : o0 ≠ ac) (nfb : af ≠ ab) (nfc : af ≠ ac) (nbc : ab ≠ ac) (g_af : n0 ≤ af) (g_ab : n0 ≤ ab) (g_ac : n0 ≤ ac) (hi : ¬ (p1 < 0 ∨ nf ≤ p1.toNatClampNeg)) (hi2 : ¬ ((2 : Int32) * p1 < 0 ∨ nc ≤ ((2 : Int32) * p1).toNatClampNeg)) (hi3 : ¬ (((2 : Int32) * p1) + (1 : Int32) < 0 ∨ nc ≤ (((2 : Int32) * p1) + (1 : Int32)).toNatClampNeg)) :
    MetFree l (⟨"com/example/rhadamanthus/rhadamanthus/learn/HeldBins", "set", "(IIIDD)V"⟩ : MethodName) (head1 (Jvm.Cond.code (⟨"com/example/rhadamanthus/rhadamanthus/learn/HeldBins", "set", "(IIIDD)V"⟩ : MethodName) prog_63_method_7_code 8 none :: ws) ({ frames := 0, cells := 0, slots := 0, locals := 0 } : Room)) (fun a U => a = #[(.ref o0), (.int p1), (.int p2), (.int p3), (.double d4), (.double d5)] ∧ Z.Warmed39 U.vm ∧ U.heap = h0) (fun _ _ _ _ _ => True) (fun _ U o U' => ∃ v L, o = .returned v ∧ (QS Z af ab ac nf nc (upd gf p1.toNatClampNeg p2) (upd gb p1.toNatClampNeg p3) (upd (upd gc ((2 : Int32) * p1).toNatClampNeg d4) (((2 : Int32) * p1) + (1 : Int32)).toNatClampNeg d5) h0 n0) v U'.heap L ∧ FrameEnd U o U' L ({ frames := 0, cells := 0, slots := 0, locals := 0 } : Room).cells ({ frames := 0, cells := 0, slots := 0, locals := 0 } : Room).slots) := by
  refine MetFree.of_bodySF (plainFor_of_name pn_3) hisR ?_
  intro p e s m args below meth c s₁ Bd hml0 hP hK
  obtain ⟨rfl, hZ, hh⟩ := hP
  have hx := Bd.exec
  have hby := Bd.bytes
  have hlk : meth.locks = false := BodyLoose.notSynchronized Bd
  have hml : c.maxLocals = 8 := hml0
  have hown : s.vm.findClass "com/example/rhadamanthus/rhadamanthus/learn/HeldBins" = some m.cls := findClass_of_methodNamed Bd.named
  have hnm := (name_of_methodNamed Bd.named Bd.method).1
  have X0 : Stand p l e ({ frames := 0, cells := 0, slots := 0, locals := 0 } : Room) s m #[(.ref o0), (.int p1), (.int p2), (.int p3), (.double d4), (.double d5)] below meth c s₁ ([] : List Loc) 0 0 := Stand.of_body Bd
  have e0 : s₁.heap = h0 := by rw [← hh, Bd.state]; rfl
  show Go p e below s 0 0 (QS Z af ab ac nf nc (upd gf p1.toNatClampNeg p2) (upd gb p1.toNatClampNeg p3) (upd (upd gc ((2 : Int32) * p1).toNatClampNeg d4) (((2 : Int32) * p1) + (1 : Int32)).toNatClampNeg d5) h0 n0) s₁ (entryFrame m #[(.ref o0), (.int p1), (.int p2), (.int p3), (.double d4), (.double d5)] 8)
  rw [ef_3 m o0 p1 p2 p3 d4 d5]
  have N0 := Fr.nil n0
  refine Go.step (g' := (mkF m 1 #[.val (.ref o0), .val (.int p1), .val (.int p2), .val (.int p3), .val (.double d4), .second, .val (.double d5), .second] [(.ref o0)])) (fun _ k => XS.aloadN X0.here hx rfl (hb hby d3_0) rfl rfl  k) ?_
  obtain ⟨T1, X1, e1, st1⟩ := getF X0 hx hZ hown (host := "") (Or.inl (hw _ (List.mem_of_getElem? (i := 10) rfl))) Via.refl e0 Ff (g := (mkF m 1 #[.val (.ref o0), .val (.int p1), .val (.int p2), .val (.int p3), .val (.double d4), .second, .val (.double d5), .second] [(.ref o0)])) rfl rfl (hb hby d3_1)
  refine Go.step (g' := (mkF m 4 #[.val (.ref o0), .val (.int p1), .val (.int p2), .val (.int p3), .val (.double d4), .second, .val (.double d5), .second] [(.ref af)])) st1 ?_
  refine Go.step (g' := (mkF m 5 #[.val (.ref o0), .val (.int p1), .val (.int p2), .val (.int p3), .val (.double d4), .second, .val (.double d5), .second] [(.int p1), (.ref af)])) (fun _ k => XS.iloadN X1.here hx rfl (hb hby d3_4) rfl  k) ?_
  refine Go.step (g' := (mkF m 6 #[.val (.ref o0), .val (.int p1), .val (.int p2), .val (.int p3), .val (.double d4), .second, .val (.double d5), .second] [(.int p2), (.int p1), (.ref af)])) (fun _ k => XS.iloadN X1.here hx rfl (hb hby d3_5) rfl  k) ?_
  obtain ⟨T2, h2, lc2, X2, e2, W2, N2, V2, st2⟩ := putAI X1 hx hZ e1 A_f (j := p1) hi N0 g_af (gf := (mkF m 6 #[.val (.ref o0), .val (.int p1), .val (.int p2), .val (.int p3), .val (.double d4), .second, .val (.double d5), .second] [(.int p2), (.int p1), (.ref af)])) rfl rfl (hb hby d3_6)
  refine Go.step (g' := (mkF m 7 #[.val (.ref o0), .val (.int p1), .val (.int p2), .val (.int p3), .val (.double d4), .second, .val (.double d5), .second] [])) st2 ?_
  have Q3 := ((Keep.refl h0 [af, ab, ac]).wr W2 (Or.inl (List.mem_of_getElem? (i := 0) rfl)))
  refine Go.step (g' := (mkF m 8 #[.val (.ref o0), .val (.int p1), .val (.int p2), .val (.int p3), .val (.double d4), .second, .val (.double d5), .second] [(.ref o0)])) (fun _ k => XS.aloadN X2.here hx rfl (hb hby d3_7) rfl rfl  k) ?_
  obtain ⟨T4, X4, e4, st4⟩ := getF X2 hx hZ hown (host := "") (Or.inl (hw _ (List.mem_of_getElem? (i := 12) rfl))) Via.refl e2 (Fb.other W2 (Or.inl nof)) (g := (mkF m 8 #[.val (.ref o0), .val (.int p1), .val (.int p2), .val (.int p3), .val (.double d4), .second, .val (.double d5), .second] [(.ref o0)])) rfl rfl (hb hby d3_8)
  refine Go.step (g' := (mkF m 11 #[.val (.ref o0), .val (.int p1), .val (.int p2), .val (.int p3), .val (.double d4), .second, .val (.double d5), .second] [(.ref ab)])) st4 ?_
  refine Go.step (g' := (mkF m 12 #[.val (.ref o0), .val (.int p1), .val (.int p2), .val (.int p3), .val (.double d4), .second, .val (.double d5), .second] [(.int p1), (.ref ab)])) (fun _ k => XS.iloadN X4.here hx rfl (hb hby d3_11) rfl  k) ?_
  refine Go.step (g' := (mkF m 13 #[.val (.ref o0), .val (.int p1), .val (.int p2), .val (.int p3), .val (.double d4), .second, .val (.double d5), .second] [(.int p3), (.int p1), (.ref ab)])) (fun _ k => XS.iloadN X4.here hx rfl (hb hby d3_12) rfl  k) ?_
  obtain ⟨T5, h5, lc5, X5, e5, W5, N5, V5, st5⟩ := putAI X4 hx hZ e4 (A_b.other W2 (Ne.symm nfb)) (j := p1) hi N2 g_ab (gf := (mkF m 13 #[.val (.ref o0), .val (.int p1), .val (.int p2), .val (.int p3), .val (.double d4), .second, .val (.double d5), .second] [(.int p3), (.int p1), (.ref ab)])) rfl rfl (hb hby d3_13)
  refine Go.step (g' := (mkF m 14 #[.val (.ref o0), .val (.int p1), .val (.int p2), .val (.int p3), .val (.double d4), .second, .val (.double d5), .second] [])) st5 ?_
  have Q6 := (Nat.le_trans (Nat.le_trans Z0 (Keep.of_wr W2).1) (Keep.of_wr W5).1)
  refine Go.step (g' := (mkF m 15 #[.val (.ref o0), .val (.int p1), .val (.int p2), .val (.int p3), .val (.double d4), .second, .val (.double d5), .second] [(.ref o0)])) (fun _ k => XS.aloadN X5.here hx rfl (hb hby d3_14) rfl rfl  k) ?_
  obtain ⟨T7, X7, e7, st7⟩ := getF X5 hx hZ hown (host := "") (Or.inl (hw _ (List.mem_of_getElem? (i := 15) rfl))) Via.refl e5 ((Fc.other W2 (Or.inl nof)).other W5 (Or.inl nob)) (g := (mkF m 15 #[.val (.ref o0), .val (.int p1), .val (.int p2), .val (.int p3), .val (.double d4), .second, .val (.double d5), .second] [(.ref o0)])) rfl rfl (hb hby d3_15)
  refine Go.step (g' := (mkF m 18 #[.val (.ref o0), .val (.int p1), .val (.int p2), .val (.int p3), .val (.double d4), .second, .val (.double d5), .second] [(.ref ac)])) st7 ?_
  refine Go.step (g' := (mkF m 19 #[.val (.ref o0), .val (.int p1), .val (.int p2), .val (.int p3), .val (.double d4), .second, .val (.double d5), .second] [(.int (2 : Int32)), (.ref ac)])) (fun _ k => XS.iconst X7.here hx rfl (hb hby d3_18) k) ?_
  refine Go.step (g' := (mkF m 20 #[.val (.ref o0), .val (.int p1), .val (.int p2), .val (.int p3), .val (.double d4), .second, .val (.double d5), .second] [(.int p1), (.int (2 : Int32)), (.ref ac)])) (fun _ k => XS.iloadN X7.here hx rfl (hb hby d3_19) rfl  k) ?_
  refine Go.step (g' := (mkF m 21 #[.val (.ref o0), .val (.int p1), .val (.int p2), .val (.int p3), .val (.double d4), .second, .val (.double d5), .second] [(.int ((2 : Int32) * p1)), (.ref ac)])) (fun _ k => XS.imul X7.here hx rfl (hb hby d3_20) rfl k) ?_
  refine Go.step (g' := (mkF m 23 #[.val (.ref o0), .val (.int p1), .val (.int p2), .val (.int p3), .val (.double d4), .second, .val (.double d5), .second] [(.double d4), (.int ((2 : Int32) * p1)), (.ref ac)])) (fun _ k => XS.dload X7.here hx rfl (hb hby d3_21) rfl k) ?_
  obtain ⟨T8, h8, lc8, X8, e8, W8, N8, V8, st8⟩ := putAD X7 hx hZ e7 ((A_c.other W2 (Ne.symm nfc)).other W5 (Ne.symm nbc)) (j := ((2 : Int32) * p1)) hi2 N5 g_ac (gf := (mkF m 23 #[.val (.ref o0), .val (.int p1), .val (.int p2), .val (.int p3), .val (.double d4), .second, .val (.double d5), .second] [(.double d4), (.int ((2 : Int32) * p1)), (.ref ac)])) rfl rfl (hb hby d3_23)
  refine Go.step (g' := (mkF m 24 #[.val (.ref o0), .val (.int p1), .val (.int p2), .val (.int p3), .val (.double d4), .second, .val (.double d5), .second] [])) st8 ?_
  have Q9 := (((Ff.other W2 (Or.inl nof)).other W5 (Or.inl nob)).other W8 (Or.inl noc))
  have Q10 := (((Fb.other W2 (Or.inl nof)).other W5 (Or.inl nob)).other W8 (Or.inl noc))
  have Q11 := (((Fc.other W2 (Or.inl nof)).other W5 (Or.inl nob)).other W8 (Or.inl noc))
  have Q12 := ((Q3.wr W5 (Or.inl (List.mem_of_getElem? (i := 1) rfl))).wr W8 (Or.inl (List.mem_of_getElem? (i := 2) rfl)))
  refine Go.step (g' := (mkF m 25 #[.val (.ref o0), .val (.int p1), .val (.int p2), .val (.int p3), .val (.double d4), .second, .val (.double d5), .second] [(.ref o0)])) (fun _ k => XS.aloadN X8.here hx rfl (hb hby d3_24) rfl rfl  k) ?_
  obtain ⟨T13, X13, e13, st13⟩ := getF X8 hx hZ hown (host := "") (Or.inl (hw _ (List.mem_of_getElem? (i := 15) rfl))) Via.refl e8 Q11 (g := (mkF m 25 #[.val (.ref o0), .val (.int p1), .val (.int p2), .val (.int p3), .val (.double d4), .second, .val (.double d5), .second] [(.ref o0)])) rfl rfl (hb hby d3_25)
  refine Go.step (g' := (mkF m 28 #[.val (.ref o0), .val (.int p1), .val (.int p2), .val (.int p3), .val (.double d4), .second, .val (.double d5), .second] [(.ref ac)])) st13 ?_
  refine Go.step (g' := (mkF m 29 #[.val (.ref o0), .val (.int p1), .val (.int p2), .val (.int p3), .val (.double d4), .second, .val (.double d5), .second] [(.int (2 : Int32)), (.ref ac)])) (fun _ k => XS.iconst X13.here hx rfl (hb hby d3_28) k) ?_
  refine Go.step (g' := (mkF m 30 #[.val (.ref o0), .val (.int p1), .val (.int p2), .val (.int p3), .val (.double d4), .second, .val (.double d5), .second] [(.int p1), (.int (2 : Int32)), (.ref ac)])) (fun _ k => XS.iloadN X13.here hx rfl (hb hby d3_29) rfl  k) ?_
  refine Go.step (g' := (mkF m 31 #[.val (.ref o0), .val (.int p1), .val (.int p2), .val (.int p3), .val (.double d4), .second, .val (.double d5), .second] [(.int ((2 : Int32) * p1)), (.ref ac)])) (fun _ k => XS.imul X13.here hx rfl (hb hby d3_30) rfl k) ?_
  refine Go.step (g' := (mkF m 32 #[.val (.ref o0), .val (.int p1), .val (.int p2), .val (.int p3), .val (.double d4), .second, .val (.double d5), .second] [(.int (1 : Int32)), (.int ((2 : Int32) * p1)), (.ref ac)])) (fun _ k => XS.iconst X13.here hx rfl (hb hby d3_31) k) ?_
  refine Go.step (g' := (mkF m 33 #[.val (.ref o0), .val (.int p1), .val (.int p2), .val (.int p3), .val (.double d4), .second, .val (.double d5), .second] [(.int (((2 : Int32) * p1) + (1 : Int32))), (.ref ac)])) (fun _ k => XS.iadd X13.here hx rfl (hb hby d3_32) rfl k) ?_
  refine Go.step (g' := (mkF m 35 #[.val (.ref o0), .val (.int p1), .val (.int p2), .val (.int p3), .val (.double d4), .second, .val (.double d5), .second] [(.double d5), (.int (((2 : Int32) * p1) + (1 : Int32))), (.ref ac)])) (fun _ k => XS.dload X13.here hx rfl (hb hby d3_33) rfl k) ?_
  obtain ⟨T14, h14, lc14, X14, e14, W14, N14, V14, st14⟩ := putAD X13 hx hZ e13 V8 (j := (((2 : Int32) * p1) + (1 : Int32))) hi3 N8 g_ac (gf := (mkF m 35 #[.val (.ref o0), .val (.int p1), .val (.int p2), .val (.int p3), .val (.double d4), .second, .val (.double d5), .second] [(.double d5), (.int (((2 : Int32) * p1) + (1 : Int32))), (.ref ac)])) rfl rfl (hb hby d3_35)
  refine Go.step (g' := (mkF m 36 #[.val (.ref o0), .val (.int p1), .val (.int p2), .val (.int p3), .val (.double d4), .second, .val (.double d5), .second] [])) st14 ?_
  have Q15 := (Nat.le_trans (Nat.le_trans Q6 (Keep.of_wr W8).1) (Keep.of_wr W14).1)
  exact Go.ret0 X14 hx hlk Bd.returns (hb hby d3_36) (by decide) (by decide) (by rw [e14]; exact ⟨rfl, N14, (Q12.wr W14 (Or.inl (List.mem_of_getElem? (i := 2) rfl))), (((V2.other W5 nfb).other W8 nfc).other W14 nfc), ((V5.other W8 nbc).other W14 nbc), V14⟩)
theorem d4_0 : decode prog_63_method_4_code 0 = .ok (.aload_n 0, 1) := by decide +kernel
theorem d4_1 : decode prog_63_method_4_code 1 = .ok (.getfield 7, 3) := by decide +kernel
theorem d4_4 : decode prog_63_method_4_code 4 = .ok (.areturn, 1) := by decide +kernel
theorem pn_4 : plainName "com/example/rhadamanthus/rhadamanthus/learn/HeldBins" = true := by first | (simp [plainName, overriddenIn]; done) | decide +kernel
theorem ef_4 (m : MethodId) (o0 : Addr) : entryFrame m #[(.ref o0)] 1 = mkF m 0 #[.val (.ref o0)] [] := by first | (simp [entryFrame, mkF, argsToLocals, Value.category]; done) | rfl
def f4_0 (x : Addr) : Addr := x
set_option maxRecDepth 65536 in
set_option maxHeartbeats 40000000 in
theorem rm4 (l : Launch) (Z : State) (a0 : Array Value) (hw : ∀ d ∈ tables_1, d.before a0 Z = true) (ws : List Jvm.Cond) (o0 : Addr) (x : Addr) (h0 : Heap) (Fx : Fld Z h0 o0 "com/example/rhadamanthus/rhadamanthus/learn/HeldBins" "features" "[I" (.ref x)) :
    MetFree l (⟨"com/example/rhadamanthus/rhadamanthus/learn/HeldBins", "features", "()[I"⟩ : MethodName) (head1 (Jvm.Cond.code (⟨"com/example/rhadamanthus/rhadamanthus/learn/HeldBins", "features", "()[I"⟩ : MethodName) prog_63_method_4_code 1 (some (.array .int)) :: ws) ({ frames := 0, cells := 0, slots := 0, locals := 0 } : Room)) (fun a U => a = #[(.ref o0)] ∧ Z.Warmed39 U.vm ∧ U.heap = h0) (fun _ _ _ _ _ => True) (fun _ U o U' => ∃ v L, o = .returned v ∧ (PureQ (.ref (f4_0 x)) h0) v U'.heap L ∧ FrameEnd U o U' L ({ frames := 0, cells := 0, slots := 0, locals := 0 } : Room).cells ({ frames := 0, cells := 0, slots := 0, locals := 0 } : Room).slots) := by
  refine MetFree.of_bodySF (plainFor_of_name pn_4) hisR ?_
  intro p e s m args below meth c s₁ Bd hml0 hP hK
  obtain ⟨rfl, hZ, hh⟩ := hP
  have hx := Bd.exec
  have hby := Bd.bytes
  have hlk : meth.locks = false := BodyLoose.notSynchronized Bd
  have hml : c.maxLocals = 1 := hml0
  have hown : s.vm.findClass "com/example/rhadamanthus/rhadamanthus/learn/HeldBins" = some m.cls := findClass_of_methodNamed Bd.named
  have hnm := (name_of_methodNamed Bd.named Bd.method).1
  have X0 : Stand p l e ({ frames := 0, cells := 0, slots := 0, locals := 0 } : Room) s m #[(.ref o0)] below meth c s₁ ([] : List Loc) 0 0 := Stand.of_body Bd
  have e0 : s₁.heap = h0 := by rw [← hh, Bd.state]; rfl
  show Go p e below s 0 0 (PureQ (.ref (f4_0 x)) h0) s₁ (entryFrame m #[(.ref o0)] 1)
  rw [ef_4 m o0]
  refine Go.step (g' := (mkF m 1 #[.val (.ref o0)] [(.ref o0)])) (fun _ k => XS.aloadN X0.here hx rfl (hb hby d4_0) rfl rfl  k) ?_
  obtain ⟨T1, X1, e1, st1⟩ := getF X0 hx hZ hown (host := "") (Or.inl (hw _ (List.mem_of_getElem? (i := 10) rfl))) Via.refl e0 Fx (g := (mkF m 1 #[.val (.ref o0)] [(.ref o0)])) rfl rfl (hb hby d4_1)
  refine Go.step (g' := (mkF m 4 #[.val (.ref o0)] [(.ref x)])) st1 ?_
  exact Go.retW X1 hx hlk (t := (.array .int)) Bd.returns rfl (Or.inr (Or.inr (Or.inr (Or.inr ⟨rfl, rfl, rfl⟩)))) (hb hby d4_4) (by decide) (by decide) ⟨rfl, rfl, e1⟩
theorem d5_0 : decode prog_63_method_5_code 0 = .ok (.aload_n 0, 1) := by decide +kernel
theorem d5_1 : decode prog_63_method_5_code 1 = .ok (.getfield 13, 3) := by decide +kernel
theorem d5_4 : decode prog_63_method_5_code 4 = .ok (.areturn, 1) := by decide +kernel
theorem pn_5 : plainName "com/example/rhadamanthus/rhadamanthus/learn/HeldBins" = true := by first | (simp [plainName, overriddenIn]; done) | decide +kernel
theorem ef_5 (m : MethodId) (o0 : Addr) : entryFrame m #[(.ref o0)] 1 = mkF m 0 #[.val (.ref o0)] [] := by first | (simp [entryFrame, mkF, argsToLocals, Value.category]; done) | rfl
def f5_0 (x : Addr) : Addr := x
set_option maxRecDepth 65536 in
set_option maxHeartbeats 40000000 in
theorem rm5 (l : Launch) (Z : State) (a0 : Array Value) (hw : ∀ d ∈ tables_1, d.before a0 Z = true) (ws : List Jvm.Cond) (o0 : Addr) (x : Addr) (h0 : Heap) (Fx : Fld Z h0 o0 "com/example/rhadamanthus/rhadamanthus/learn/HeldBins" "bins" "[I" (.ref x)) :
    MetFree l (⟨"com/example/rhadamanthus/rhadamanthus/learn/HeldBins", "bins", "()[I"⟩ : MethodName) (head1 (Jvm.Cond.code (⟨"com/example/rhadamanthus/rhadamanthus/learn/HeldBins", "bins", "()[I"⟩ : MethodName) prog_63_method_5_code 1 (some (.array .int)) :: ws) ({ frames := 0, cells := 0, slots := 0, locals := 0 } : Room)) (fun a U => a = #[(.ref o0)] ∧ Z.Warmed39 U.vm ∧ U.heap = h0) (fun _ _ _ _ _ => True) (fun _ U o U' => ∃ v L, o = .returned v ∧ (PureQ (.ref (f5_0 x)) h0) v U'.heap L ∧ FrameEnd U o U' L ({ frames := 0, cells := 0, slots := 0, locals := 0 } : Room).cells ({ frames := 0, cells := 0, slots := 0, locals := 0 } : Room).slots) := by
  refine MetFree.of_bodySF (plainFor_of_name pn_5) hisR ?_
  intro p e s m args below meth c s₁ Bd hml0 hP hK
  obtain ⟨rfl, hZ, hh⟩ := hP
  have hx := Bd.exec
  have hby := Bd.bytes
  have hlk : meth.locks = false := BodyLoose.notSynchronized Bd
  have hml : c.maxLocals = 1 := hml0
  have hown : s.vm.findClass "com/example/rhadamanthus/rhadamanthus/learn/HeldBins" = some m.cls := findClass_of_methodNamed Bd.named
  have hnm := (name_of_methodNamed Bd.named Bd.method).1
  have X0 : Stand p l e ({ frames := 0, cells := 0, slots := 0, locals := 0 } : Room) s m #[(.ref o0)] below meth c s₁ ([] : List Loc) 0 0 := Stand.of_body Bd
  have e0 : s₁.heap = h0 := by rw [← hh, Bd.state]; rfl
  show Go p e below s 0 0 (PureQ (.ref (f5_0 x)) h0) s₁ (entryFrame m #[(.ref o0)] 1)
  rw [ef_5 m o0]
  refine Go.step (g' := (mkF m 1 #[.val (.ref o0)] [(.ref o0)])) (fun _ k => XS.aloadN X0.here hx rfl (hb hby d5_0) rfl rfl  k) ?_
  obtain ⟨T1, X1, e1, st1⟩ := getF X0 hx hZ hown (host := "") (Or.inl (hw _ (List.mem_of_getElem? (i := 12) rfl))) Via.refl e0 Fx (g := (mkF m 1 #[.val (.ref o0)] [(.ref o0)])) rfl rfl (hb hby d5_1)
  refine Go.step (g' := (mkF m 4 #[.val (.ref o0)] [(.ref x)])) st1 ?_
  exact Go.retW X1 hx hlk (t := (.array .int)) Bd.returns rfl (Or.inr (Or.inr (Or.inr (Or.inr ⟨rfl, rfl, rfl⟩)))) (hb hby d5_4) (by decide) (by decide) ⟨rfl, rfl, e1⟩
theorem d6_0 : decode prog_63_method_6_code 0 = .ok (.aload_n 0, 1) := by decide +kernel
theorem d6_1 : decode prog_63_method_6_code 1 = .ok (.getfield 16, 3) := by decide +kernel
theorem d6_4 : decode prog_63_method_6_code 4 = .ok (.areturn, 1) := by decide +kernel
theorem pn_6 : plainName "com/example/rhadamanthus/rhadamanthus/learn/HeldBins" = true := by first | (simp [plainName, overriddenIn]; done) | decide +kernel
theorem ef_6 (m : MethodId) (o0 : Addr) : entryFrame m #[(.ref o0)] 1 = mkF m 0 #[.val (.ref o0)] [] := by first | (simp [entryFrame, mkF, argsToLocals, Value.category]; done) | rfl
def f6_0 (x : Addr) : Addr := x
set_option maxRecDepth 65536 in
set_option maxHeartbeats 40000000 in
theorem rm6 (l : Launch) (Z : State) (a0 : Array Value) (hw : ∀ d ∈ tables_1, d.before a0 Z = true) (ws : List Jvm.Cond) (o0 : Addr) (x : Addr) (h0 : Heap) (Fx : Fld Z h0 o0 "com/example/rhadamanthus/rhadamanthus/learn/HeldBins" "cells" "[D" (.ref x)) :
    MetFree l (⟨"com/example/rhadamanthus/rhadamanthus/learn/HeldBins", "cells", "()[D"⟩ : MethodName) (head1 (Jvm.Cond.code (⟨"com/example/rhadamanthus/rhadamanthus/learn/HeldBins", "cells", "()[D"⟩ : MethodName) prog_63_method_6_code 1 (some (.array .double)) :: ws) ({ frames := 0, cells := 0, slots := 0, locals := 0 } : Room)) (fun a U => a = #[(.ref o0)] ∧ Z.Warmed39 U.vm ∧ U.heap = h0) (fun _ _ _ _ _ => True) (fun _ U o U' => ∃ v L, o = .returned v ∧ (PureQ (.ref (f6_0 x)) h0) v U'.heap L ∧ FrameEnd U o U' L ({ frames := 0, cells := 0, slots := 0, locals := 0 } : Room).cells ({ frames := 0, cells := 0, slots := 0, locals := 0 } : Room).slots) := by
  refine MetFree.of_bodySF (plainFor_of_name pn_6) hisR ?_
  intro p e s m args below meth c s₁ Bd hml0 hP hK
  obtain ⟨rfl, hZ, hh⟩ := hP
  have hx := Bd.exec
  have hby := Bd.bytes
  have hlk : meth.locks = false := BodyLoose.notSynchronized Bd
  have hml : c.maxLocals = 1 := hml0
  have hown : s.vm.findClass "com/example/rhadamanthus/rhadamanthus/learn/HeldBins" = some m.cls := findClass_of_methodNamed Bd.named
  have hnm := (name_of_methodNamed Bd.named Bd.method).1
  have X0 : Stand p l e ({ frames := 0, cells := 0, slots := 0, locals := 0 } : Room) s m #[(.ref o0)] below meth c s₁ ([] : List Loc) 0 0 := Stand.of_body Bd
  have e0 : s₁.heap = h0 := by rw [← hh, Bd.state]; rfl
  show Go p e below s 0 0 (PureQ (.ref (f6_0 x)) h0) s₁ (entryFrame m #[(.ref o0)] 1)
  rw [ef_6 m o0]
  refine Go.step (g' := (mkF m 1 #[.val (.ref o0)] [(.ref o0)])) (fun _ k => XS.aloadN X0.here hx rfl (hb hby d6_0) rfl rfl  k) ?_
  obtain ⟨T1, X1, e1, st1⟩ := getF X0 hx hZ hown (host := "") (Or.inl (hw _ (List.mem_of_getElem? (i := 15) rfl))) Via.refl e0 Fx (g := (mkF m 1 #[.val (.ref o0)] [(.ref o0)])) rfl rfl (hb hby d6_1)
  refine Go.step (g' := (mkF m 4 #[.val (.ref o0)] [(.ref x)])) st1 ?_
  exact Go.retW X1 hx hlk (t := (.array .double)) Bd.returns rfl (Or.inr (Or.inr (Or.inr (Or.inr ⟨rfl, rfl, rfl⟩)))) (hb hby d6_4) (by decide) (by decide) ⟨rfl, rfl, e1⟩
theorem d7_0 : decode prog_63_method_2_code 0 = .ok (.aload_n 0, 1) := by decide +kernel
theorem d7_1 : decode prog_63_method_2_code 1 = .ok (.getfield 20, 3) := by decide +kernel
theorem d7_4 : decode prog_63_method_2_code 4 = .ok (.ireturn, 1) := by decide +kernel
theorem pn_7 : plainName "com/example/rhadamanthus/rhadamanthus/learn/HeldBins" = true := by first | (simp [plainName, overriddenIn]; done) | decide +kernel
theorem ef_7 (m : MethodId) (o0 : Addr) : entryFrame m #[(.ref o0)] 1 = mkF m 0 #[.val (.ref o0)] [] := by first | (simp [entryFrame, mkF, argsToLocals, Value.category]; done) | rfl
def f7_0 (x : Int32) : Int32 := x
set_option maxRecDepth 65536 in
set_option maxHeartbeats 40000000 in
theorem rm7 (l : Launch) (Z : State) (a0 : Array Value) (hw : ∀ d ∈ tables_1, d.before a0 Z = true) (ws : List Jvm.Cond) (o0 : Addr) (x : Int32) (h0 : Heap) (Fx : Fld Z h0 o0 "com/example/rhadamanthus/rhadamanthus/learn/HeldBins" "size" "I" (.int x)) :
    MetFree l (⟨"com/example/rhadamanthus/rhadamanthus/learn/HeldBins", "size", "()I"⟩ : MethodName) (head1 (Jvm.Cond.code (⟨"com/example/rhadamanthus/rhadamanthus/learn/HeldBins", "size", "()I"⟩ : MethodName) prog_63_method_2_code 1 (some .int) :: ws) ({ frames := 0, cells := 0, slots := 0, locals := 0 } : Room)) (fun a U => a = #[(.ref o0)] ∧ Z.Warmed39 U.vm ∧ U.heap = h0) (fun _ _ _ _ _ => True) (fun _ U o U' => ∃ v L, o = .returned v ∧ (PureQ (.int (f7_0 x)) h0) v U'.heap L ∧ FrameEnd U o U' L ({ frames := 0, cells := 0, slots := 0, locals := 0 } : Room).cells ({ frames := 0, cells := 0, slots := 0, locals := 0 } : Room).slots) := by
  refine MetFree.of_bodySF (plainFor_of_name pn_7) hisR ?_
  intro p e s m args below meth c s₁ Bd hml0 hP hK
  obtain ⟨rfl, hZ, hh⟩ := hP
  have hx := Bd.exec
  have hby := Bd.bytes
  have hlk : meth.locks = false := BodyLoose.notSynchronized Bd
  have hml : c.maxLocals = 1 := hml0
  have hown : s.vm.findClass "com/example/rhadamanthus/rhadamanthus/learn/HeldBins" = some m.cls := findClass_of_methodNamed Bd.named
  have hnm := (name_of_methodNamed Bd.named Bd.method).1
  have X0 : Stand p l e ({ frames := 0, cells := 0, slots := 0, locals := 0 } : Room) s m #[(.ref o0)] below meth c s₁ ([] : List Loc) 0 0 := Stand.of_body Bd
  have e0 : s₁.heap = h0 := by rw [← hh, Bd.state]; rfl
  show Go p e below s 0 0 (PureQ (.int (f7_0 x)) h0) s₁ (entryFrame m #[(.ref o0)] 1)
  rw [ef_7 m o0]
  refine Go.step (g' := (mkF m 1 #[.val (.ref o0)] [(.ref o0)])) (fun _ k => XS.aloadN X0.here hx rfl (hb hby d7_0) rfl rfl  k) ?_
  obtain ⟨T1, X1, e1, st1⟩ := getF X0 hx hZ hown (host := "") (Or.inl (hw _ (List.mem_of_getElem? (i := 42) rfl))) Via.refl e0 Fx (g := (mkF m 1 #[.val (.ref o0)] [(.ref o0)])) rfl rfl (hb hby d7_1)
  refine Go.step (g' := (mkF m 4 #[.val (.ref o0)] [(.int x)])) st1 ?_
  exact Go.retW X1 hx hlk (t := .int) Bd.returns rfl (Or.inl ⟨rfl, Or.inl rfl, _, rfl⟩) (hb hby d7_4) (by decide) (by decide) ⟨rfl, rfl, e1⟩
theorem d8_0 : decode prog_63_method_3_code 0 = .ok (.aload_n 0, 1) := by decide +kernel
theorem d8_1 : decode prog_63_method_3_code 1 = .ok (.getfield 7, 3) := by decide +kernel
theorem d8_4 : decode prog_63_method_3_code 4 = .ok (.arraylength, 1) := by decide +kernel
theorem d8_5 : decode prog_63_method_3_code 5 = .ok (.ireturn, 1) := by decide +kernel
theorem pn_8 : plainName "com/example/rhadamanthus/rhadamanthus/learn/HeldBins" = true := by first | (simp [plainName, overriddenIn]; done) | decide +kernel
theorem ef_8 (m : MethodId) (o0 : Addr) : entryFrame m #[(.ref o0)] 1 = mkF m 0 #[.val (.ref o0)] [] := by first | (simp [entryFrame, mkF, argsToLocals, Value.category]; done) | rfl
def f8_0 (cap : Int32) : Int32 := cap
set_option maxRecDepth 65536 in
set_option maxHeartbeats 40000000 in
theorem rm8 (l : Launch) (Z : State) (a0 : Array Value) (hw : ∀ d ∈ tables_1, d.before a0 Z = true) (ws : List Jvm.Cond) (o0 : Addr) (x : Addr) (nf : Nat) (cap : Int32) (g : Nat → Int32) (h0 : Heap) (Fx : Fld Z h0 o0 "com/example/rhadamanthus/rhadamanthus/learn/HeldBins" "features" "[I" (.ref x)) (A_f : IA Z h0 x .int nf (fun k => .int (g k))) (hn : nf.toInt32 = cap) :
    MetFree l (⟨"com/example/rhadamanthus/rhadamanthus/learn/HeldBins", "capacity", "()I"⟩ : MethodName) (head1 (Jvm.Cond.code (⟨"com/example/rhadamanthus/rhadamanthus/learn/HeldBins", "capacity", "()I"⟩ : MethodName) prog_63_method_3_code 1 (some .int) :: ws) ({ frames := 0, cells := 0, slots := 0, locals := 0 } : Room)) (fun a U => a = #[(.ref o0)] ∧ Z.Warmed39 U.vm ∧ U.heap = h0) (fun _ _ _ _ _ => True) (fun _ U o U' => ∃ v L, o = .returned v ∧ (PureQ (.int (f8_0 cap)) h0) v U'.heap L ∧ FrameEnd U o U' L ({ frames := 0, cells := 0, slots := 0, locals := 0 } : Room).cells ({ frames := 0, cells := 0, slots := 0, locals := 0 } : Room).slots) := by
  refine MetFree.of_bodySF (plainFor_of_name pn_8) hisR ?_
  intro p e s m args below meth c s₁ Bd hml0 hP hK
  obtain ⟨rfl, hZ, hh⟩ := hP
  have hx := Bd.exec
  have hby := Bd.bytes
  have hlk : meth.locks = false := BodyLoose.notSynchronized Bd
  have hml : c.maxLocals = 1 := hml0
  have hown : s.vm.findClass "com/example/rhadamanthus/rhadamanthus/learn/HeldBins" = some m.cls := findClass_of_methodNamed Bd.named
  have hnm := (name_of_methodNamed Bd.named Bd.method).1
  have X0 : Stand p l e ({ frames := 0, cells := 0, slots := 0, locals := 0 } : Room) s m #[(.ref o0)] below meth c s₁ ([] : List Loc) 0 0 := Stand.of_body Bd
  have e0 : s₁.heap = h0 := by rw [← hh, Bd.state]; rfl
  show Go p e below s 0 0 (PureQ (.int (f8_0 cap)) h0) s₁ (entryFrame m #[(.ref o0)] 1)
  rw [ef_8 m o0]
  refine Go.step (g' := (mkF m 1 #[.val (.ref o0)] [(.ref o0)])) (fun _ k => XS.aloadN X0.here hx rfl (hb hby d8_0) rfl rfl  k) ?_
  obtain ⟨T1, X1, e1, st1⟩ := getF X0 hx hZ hown (host := "") (Or.inl (hw _ (List.mem_of_getElem? (i := 10) rfl))) Via.refl e0 Fx (g := (mkF m 1 #[.val (.ref o0)] [(.ref o0)])) rfl rfl (hb hby d8_1)
  refine Go.step (g' := (mkF m 4 #[.val (.ref o0)] [(.ref x)])) st1 ?_
  refine Go.step (g' := (mkF m 5 #[.val (.ref o0)] [(.int cap)])) (fun _ k => getLen X1 hx hZ e1 A_f hn (gf := (mkF m 4 #[.val (.ref o0)] [(.ref x)])) rfl rfl (hb hby d8_4) k) ?_
  exact Go.retW X1 hx hlk (t := .int) Bd.returns rfl (Or.inl ⟨rfl, Or.inl rfl, _, rfl⟩) (hb hby d8_5) (by decide) (by decide) ⟨rfl, rfl, e1⟩
theorem d9_0 : decode method_2_code 0 = .ok (.iload_n 3, 1) := by decide +kernel
theorem d9_1 : decode method_2_code 1 = .ok (.iload 6, 2) := by decide +kernel
theorem d9_3 : decode method_2_code 3 = .ok (.if_icmp .ge 15, 3) := by decide +kernel
theorem d9_6 : decode method_2_code 6 = .ok (.iload_n 3, 1) := by decide +kernel
theorem d9_7 : decode method_2_code 7 = .ok (.iload 4, 2) := by decide +kernel
theorem d9_9 : decode method_2_code 9 = .ok (.if_icmp .eq 9, 3) := by decide +kernel
theorem d9_12 : decode method_2_code 12 = .ok (.iload_n 3, 1) := by decide +kernel
theorem d9_13 : decode method_2_code 13 = .ok (.iload 5, 2) := by decide +kernel
theorem d9_15 : decode method_2_code 15 = .ok (.if_icmp .ne 5, 3) := by decide +kernel
theorem d9_18 : decode method_2_code 18 = .ok (.iconst 1, 1) := by decide +kernel
theorem d9_19 : decode method_2_code 19 = .ok (.ireturn, 1) := by decide +kernel
theorem d9_20 : decode method_2_code 20 = .ok (.aload_n 0, 1) := by decide +kernel
theorem d9_21 : decode method_2_code 21 = .ok (.iload_n 3, 1) := by decide +kernel
theorem d9_22 : decode method_2_code 22 = .ok (.iaload, 1) := by decide +kernel
theorem d9_23 : decode method_2_code 23 = .ok (.ifCond .ne 35, 3) := by decide +kernel
theorem d9_26 : decode method_2_code 26 = .ok (.aload_n 1, 1) := by decide +kernel
theorem d9_27 : decode method_2_code 27 = .ok (.iload_n 3, 1) := by decide +kernel
theorem d9_28 : decode method_2_code 28 = .ok (.iaload, 1) := by decide +kernel
theorem d9_29 : decode method_2_code 29 = .ok (.ifCond .ne 29, 3) := by decide +kernel
theorem d9_32 : decode method_2_code 32 = .ok (.aload_n 2, 1) := by decide +kernel
theorem d9_33 : decode method_2_code 33 = .ok (.iconst 2, 1) := by decide +kernel
theorem d9_34 : decode method_2_code 34 = .ok (.iload_n 3, 1) := by decide +kernel
theorem d9_35 : decode method_2_code 35 = .ok (.imul, 1) := by decide +kernel
theorem d9_36 : decode method_2_code 36 = .ok (.daload, 1) := by decide +kernel
theorem d9_37 : decode method_2_code 37 = .ok (.dconst 0, 1) := by decide +kernel
theorem d9_38 : decode method_2_code 38 = .ok (.dcmp .l, 1) := by decide +kernel
theorem d9_39 : decode method_2_code 39 = .ok (.ifCond .ne 19, 3) := by decide +kernel
theorem d9_42 : decode method_2_code 42 = .ok (.aload_n 2, 1) := by decide +kernel
theorem d9_43 : decode method_2_code 43 = .ok (.iconst 2, 1) := by decide +kernel
theorem d9_44 : decode method_2_code 44 = .ok (.iload_n 3, 1) := by decide +kernel
theorem d9_45 : decode method_2_code 45 = .ok (.imul, 1) := by decide +kernel
theorem d9_46 : decode method_2_code 46 = .ok (.iconst 1, 1) := by decide +kernel
theorem d9_47 : decode method_2_code 47 = .ok (.iadd, 1) := by decide +kernel
theorem d9_48 : decode method_2_code 48 = .ok (.daload, 1) := by decide +kernel
theorem d9_49 : decode method_2_code 49 = .ok (.dconst 0, 1) := by decide +kernel
theorem d9_50 : decode method_2_code 50 = .ok (.dcmp .l, 1) := by decide +kernel
theorem d9_51 : decode method_2_code 51 = .ok (.ifCond .ne 7, 3) := by decide +kernel
theorem d9_54 : decode method_2_code 54 = .ok (.iconst 1, 1) := by decide +kernel
theorem d9_55 : decode method_2_code 55 = .ok (.goto 4, 3) := by decide +kernel
theorem d9_58 : decode method_2_code 58 = .ok (.iconst 0, 1) := by decide +kernel
theorem d9_59 : decode method_2_code 59 = .ok (.ireturn, 1) := by decide +kernel
theorem pn_9 : plainName "com/example/rhadamanthus/rhadamanthus/learn/HeldBinsSetPinLaw" = true := by first | (simp [plainName, overriddenIn]; done) | decide +kernel
theorem ef_9 (m : MethodId) (o0 : Addr) (o1 : Addr) (o2 : Addr) (p3 : Int32) (p4 : Int32) (p5 : Int32) (p6 : Int32) : entryFrame m #[(.ref o0), (.ref o1), (.ref o2), (.int p3), (.int p4), (.int p5), (.int p6)] 7 = mkF m 0 #[.val (.ref o0), .val (.ref o1), .val (.ref o2), .val (.int p3), .val (.int p4), .val (.int p5), .val (.int p6)] [] := by first | (simp [entryFrame, mkF, argsToLocals, Value.category]; done) | rfl
def f9_18 : Int32 := (nar .boolean (1 : Int32))
def f9_59 (v59_s0 : Int32) : Int32 := (nar .boolean v59_s0)
def f9_58 : Int32 := (f9_59 (0 : Int32))
def f9_54 : Int32 := (f9_59 (1 : Int32))
def f9_42 (p3 : Int32) (gc : Nat → UInt64) : Int32 := if (cmpValue (FP.dcmp (gc (((2 : Int32) * p3) + (1 : Int32)).toNatClampNeg) (0 : UInt64)) .l) = (0 : Int32) then f9_54 else f9_58
def f9_32 (p3 : Int32) (gc : Nat → UInt64) : Int32 := if (cmpValue (FP.dcmp (gc ((2 : Int32) * p3).toNatClampNeg) (0 : UInt64)) .l) = (0 : Int32) then (f9_42 p3 gc) else f9_58
def f9_26 (p3 : Int32) (gb : Nat → Int32) (gc : Nat → UInt64) : Int32 := if (gb p3.toNatClampNeg) = (0 : Int32) then (f9_32 p3 gc) else f9_58
def f9_20 (p3 : Int32) (gf : Nat → Int32) (gb : Nat → Int32) (gc : Nat → UInt64) : Int32 := if (gf p3.toNatClampNeg) = (0 : Int32) then (f9_26 p3 gb gc) else f9_58
def f9_12 (p3 : Int32) (p5 : Int32) (gf : Nat → Int32) (gb : Nat → Int32) (gc : Nat → UInt64) : Int32 := if p3 = p5 then f9_18 else (f9_20 p3 gf gb gc)
def f9_6 (p3 : Int32) (p4 : Int32) (p5 : Int32) (gf : Nat → Int32) (gb : Nat → Int32) (gc : Nat → UInt64) : Int32 := if p3 = p4 then f9_18 else (f9_12 p3 p5 gf gb gc)
def f9_0 (p3 : Int32) (p4 : Int32) (p5 : Int32) (p6 : Int32) (gf : Nat → Int32) (gb : Nat → Int32) (gc : Nat → UInt64) : Int32 := if p3 < p6 then (f9_6 p3 p4 p5 gf gb gc) else f9_18
set_option maxRecDepth 65536 in
set_option maxHeartbeats 40000000 in
theorem rm9 (l : Launch) (Z : State) (a0 : Array Value) (hw : ∀ d ∈ tables_1, d.before a0 Z = true) (ws : List Jvm.Cond) (o0 : Addr) (o1 : Addr) (o2 : Addr) (p3 : Int32) (p4 : Int32) (p5 : Int32) (p6 : Int32) (nf : Nat) (nc : Nat) (gf : Nat → Int32) (gb : Nat → Int32) (gc : Nat → UInt64) (h0 : Heap) (A_f : IA Z h0 o0 .int nf (fun k => .int (gf k))) (A_b : IA Z h0 o1 .int nf (fun k => .int (gb k))) (A_c : IA Z h0 o2 .double nc (fun k => .double (gc k))) (hi : p3 < p6 → ¬ (p3 < 0 ∨ nf ≤ p3.toNatClampNeg)) (hi2 : p3 < p6 → ¬ ((2 : Int32) * p3 < 0 ∨ nc ≤ ((2 : Int32) * p3).toNatClampNeg)) (hi3 : p3 < p6 → ¬ (((2 : Int32) * p3) + (1 : Int32) < 0 ∨ nc ≤ (((2 : Int32) * p3) + (1 : Int32)).toNatClampNeg)) :
    MetFree l (⟨"com/example/rhadamanthus/rhadamanthus/learn/HeldBinsSetPinLaw", "untouched", "([I[I[DIIII)Z"⟩ : MethodName) (head1 (Jvm.Cond.code (⟨"com/example/rhadamanthus/rhadamanthus/learn/HeldBinsSetPinLaw", "untouched", "([I[I[DIIII)Z"⟩ : MethodName) method_2_code 7 (some .boolean) :: ws) ({ frames := 0, cells := 0, slots := 0, locals := 0 } : Room)) (fun a U => a = #[(.ref o0), (.ref o1), (.ref o2), (.int p3), (.int p4), (.int p5), (.int p6)] ∧ Z.Warmed39 U.vm ∧ U.heap = h0) (fun _ _ _ _ _ => True) (fun _ U o U' => ∃ v L, o = .returned v ∧ (PureQ (.int (f9_0 p3 p4 p5 p6 gf gb gc)) h0) v U'.heap L ∧ FrameEnd U o U' L ({ frames := 0, cells := 0, slots := 0, locals := 0 } : Room).cells ({ frames := 0, cells := 0, slots := 0, locals := 0 } : Room).slots) := by
  refine MetFree.of_bodySF (plainFor_of_name pn_9) hisR ?_
  intro p e s m args below meth c s₁ Bd hml0 hP hK
  obtain ⟨rfl, hZ, hh⟩ := hP
  have hx := Bd.exec
  have hby := Bd.bytes
  have hlk : meth.locks = false := BodyLoose.notSynchronized Bd
  have hml : c.maxLocals = 7 := hml0
  have hown : s.vm.findClass "com/example/rhadamanthus/rhadamanthus/learn/HeldBinsSetPinLaw" = some m.cls := findClass_of_methodNamed Bd.named
  have hnm := (name_of_methodNamed Bd.named Bd.method).1
  have X0 : Stand p l e ({ frames := 0, cells := 0, slots := 0, locals := 0 } : Room) s m #[(.ref o0), (.ref o1), (.ref o2), (.int p3), (.int p4), (.int p5), (.int p6)] below meth c s₁ ([] : List Loc) 0 0 := Stand.of_body Bd
  have e0 : s₁.heap = h0 := by rw [← hh, Bd.state]; rfl
  show Go p e below s 0 0 (PureQ (.int (f9_0 p3 p4 p5 p6 gf gb gc)) h0) s₁ (entryFrame m #[(.ref o0), (.ref o1), (.ref o2), (.int p3), (.int p4), (.int p5), (.int p6)] 7)
  rw [ef_9 m o0 o1 o2 p3 p4 p5 p6]
  refine Go.step (g' := (mkF m 1 #[.val (.ref o0), .val (.ref o1), .val (.ref o2), .val (.int p3), .val (.int p4), .val (.int p5), .val (.int p6)] [(.int p3)])) (fun _ k => XS.iloadN X0.here hx rfl (hb hby d9_0) rfl  k) ?_
  refine Go.step (g' := (mkF m 3 #[.val (.ref o0), .val (.ref o1), .val (.ref o2), .val (.int p3), .val (.int p4), .val (.int p5), .val (.int p6)] [(.int p6), (.int p3)])) (fun _ k => XS.iload X0.here hx rfl (hb hby d9_1) rfl  k) ?_
  have t18 : Go p e below s 0 0 (PureQ (.int f9_18) h0) s₁ (mkF m 18 #[.val (.ref o0), .val (.ref o1), .val (.ref o2), .val (.int p3), .val (.int p4), .val (.int p5), .val (.int p6)] []) := by
    refine Go.step (g' := (mkF m 19 #[.val (.ref o0), .val (.ref o1), .val (.ref o2), .val (.int p3), .val (.int p4), .val (.int p5), .val (.int p6)] [(.int (1 : Int32))])) (fun _ k => XS.iconst X0.here hx rfl (hb hby d9_18) k) ?_
    exact Go.retN X0 hx hlk (t := .boolean) Bd.returns (by simp) (hb hby d9_19) (by decide) (by decide) ⟨rfl, rfl, e0⟩
  by_cases hc3 : p3 < p6
  · rw [show (f9_0 p3 p4 p5 p6 gf gb gc) = (f9_6 p3 p4 p5 gf gb gc) from if_pos hc3]
    refine Go.step (g' := (mkF m 6 #[.val (.ref o0), .val (.ref o1), .val (.ref o2), .val (.int p3), .val (.int p4), .val (.int p5), .val (.int p6)] [])) (fun _ k => XS.icmpNo X0.here hx rfl (hb hby d9_3) rfl (tlt hc3).2.1 k) ?_
    refine Go.step (g' := (mkF m 7 #[.val (.ref o0), .val (.ref o1), .val (.ref o2), .val (.int p3), .val (.int p4), .val (.int p5), .val (.int p6)] [(.int p3)])) (fun _ k => XS.iloadN X0.here hx rfl (hb hby d9_6) rfl  k) ?_
    refine Go.step (g' := (mkF m 9 #[.val (.ref o0), .val (.ref o1), .val (.ref o2), .val (.int p3), .val (.int p4), .val (.int p5), .val (.int p6)] [(.int p4), (.int p3)])) (fun _ k => XS.iload X0.here hx rfl (hb hby d9_7) rfl  k) ?_
    by_cases hc9 : p3 = p4
    · rw [show (f9_6 p3 p4 p5 gf gb gc) = f9_18 from if_pos hc9]
      refine Go.step (g' := (mkF m 18 #[.val (.ref o0), .val (.ref o1), .val (.ref o2), .val (.int p3), .val (.int p4), .val (.int p5), .val (.int p6)] [])) (fun _ k => XS.icmpYes X0.here hx rfl (pc0 := 9) (pc' := 18) rfl (hb hby d9_9) rfl (teq hc9).1 (by decide) (by decide) k) ?_
      exact t18 
    · rw [show (f9_6 p3 p4 p5 gf gb gc) = (f9_12 p3 p5 gf gb gc) from if_neg hc9]
      refine Go.step (g' := (mkF m 12 #[.val (.ref o0), .val (.ref o1), .val (.ref o2), .val (.int p3), .val (.int p4), .val (.int p5), .val (.int p6)] [])) (fun _ k => XS.icmpNo X0.here hx rfl (hb hby d9_9) rfl (feq hc9).1 k) ?_
      refine Go.step (g' := (mkF m 13 #[.val (.ref o0), .val (.ref o1), .val (.ref o2), .val (.int p3), .val (.int p4), .val (.int p5), .val (.int p6)] [(.int p3)])) (fun _ k => XS.iloadN X0.here hx rfl (hb hby d9_12) rfl  k) ?_
      refine Go.step (g' := (mkF m 15 #[.val (.ref o0), .val (.ref o1), .val (.ref o2), .val (.int p3), .val (.int p4), .val (.int p5), .val (.int p6)] [(.int p5), (.int p3)])) (fun _ k => XS.iload X0.here hx rfl (hb hby d9_13) rfl  k) ?_
      by_cases hc15 : p3 = p5
      · rw [show (f9_12 p3 p5 gf gb gc) = f9_18 from if_pos hc15]
        refine Go.step (g' := (mkF m 18 #[.val (.ref o0), .val (.ref o1), .val (.ref o2), .val (.int p3), .val (.int p4), .val (.int p5), .val (.int p6)] [])) (fun _ k => XS.icmpNo X0.here hx rfl (hb hby d9_15) rfl (teq hc15).2 k) ?_
        exact t18 
      · rw [show (f9_12 p3 p5 gf gb gc) = (f9_20 p3 gf gb gc) from if_neg hc15]
        refine Go.step (g' := (mkF m 20 #[.val (.ref o0), .val (.ref o1), .val (.ref o2), .val (.int p3), .val (.int p4), .val (.int p5), .val (.int p6)] [])) (fun _ k => XS.icmpYes X0.here hx rfl (pc0 := 15) (pc' := 20) rfl (hb hby d9_15) rfl (feq hc15).2 (by decide) (by decide) k) ?_
        refine Go.step (g' := (mkF m 21 #[.val (.ref o0), .val (.ref o1), .val (.ref o2), .val (.int p3), .val (.int p4), .val (.int p5), .val (.int p6)] [(.ref o0)])) (fun _ k => XS.aloadN X0.here hx rfl (hb hby d9_20) rfl rfl  k) ?_
        refine Go.step (g' := (mkF m 22 #[.val (.ref o0), .val (.ref o1), .val (.ref o2), .val (.int p3), .val (.int p4), .val (.int p5), .val (.int p6)] [(.int p3), (.ref o0)])) (fun _ k => XS.iloadN X0.here hx rfl (hb hby d9_21) rfl  k) ?_
        refine Go.step (g' := (mkF m 23 #[.val (.ref o0), .val (.ref o1), .val (.ref o2), .val (.int p3), .val (.int p4), .val (.int p5), .val (.int p6)] [(.int (gf p3.toNatClampNeg))])) (fun _ k => getAI X0 hx hZ e0 A_f (j := p3) (hi hc3) (gf := (mkF m 22 #[.val (.ref o0), .val (.ref o1), .val (.ref o2), .val (.int p3), .val (.int p4), .val (.int p5), .val (.int p6)] [(.int p3), (.ref o0)])) rfl rfl (hb hby d9_22) k) ?_
        have t59 : ∀ (v59_s0 : Int32), Go p e below s 0 0 (PureQ (.int (f9_59 v59_s0)) h0) s₁ (mkF m 59 #[.val (.ref o0), .val (.ref o1), .val (.ref o2), .val (.int p3), .val (.int p4), .val (.int p5), .val (.int p6)] [(.int v59_s0)]) := by
          intro v59_s0
          exact Go.retN X0 hx hlk (t := .boolean) Bd.returns (by simp) (hb hby d9_59) (by decide) (by decide) ⟨rfl, rfl, e0⟩
        have t58 : Go p e below s 0 0 (PureQ (.int f9_58) h0) s₁ (mkF m 58 #[.val (.ref o0), .val (.ref o1), .val (.ref o2), .val (.int p3), .val (.int p4), .val (.int p5), .val (.int p6)] []) := by
          refine Go.step (g' := (mkF m 59 #[.val (.ref o0), .val (.ref o1), .val (.ref o2), .val (.int p3), .val (.int p4), .val (.int p5), .val (.int p6)] [(.int (0 : Int32))])) (fun _ k => XS.iconst X0.here hx rfl (hb hby d9_58) k) ?_
          rw [show f9_58 = (f9_59 (0 : Int32)) from rfl]
          exact t59 (0 : Int32)
        by_cases hc23 : (gf p3.toNatClampNeg) = (0 : Int32)
        · rw [show (f9_20 p3 gf gb gc) = (f9_26 p3 gb gc) from if_pos hc23]
          refine Go.step (g' := (mkF m 26 #[.val (.ref o0), .val (.ref o1), .val (.ref o2), .val (.int p3), .val (.int p4), .val (.int p5), .val (.int p6)] [])) (fun _ k => XS.ifNo X0.here hx rfl (hb hby d9_23) rfl ((if0 _ _).trans (teq hc23).2) k) ?_
          refine Go.step (g' := (mkF m 27 #[.val (.ref o0), .val (.ref o1), .val (.ref o2), .val (.int p3), .val (.int p4), .val (.int p5), .val (.int p6)] [(.ref o1)])) (fun _ k => XS.aloadN X0.here hx rfl (hb hby d9_26) rfl rfl  k) ?_
          refine Go.step (g' := (mkF m 28 #[.val (.ref o0), .val (.ref o1), .val (.ref o2), .val (.int p3), .val (.int p4), .val (.int p5), .val (.int p6)] [(.int p3), (.ref o1)])) (fun _ k => XS.iloadN X0.here hx rfl (hb hby d9_27) rfl  k) ?_
          refine Go.step (g' := (mkF m 29 #[.val (.ref o0), .val (.ref o1), .val (.ref o2), .val (.int p3), .val (.int p4), .val (.int p5), .val (.int p6)] [(.int (gb p3.toNatClampNeg))])) (fun _ k => getAI X0 hx hZ e0 A_b (j := p3) (hi hc3) (gf := (mkF m 28 #[.val (.ref o0), .val (.ref o1), .val (.ref o2), .val (.int p3), .val (.int p4), .val (.int p5), .val (.int p6)] [(.int p3), (.ref o1)])) rfl rfl (hb hby d9_28) k) ?_
          by_cases hc29 : (gb p3.toNatClampNeg) = (0 : Int32)
          · rw [show (f9_26 p3 gb gc) = (f9_32 p3 gc) from if_pos hc29]
            refine Go.step (g' := (mkF m 32 #[.val (.ref o0), .val (.ref o1), .val (.ref o2), .val (.int p3), .val (.int p4), .val (.int p5), .val (.int p6)] [])) (fun _ k => XS.ifNo X0.here hx rfl (hb hby d9_29) rfl ((if0 _ _).trans (teq hc29).2) k) ?_
            refine Go.step (g' := (mkF m 33 #[.val (.ref o0), .val (.ref o1), .val (.ref o2), .val (.int p3), .val (.int p4), .val (.int p5), .val (.int p6)] [(.ref o2)])) (fun _ k => XS.aloadN X0.here hx rfl (hb hby d9_32) rfl rfl  k) ?_
            refine Go.step (g' := (mkF m 34 #[.val (.ref o0), .val (.ref o1), .val (.ref o2), .val (.int p3), .val (.int p4), .val (.int p5), .val (.int p6)] [(.int (2 : Int32)), (.ref o2)])) (fun _ k => XS.iconst X0.here hx rfl (hb hby d9_33) k) ?_
            refine Go.step (g' := (mkF m 35 #[.val (.ref o0), .val (.ref o1), .val (.ref o2), .val (.int p3), .val (.int p4), .val (.int p5), .val (.int p6)] [(.int p3), (.int (2 : Int32)), (.ref o2)])) (fun _ k => XS.iloadN X0.here hx rfl (hb hby d9_34) rfl  k) ?_
            refine Go.step (g' := (mkF m 36 #[.val (.ref o0), .val (.ref o1), .val (.ref o2), .val (.int p3), .val (.int p4), .val (.int p5), .val (.int p6)] [(.int ((2 : Int32) * p3)), (.ref o2)])) (fun _ k => XS.imul X0.here hx rfl (hb hby d9_35) rfl k) ?_
            refine Go.step (g' := (mkF m 37 #[.val (.ref o0), .val (.ref o1), .val (.ref o2), .val (.int p3), .val (.int p4), .val (.int p5), .val (.int p6)] [(.double (gc ((2 : Int32) * p3).toNatClampNeg))])) (fun _ k => getAD X0 hx hZ e0 A_c (j := ((2 : Int32) * p3)) (hi2 hc3) (gf := (mkF m 36 #[.val (.ref o0), .val (.ref o1), .val (.ref o2), .val (.int p3), .val (.int p4), .val (.int p5), .val (.int p6)] [(.int ((2 : Int32) * p3)), (.ref o2)])) rfl rfl (hb hby d9_36) k) ?_
            refine Go.step (g' := (mkF m 38 #[.val (.ref o0), .val (.ref o1), .val (.ref o2), .val (.int p3), .val (.int p4), .val (.int p5), .val (.int p6)] [(.double (0 : UInt64)), (.double (gc ((2 : Int32) * p3).toNatClampNeg))])) (fun _ k => XS.dconst0 X0.here hx rfl (hb hby d9_37) rfl k) ?_
            refine Go.step (g' := (mkF m 39 #[.val (.ref o0), .val (.ref o1), .val (.ref o2), .val (.int p3), .val (.int p4), .val (.int p5), .val (.int p6)] [(.int (cmpValue (FP.dcmp (gc ((2 : Int32) * p3).toNatClampNeg) (0 : UInt64)) .l))])) (fun _ k => XS.dcmpS X0.here hx rfl (hb hby d9_38) rfl rfl k) ?_
            by_cases hc39 : (cmpValue (FP.dcmp (gc ((2 : Int32) * p3).toNatClampNeg) (0 : UInt64)) .l) = (0 : Int32)
            · rw [show (f9_32 p3 gc) = (f9_42 p3 gc) from if_pos hc39]
              refine Go.step (g' := (mkF m 42 #[.val (.ref o0), .val (.ref o1), .val (.ref o2), .val (.int p3), .val (.int p4), .val (.int p5), .val (.int p6)] [])) (fun _ k => XS.ifNo X0.here hx rfl (hb hby d9_39) rfl ((if0 _ _).trans (teq hc39).2) k) ?_
              refine Go.step (g' := (mkF m 43 #[.val (.ref o0), .val (.ref o1), .val (.ref o2), .val (.int p3), .val (.int p4), .val (.int p5), .val (.int p6)] [(.ref o2)])) (fun _ k => XS.aloadN X0.here hx rfl (hb hby d9_42) rfl rfl  k) ?_
              refine Go.step (g' := (mkF m 44 #[.val (.ref o0), .val (.ref o1), .val (.ref o2), .val (.int p3), .val (.int p4), .val (.int p5), .val (.int p6)] [(.int (2 : Int32)), (.ref o2)])) (fun _ k => XS.iconst X0.here hx rfl (hb hby d9_43) k) ?_
              refine Go.step (g' := (mkF m 45 #[.val (.ref o0), .val (.ref o1), .val (.ref o2), .val (.int p3), .val (.int p4), .val (.int p5), .val (.int p6)] [(.int p3), (.int (2 : Int32)), (.ref o2)])) (fun _ k => XS.iloadN X0.here hx rfl (hb hby d9_44) rfl  k) ?_
              refine Go.step (g' := (mkF m 46 #[.val (.ref o0), .val (.ref o1), .val (.ref o2), .val (.int p3), .val (.int p4), .val (.int p5), .val (.int p6)] [(.int ((2 : Int32) * p3)), (.ref o2)])) (fun _ k => XS.imul X0.here hx rfl (hb hby d9_45) rfl k) ?_
              refine Go.step (g' := (mkF m 47 #[.val (.ref o0), .val (.ref o1), .val (.ref o2), .val (.int p3), .val (.int p4), .val (.int p5), .val (.int p6)] [(.int (1 : Int32)), (.int ((2 : Int32) * p3)), (.ref o2)])) (fun _ k => XS.iconst X0.here hx rfl (hb hby d9_46) k) ?_
              refine Go.step (g' := (mkF m 48 #[.val (.ref o0), .val (.ref o1), .val (.ref o2), .val (.int p3), .val (.int p4), .val (.int p5), .val (.int p6)] [(.int (((2 : Int32) * p3) + (1 : Int32))), (.ref o2)])) (fun _ k => XS.iadd X0.here hx rfl (hb hby d9_47) rfl k) ?_
              refine Go.step (g' := (mkF m 49 #[.val (.ref o0), .val (.ref o1), .val (.ref o2), .val (.int p3), .val (.int p4), .val (.int p5), .val (.int p6)] [(.double (gc (((2 : Int32) * p3) + (1 : Int32)).toNatClampNeg))])) (fun _ k => getAD X0 hx hZ e0 A_c (j := (((2 : Int32) * p3) + (1 : Int32))) (hi3 hc3) (gf := (mkF m 48 #[.val (.ref o0), .val (.ref o1), .val (.ref o2), .val (.int p3), .val (.int p4), .val (.int p5), .val (.int p6)] [(.int (((2 : Int32) * p3) + (1 : Int32))), (.ref o2)])) rfl rfl (hb hby d9_48) k) ?_
              refine Go.step (g' := (mkF m 50 #[.val (.ref o0), .val (.ref o1), .val (.ref o2), .val (.int p3), .val (.int p4), .val (.int p5), .val (.int p6)] [(.double (0 : UInt64)), (.double (gc (((2 : Int32) * p3) + (1 : Int32)).toNatClampNeg))])) (fun _ k => XS.dconst0 X0.here hx rfl (hb hby d9_49) rfl k) ?_
              refine Go.step (g' := (mkF m 51 #[.val (.ref o0), .val (.ref o1), .val (.ref o2), .val (.int p3), .val (.int p4), .val (.int p5), .val (.int p6)] [(.int (cmpValue (FP.dcmp (gc (((2 : Int32) * p3) + (1 : Int32)).toNatClampNeg) (0 : UInt64)) .l))])) (fun _ k => XS.dcmpS X0.here hx rfl (hb hby d9_50) rfl rfl k) ?_
              by_cases hc51 : (cmpValue (FP.dcmp (gc (((2 : Int32) * p3) + (1 : Int32)).toNatClampNeg) (0 : UInt64)) .l) = (0 : Int32)
              · rw [show (f9_42 p3 gc) = f9_54 from if_pos hc51]
                refine Go.step (g' := (mkF m 54 #[.val (.ref o0), .val (.ref o1), .val (.ref o2), .val (.int p3), .val (.int p4), .val (.int p5), .val (.int p6)] [])) (fun _ k => XS.ifNo X0.here hx rfl (hb hby d9_51) rfl ((if0 _ _).trans (teq hc51).2) k) ?_
                refine Go.step (g' := (mkF m 55 #[.val (.ref o0), .val (.ref o1), .val (.ref o2), .val (.int p3), .val (.int p4), .val (.int p5), .val (.int p6)] [(.int (1 : Int32))])) (fun _ k => XS.iconst X0.here hx rfl (hb hby d9_54) k) ?_
                refine Go.step (g' := (mkF m 59 #[.val (.ref o0), .val (.ref o1), .val (.ref o2), .val (.int p3), .val (.int p4), .val (.int p5), .val (.int p6)] [(.int (1 : Int32))])) (fun _ k => XS.goto X0.here hx rfl (pc0 := 55) (pc' := 59) rfl (hb hby d9_55) (by decide) (by decide) k) ?_
                rw [show f9_54 = (f9_59 (1 : Int32)) from rfl]
                exact t59 (1 : Int32)
              · rw [show (f9_42 p3 gc) = f9_58 from if_neg hc51]
                refine Go.step (g' := (mkF m 58 #[.val (.ref o0), .val (.ref o1), .val (.ref o2), .val (.int p3), .val (.int p4), .val (.int p5), .val (.int p6)] [])) (fun _ k => XS.ifYes X0.here hx rfl (pc0 := 51) (pc' := 58) rfl (hb hby d9_51) rfl ((if0 _ _).trans (feq hc51).2) (by decide) (by decide) k) ?_
                exact t58 
            · rw [show (f9_32 p3 gc) = f9_58 from if_neg hc39]
              refine Go.step (g' := (mkF m 58 #[.val (.ref o0), .val (.ref o1), .val (.ref o2), .val (.int p3), .val (.int p4), .val (.int p5), .val (.int p6)] [])) (fun _ k => XS.ifYes X0.here hx rfl (pc0 := 39) (pc' := 58) rfl (hb hby d9_39) rfl ((if0 _ _).trans (feq hc39).2) (by decide) (by decide) k) ?_
              exact t58 
          · rw [show (f9_26 p3 gb gc) = f9_58 from if_neg hc29]
            refine Go.step (g' := (mkF m 58 #[.val (.ref o0), .val (.ref o1), .val (.ref o2), .val (.int p3), .val (.int p4), .val (.int p5), .val (.int p6)] [])) (fun _ k => XS.ifYes X0.here hx rfl (pc0 := 29) (pc' := 58) rfl (hb hby d9_29) rfl ((if0 _ _).trans (feq hc29).2) (by decide) (by decide) k) ?_
            exact t58 
        · rw [show (f9_20 p3 gf gb gc) = f9_58 from if_neg hc23]
          refine Go.step (g' := (mkF m 58 #[.val (.ref o0), .val (.ref o1), .val (.ref o2), .val (.int p3), .val (.int p4), .val (.int p5), .val (.int p6)] [])) (fun _ k => XS.ifYes X0.here hx rfl (pc0 := 23) (pc' := 58) rfl (hb hby d9_23) rfl ((if0 _ _).trans (feq hc23).2) (by decide) (by decide) k) ?_
          exact t58 
  · rw [show (f9_0 p3 p4 p5 p6 gf gb gc) = f9_18 from if_neg hc3]
    refine Go.step (g' := (mkF m 18 #[.val (.ref o0), .val (.ref o1), .val (.ref o2), .val (.int p3), .val (.int p4), .val (.int p5), .val (.int p6)] [])) (fun _ k => XS.icmpYes X0.here hx rfl (pc0 := 3) (pc' := 18) rfl (hb hby d9_3) rfl (flt hc3).2.1 (by decide) (by decide) k) ?_
    exact t18 
theorem pn_0 : plainName "com/example/rhadamanthus/rhadamanthus/learn/HeldBinsSetPinLaw" = true := by first | (simp [plainName, overriddenIn]; done) | decide +kernel
theorem ef_0 (m : MethodId) (p0 : Int32) (p1 : Int32) (p2 : Int32) (p3 : Int32) (p4 : Int32) (p5 : Int32) : entryFrame m #[(.int p0), (.int p1), (.int p2), (.int p3), (.int p4), (.int p5)] maxLocals = mkF m 0 #[.val (.int p0), .val (.int p1), .val (.int p2), .val (.int p3), .val (.int p4), .val (.int p5), .unset, .unset, .unset, .unset, .unset, .unset, .unset, .unset, .unset, .unset, .unset, .unset, .unset, .unset, .unset, .unset] [] := by first | (simp [entryFrame, mkF, argsToLocals, Value.category, maxLocals]; done) | rfl
def f0_350 : Int32 := (nar .boolean (1 : Int32))
def f0_345 : Int32 := f0_350
def f0_326 : Int32 := f0_345
def f0_307 : Int32 := f0_326
def f0_288 : Int32 := f0_307
def f0_269 : Int32 := f0_288
def f0_252 : Int32 := f0_269
def f0_239 : Int32 := f0_252
def f0_229 : Int32 := f0_239
def f0_219 : Int32 := f0_229
def f0_212 (ii : Int32) (jj : Int32) : Int32 := if jj = ii then f0_269 else f0_219
def f0_195 (ii : Int32) (jj : Int32) : Int32 := (f0_212 ii jj)
def f0_182 (ii : Int32) (jj : Int32) : Int32 := (f0_195 ii jj)
def f0_173 (ii : Int32) (jj : Int32) : Int32 := (f0_182 ii jj)
def f0_164 (ii : Int32) (jj : Int32) : Int32 := (f0_173 ii jj)
def f0_152 (ii : Int32) (jj : Int32) : Int32 := (f0_164 ii jj)
def f0_144 (ii : Int32) (jj : Int32) : Int32 := (f0_152 ii jj)
def f0_136 (ii : Int32) (jj : Int32) : Int32 := (f0_144 ii jj)
def f0_124 (ii : Int32) (jj : Int32) : Int32 := (f0_136 ii jj)
def f0_27 (ii : Int32) (jj : Int32) : Int32 := (f0_124 ii jj)
def f0_0 : Int32 := 1
theorem own_unt {k i j c : Int32} (x1 x2 y1 y2 : Int32) (u1 u2 u3 u4 : UInt64) (hk : ¬ k < 0) (hi0 : ¬ i < 0) (hi1 : i < c) (hj0 : ¬ j < 0) (hj1 : j < c) (hc0 : ¬ c < 0) (hc1 : c.toNatClampNeg ≤ 4) :
    ¬ f9_0 k i j c (upd (upd (fun _ => (0 : Int32)) j.toNatClampNeg x1) i.toNatClampNeg x2) (upd (upd (fun _ => (0 : Int32)) j.toNatClampNeg y1) i.toNatClampNeg y2) (upd (upd (upd (upd (fun _ => (0 : UInt64)) ((2 : Int32) * j).toNatClampNeg u1) (((2 : Int32) * j) + (1 : Int32)).toNatClampNeg u2) ((2 : Int32) * i).toNatClampNeg u3) (((2 : Int32) * i) + (1 : Int32)).toNatClampNeg u4) = 0 := by
  have n1 : nar .boolean 1 = 1 := by decide
  have e : f9_0 k i j c (upd (upd (fun _ => (0 : Int32)) j.toNatClampNeg x1) i.toNatClampNeg x2) (upd (upd (fun _ => (0 : Int32)) j.toNatClampNeg y1) i.toNatClampNeg y2) (upd (upd (upd (upd (fun _ => (0 : UInt64)) ((2 : Int32) * j).toNatClampNeg u1) (((2 : Int32) * j) + (1 : Int32)).toNatClampNeg u2) ((2 : Int32) * i).toNatClampNeg u3) (((2 : Int32) * i) + (1 : Int32)).toNatClampNeg u4) = 1 := by
    simp only [f9_18, f9_59, f9_58, f9_54, f9_42, f9_32, f9_26, f9_20, f9_12, f9_6, f9_0]
    by_cases h1 : k < c
    · rw [if_pos h1]
      by_cases h2 : k = i
      · rw [if_pos h2]; exact n1
      rw [if_neg h2]
      by_cases h3 : k = j
      · rw [if_pos h3]; exact n1
      rw [if_neg h3]
      have a1 := own_nat hi0 hk h2
      have a2 := own_nat hj0 hk h3
      have Dk := own_d2 hk h1 hc0 hc1
      have Di := own_d2 hi0 hi1 hc0 hc1
      have Dj := own_d2 hj0 hj1 hc0 hc1
      have z := own_c5 i.toNatClampNeg j.toNatClampNeg k.toNatClampNeg u1 u2 u3 u4 a1 a2
      have q : cmpValue (FP.dcmp 0 0) .l = 0 := by decide +kernel
      rw [if_pos (own_g3 _ _ _ _ _ a1 a2), if_pos (own_g3 _ _ _ _ _ a1 a2)]
      simp only [Di.1, Di.2.1, Dj.1, Dj.2.1, Dk.1, Dk.2.1, z.1, z.2, q]
      exact n1
    · rw [if_neg h1]; exact n1
  rw [e]; decide
theorem law_at (ii jj : Int32) : f0_27 ii jj = 1 := by
  have n1 : nar .boolean 1 = 1 := by decide
  simp only [f0_350, f0_345, f0_326, f0_307, f0_288, f0_269, f0_252, f0_239, f0_229, f0_219, f0_212, f0_195, f0_182, f0_173, f0_164, f0_152, f0_144, f0_136, f0_124, f0_27, n1]
  split <;> rfl
set_option maxRecDepth 65536 in
set_option maxHeartbeats 40000000 in
theorem rm0 (l : Launch) (Z : State) (a0 : Array Value) (hw : ∀ d ∈ tables_1, d.before a0 Z = true) (ws : List Jvm.Cond) (p0 : Int32) (p1 : Int32) (p2 : Int32) (p3 : Int32) (p4 : Int32) (p5 : Int32)  (h0 : Heap) (n0 : Nat) (Z0 : n0 ≤ h0.size) :
    MetFree l x (head1 (Jvm.Cond.code x code maxLocals ret :: ws) room_1) (fun a U => a = #[(.int p0), (.int p1), (.int p2), (.int p3), (.int p4), (.int p5)] ∧ Z.Warmed39 U.vm ∧ U.heap = h0) (fun _ _ _ _ _ => True) (fun _ U o U' => ∃ v L, o = .returned v ∧ (LawQ (some (.int f0_0)) n0) v U'.heap L ∧ FrameEnd U o U' L room_1.cells room_1.slots) := by
  refine MetFree.of_bodySF (plainFor_of_name pn_0) hisR ?_
  intro p e s m args below meth c s₁ Bd hml0 hP hK
  obtain ⟨rfl, hZ, hh⟩ := hP
  have hx := Bd.exec
  have hby := Bd.bytes
  have hlk : meth.locks = false := BodyLoose.notSynchronized Bd
  have hml : c.maxLocals = 22 := hml0
  have hown : s.vm.findClass "com/example/rhadamanthus/rhadamanthus/learn/HeldBinsSetPinLaw" = some m.cls := findClass_of_methodNamed Bd.named
  have hnm := (name_of_methodNamed Bd.named Bd.method).1
  have X0 : Stand p l e room_1 s m #[(.int p0), (.int p1), (.int p2), (.int p3), (.int p4), (.int p5)] below meth c s₁ ([] : List Loc) 0 0 := Stand.of_body Bd
  have e0 : s₁.heap = h0 := by rw [← hh, Bd.state]; rfl
  show Go p e below s room_1.cells room_1.slots (LawQ (some (.int f0_0)) n0) s₁ (entryFrame m #[(.int p0), (.int p1), (.int p2), (.int p3), (.int p4), (.int p5)] maxLocals)
  rw [ef_0 m p0 p1 p2 p3 p4 p5]
  have N0 := Fr.nil n0
  refine Go.step (g' := (mkF m 1 #[.val (.int p0), .val (.int p1), .val (.int p2), .val (.int p3), .val (.int p4), .val (.int p5), .unset, .unset, .unset, .unset, .unset, .unset, .unset, .unset, .unset, .unset, .unset, .unset, .unset, .unset, .unset, .unset] [(.int (1 : Int32))])) (fun _ k => XS.iconst X0.here hx rfl (hb hby at_0) k) ?_
  refine Go.step (g' := (mkF m 2 #[.val (.int p0), .val (.int p1), .val (.int p2), .val (.int p3), .val (.int p4), .val (.int p5), .unset, .unset, .unset, .unset, .unset, .unset, .unset, .unset, .unset, .unset, .unset, .unset, .unset, .unset, .unset, .unset] [(.int p0), (.int (1 : Int32))])) (fun _ k => XS.iloadN X0.here hx rfl (hb hby at_1) rfl  k) ?_
  refine Go.step (g' := (mkF m 3 #[.val (.int p0), .val (.int p1), .val (.int p2), .val (.int p3), .val (.int p4), .val (.int p5), .unset, .unset, .unset, .unset, .unset, .unset, .unset, .unset, .unset, .unset, .unset, .unset, .unset, .unset, .unset, .unset] [(.int (3 : Int32)), (.int p0), (.int (1 : Int32))])) (fun _ k => XS.iconst X0.here hx rfl (hb hby at_2) k) ?_
  refine Go.step (g' := (mkF m 4 #[.val (.int p0), .val (.int p1), .val (.int p2), .val (.int p3), .val (.int p4), .val (.int p5), .unset, .unset, .unset, .unset, .unset, .unset, .unset, .unset, .unset, .unset, .unset, .unset, .unset, .unset, .unset, .unset] [(.int (p0 &&& (3 : Int32))), (.int (1 : Int32))])) (fun _ k => XS.iand X0.here hx rfl (hb hby at_3) rfl k) ?_
  refine Go.step (g' := (mkF m 5 #[.val (.int p0), .val (.int p1), .val (.int p2), .val (.int p3), .val (.int p4), .val (.int p5), .unset, .unset, .unset, .unset, .unset, .unset, .unset, .unset, .unset, .unset, .unset, .unset, .unset, .unset, .unset, .unset] [(.int ((1 : Int32) + (p0 &&& (3 : Int32))))])) (fun _ k => XS.iadd X0.here hx rfl (hb hby at_4) rfl k) ?_
  refine Go.step (g' := (mkF m 7 #[.val (.int p0), .val (.int p1), .val (.int p2), .val (.int p3), .val (.int p4), .val (.int p5), .val (.int ((1 : Int32) + (p0 &&& (3 : Int32)))), .unset, .unset, .unset, .unset, .unset, .unset, .unset, .unset, .unset, .unset, .unset, .unset, .unset, .unset, .unset] [])) (fun _ k => XS.istore X0.here hx rfl (hb hby at_5) rfl (l' := #[.val (.int p0), .val (.int p1), .val (.int p2), .val (.int p3), .val (.int p4), .val (.int p5), .val (.int ((1 : Int32) + (p0 &&& (3 : Int32)))), .unset, .unset, .unset, .unset, .unset, .unset, .unset, .unset, .unset, .unset, .unset, .unset, .unset, .unset, .unset]) rfl k) ?_
  generalize hcp : ((1 : Int32) + (p0 &&& (3 : Int32))) = cp
  have hcap := own_capf p0
  rw [hcp] at hcap
  obtain ⟨hcap0, hcap1, hcap2, hcap3, hcapn⟩ := hcap
  refine Go.step (g' := (mkF m 8 #[.val (.int p0), .val (.int p1), .val (.int p2), .val (.int p3), .val (.int p4), .val (.int p5), .val (.int cp), .unset, .unset, .unset, .unset, .unset, .unset, .unset, .unset, .unset, .unset, .unset, .unset, .unset, .unset, .unset] [(.int p0)])) (fun _ k => XS.iloadN X0.here hx rfl (hb hby at_7) rfl  k) ?_
  refine Go.step (g' := (mkF m 9 #[.val (.int p0), .val (.int p1), .val (.int p2), .val (.int p3), .val (.int p4), .val (.int p5), .val (.int cp), .unset, .unset, .unset, .unset, .unset, .unset, .unset, .unset, .unset, .unset, .unset, .unset, .unset, .unset, .unset] [(.int (2 : Int32)), (.int p0)])) (fun _ k => XS.iconst X0.here hx rfl (hb hby at_8) k) ?_
  refine Go.step (g' := (mkF m 10 #[.val (.int p0), .val (.int p1), .val (.int p2), .val (.int p3), .val (.int p4), .val (.int p5), .val (.int cp), .unset, .unset, .unset, .unset, .unset, .unset, .unset, .unset, .unset, .unset, .unset, .unset, .unset, .unset, .unset] [(.int ((p0.toUInt32 >>> ((2 : Int32) &&& 31).toUInt32).toInt32))])) (fun _ k => XS.iushr X0.here hx rfl (hb hby at_9) rfl k) ?_
  refine Go.step (g' := (mkF m 11 #[.val (.int p0), .val (.int p1), .val (.int p2), .val (.int p3), .val (.int p4), .val (.int p5), .val (.int cp), .unset, .unset, .unset, .unset, .unset, .unset, .unset, .unset, .unset, .unset, .unset, .unset, .unset, .unset, .unset] [(.int (3 : Int32)), (.int ((p0.toUInt32 >>> ((2 : Int32) &&& 31).toUInt32).toInt32))])) (fun _ k => XS.iconst X0.here hx rfl (hb hby at_10) k) ?_
  refine Go.step (g' := (mkF m 12 #[.val (.int p0), .val (.int p1), .val (.int p2), .val (.int p3), .val (.int p4), .val (.int p5), .val (.int cp), .unset, .unset, .unset, .unset, .unset, .unset, .unset, .unset, .unset, .unset, .unset, .unset, .unset, .unset, .unset] [(.int (((p0.toUInt32 >>> ((2 : Int32) &&& 31).toUInt32).toInt32) &&& (3 : Int32)))])) (fun _ k => XS.iand X0.here hx rfl (hb hby at_11) rfl k) ?_
  refine Go.step (g' := (mkF m 14 #[.val (.int p0), .val (.int p1), .val (.int p2), .val (.int p3), .val (.int p4), .val (.int p5), .val (.int cp), .unset, .unset, .unset, .unset, .unset, .unset, .unset, .unset, .unset, .unset, .unset, .unset, .unset, .unset, .unset] [(.int cp), (.int (((p0.toUInt32 >>> ((2 : Int32) &&& 31).toUInt32).toInt32) &&& (3 : Int32)))])) (fun _ k => XS.iload X0.here hx rfl (hb hby at_12) rfl  k) ?_
  refine Go.step (g' := (mkF m 15 #[.val (.int p0), .val (.int p1), .val (.int p2), .val (.int p3), .val (.int p4), .val (.int p5), .val (.int cp), .unset, .unset, .unset, .unset, .unset, .unset, .unset, .unset, .unset, .unset, .unset, .unset, .unset, .unset, .unset] [(.int ((((p0.toUInt32 >>> ((2 : Int32) &&& 31).toUInt32).toInt32) &&& (3 : Int32)) % cp))])) (fun _ k => Jvm.RoadKit.iremM X0 hx rfl (hb hby at_14) rfl hcapn k) ?_
  refine Go.step (g' := (mkF m 17 #[.val (.int p0), .val (.int p1), .val (.int p2), .val (.int p3), .val (.int p4), .val (.int p5), .val (.int cp), .val (.int ((((p0.toUInt32 >>> ((2 : Int32) &&& 31).toUInt32).toInt32) &&& (3 : Int32)) % cp)), .unset, .unset, .unset, .unset, .unset, .unset, .unset, .unset, .unset, .unset, .unset, .unset, .unset, .unset] [])) (fun _ k => XS.istore X0.here hx rfl (hb hby at_15) rfl (l' := #[.val (.int p0), .val (.int p1), .val (.int p2), .val (.int p3), .val (.int p4), .val (.int p5), .val (.int cp), .val (.int ((((p0.toUInt32 >>> ((2 : Int32) &&& 31).toUInt32).toInt32) &&& (3 : Int32)) % cp)), .unset, .unset, .unset, .unset, .unset, .unset, .unset, .unset, .unset, .unset, .unset, .unset, .unset, .unset]) rfl k) ?_
  generalize hii : ((((p0.toUInt32 >>> ((2 : Int32) &&& 31).toUInt32).toInt32) &&& (3 : Int32)) % cp) = ii
  have hii0 : ¬ ii < 0 := hii ▸ (own_rem (own_and3 _) hcap0 hcapn).1
  have hii1 : ii < cp := hii ▸ (own_rem (own_and3 _) hcap0 hcapn).2
  have Dii := own_d2 hii0 hii1 hcap0 hcap1
  refine Go.step (g' := (mkF m 18 #[.val (.int p0), .val (.int p1), .val (.int p2), .val (.int p3), .val (.int p4), .val (.int p5), .val (.int cp), .val (.int ii), .unset, .unset, .unset, .unset, .unset, .unset, .unset, .unset, .unset, .unset, .unset, .unset, .unset, .unset] [(.int p0)])) (fun _ k => XS.iloadN X0.here hx rfl (hb hby at_17) rfl  k) ?_
  refine Go.step (g' := (mkF m 19 #[.val (.int p0), .val (.int p1), .val (.int p2), .val (.int p3), .val (.int p4), .val (.int p5), .val (.int cp), .val (.int ii), .unset, .unset, .unset, .unset, .unset, .unset, .unset, .unset, .unset, .unset, .unset, .unset, .unset, .unset] [(.int (4 : Int32)), (.int p0)])) (fun _ k => XS.iconst X0.here hx rfl (hb hby at_18) k) ?_
  refine Go.step (g' := (mkF m 20 #[.val (.int p0), .val (.int p1), .val (.int p2), .val (.int p3), .val (.int p4), .val (.int p5), .val (.int cp), .val (.int ii), .unset, .unset, .unset, .unset, .unset, .unset, .unset, .unset, .unset, .unset, .unset, .unset, .unset, .unset] [(.int ((p0.toUInt32 >>> ((4 : Int32) &&& 31).toUInt32).toInt32))])) (fun _ k => XS.iushr X0.here hx rfl (hb hby at_19) rfl k) ?_
  refine Go.step (g' := (mkF m 21 #[.val (.int p0), .val (.int p1), .val (.int p2), .val (.int p3), .val (.int p4), .val (.int p5), .val (.int cp), .val (.int ii), .unset, .unset, .unset, .unset, .unset, .unset, .unset, .unset, .unset, .unset, .unset, .unset, .unset, .unset] [(.int (3 : Int32)), (.int ((p0.toUInt32 >>> ((4 : Int32) &&& 31).toUInt32).toInt32))])) (fun _ k => XS.iconst X0.here hx rfl (hb hby at_20) k) ?_
  refine Go.step (g' := (mkF m 22 #[.val (.int p0), .val (.int p1), .val (.int p2), .val (.int p3), .val (.int p4), .val (.int p5), .val (.int cp), .val (.int ii), .unset, .unset, .unset, .unset, .unset, .unset, .unset, .unset, .unset, .unset, .unset, .unset, .unset, .unset] [(.int (((p0.toUInt32 >>> ((4 : Int32) &&& 31).toUInt32).toInt32) &&& (3 : Int32)))])) (fun _ k => XS.iand X0.here hx rfl (hb hby at_21) rfl k) ?_
  refine Go.step (g' := (mkF m 24 #[.val (.int p0), .val (.int p1), .val (.int p2), .val (.int p3), .val (.int p4), .val (.int p5), .val (.int cp), .val (.int ii), .unset, .unset, .unset, .unset, .unset, .unset, .unset, .unset, .unset, .unset, .unset, .unset, .unset, .unset] [(.int cp), (.int (((p0.toUInt32 >>> ((4 : Int32) &&& 31).toUInt32).toInt32) &&& (3 : Int32)))])) (fun _ k => XS.iload X0.here hx rfl (hb hby at_22) rfl  k) ?_
  refine Go.step (g' := (mkF m 25 #[.val (.int p0), .val (.int p1), .val (.int p2), .val (.int p3), .val (.int p4), .val (.int p5), .val (.int cp), .val (.int ii), .unset, .unset, .unset, .unset, .unset, .unset, .unset, .unset, .unset, .unset, .unset, .unset, .unset, .unset] [(.int ((((p0.toUInt32 >>> ((4 : Int32) &&& 31).toUInt32).toInt32) &&& (3 : Int32)) % cp))])) (fun _ k => Jvm.RoadKit.iremM X0 hx rfl (hb hby at_24) rfl hcapn k) ?_
  refine Go.step (g' := (mkF m 27 #[.val (.int p0), .val (.int p1), .val (.int p2), .val (.int p3), .val (.int p4), .val (.int p5), .val (.int cp), .val (.int ii), .val (.int ((((p0.toUInt32 >>> ((4 : Int32) &&& 31).toUInt32).toInt32) &&& (3 : Int32)) % cp)), .unset, .unset, .unset, .unset, .unset, .unset, .unset, .unset, .unset, .unset, .unset, .unset, .unset] [])) (fun _ k => XS.istore X0.here hx rfl (hb hby at_25) rfl (l' := #[.val (.int p0), .val (.int p1), .val (.int p2), .val (.int p3), .val (.int p4), .val (.int p5), .val (.int cp), .val (.int ii), .val (.int ((((p0.toUInt32 >>> ((4 : Int32) &&& 31).toUInt32).toInt32) &&& (3 : Int32)) % cp)), .unset, .unset, .unset, .unset, .unset, .unset, .unset, .unset, .unset, .unset, .unset, .unset, .unset]) rfl k) ?_
  generalize hjj : ((((p0.toUInt32 >>> ((4 : Int32) &&& 31).toUInt32).toInt32) &&& (3 : Int32)) % cp) = jj
  have hjj0 : ¬ jj < 0 := hjj ▸ (own_rem (own_and3 _) hcap0 hcapn).1
  have hjj1 : jj < cp := hjj ▸ (own_rem (own_and3 _) hcap0 hcapn).2
  have Djj := own_d2 hjj0 hjj1 hcap0 hcap1
  rw [show f0_0 = (f0_27 ii jj) from (law_at _ _).symm]
  obtain ⟨T1, h1, X1, e1, E1, A1, D1, -, st1⟩ := newO X0 hx hZ hown (hw _ (List.mem_of_getElem? (i := 0) rfl)) (hw _ (List.mem_of_getElem? (i := 1) rfl)) (hw _ (List.mem_of_getElem? (i := 2) rfl)) e0 (g := (mkF m 27 #[.val (.int p0), .val (.int p1), .val (.int p2), .val (.int p3), .val (.int p4), .val (.int p5), .val (.int cp), .val (.int ii), .val (.int jj), .unset, .unset, .unset, .unset, .unset, .unset, .unset, .unset, .unset, .unset, .unset, .unset, .unset] [])) rfl (hb hby at_27) (by decide) (by decide)
  obtain ⟨b1, g1⟩ : ∃ z, z = h0.size := ⟨_, rfl⟩
  rw [← g1] at A1 D1 st1
  have g_b1 : n0 ≤ b1 := Nat.le_trans Z0 (Nat.le_of_eq g1.symm)
  have sz_b1 : h0.size ≤ b1 := Nat.le_trans (Keep.refl h0 []).1 (Nat.le_of_eq g1.symm)
  have F1_features : Fld Z h1 b1 "com/example/rhadamanthus/rhadamanthus/learn/HeldBins" "features" "[I" .null := D1 (Or.inr (hw _ (List.mem_of_getElem? (i := 11) rfl))) (ty := (.array .int)) (by decide)
  have F1_bins : Fld Z h1 b1 "com/example/rhadamanthus/rhadamanthus/learn/HeldBins" "bins" "[I" .null := D1 (Or.inr (hw _ (List.mem_of_getElem? (i := 13) rfl))) (ty := (.array .int)) (by decide)
  have F1_cells : Fld Z h1 b1 "com/example/rhadamanthus/rhadamanthus/learn/HeldBins" "cells" "[D" .null := D1 (Or.inr (hw _ (List.mem_of_getElem? (i := 16) rfl))) (ty := (.array .double)) (by decide)
  have F1_size : Fld Z h1 b1 "com/example/rhadamanthus/rhadamanthus/learn/HeldBins" "size" "I" (.int (0 : Int32)) := D1 (Or.inl (hw _ (List.mem_of_getElem? (i := 43) rfl))) (ty := .int) (by decide)
  refine Go.step (g' := (mkF m 30 #[.val (.int p0), .val (.int p1), .val (.int p2), .val (.int p3), .val (.int p4), .val (.int p5), .val (.int cp), .val (.int ii), .val (.int jj), .unset, .unset, .unset, .unset, .unset, .unset, .unset, .unset, .unset, .unset, .unset, .unset, .unset] [(.ref b1)])) st1 ?_
  refine Go.step (g' := (mkF m 31 #[.val (.int p0), .val (.int p1), .val (.int p2), .val (.int p3), .val (.int p4), .val (.int p5), .val (.int cp), .val (.int ii), .val (.int jj), .unset, .unset, .unset, .unset, .unset, .unset, .unset, .unset, .unset, .unset, .unset, .unset, .unset] [(.ref b1), (.ref b1)])) (fun _ k => XS.dup X1.here hx rfl (hb hby at_30) rfl rfl k) ?_
  refine Go.step (g' := (mkF m 33 #[.val (.int p0), .val (.int p1), .val (.int p2), .val (.int p3), .val (.int p4), .val (.int p5), .val (.int cp), .val (.int ii), .val (.int jj), .unset, .unset, .unset, .unset, .unset, .unset, .unset, .unset, .unset, .unset, .unset, .unset, .unset] [(.int cp), (.ref b1), (.ref b1)])) (fun _ k => XS.iload X1.here hx rfl (hb hby at_31) rfl  k) ?_
  obtain ⟨_, _, ⟨T2, L2, k2, n2⟩, -, X2, ⟨Lc2, hQ2, l2, y2, z2⟩, st2⟩ := X1.specialBack hx (y := (⟨"com/example/rhadamanthus/rhadamanthus/learn/HeldBins", "<init>", "(I)V"⟩ : MethodName)) rfl hown (mvT hZ (hw _ (List.mem_of_getElem? (i := 3) rfl))) (mvT hZ (hw _ (List.mem_of_getElem? (i := 4) rfl))) (mvT hZ (hw _ (List.mem_of_getElem? (i := 5) rfl))) (by decide) (backOf (W := 1) (rm1 l Z a0 hw [] b1 cp h1 n0 (Nat.le_trans Z0 E1.1) A1 g_b1 F1_features F1_bins F1_cells F1_size hcap0 hcap1 hcap2 hcap3) hZ (hw _ (List.mem_of_getElem? (i := 5) rfl)) (hw _ (List.mem_of_getElem? (i := 2) rfl)) (by decide) (by decide)) (g := (mkF m 33 #[.val (.int p0), .val (.int p1), .val (.int p2), .val (.int p3), .val (.int p4), .val (.int p5), .val (.int cp), .val (.int ii), .val (.int jj), .unset, .unset, .unset, .unset, .unset, .unset, .unset, .unset, .unset, .unset, .unset, .unset, .unset] [(.int cp), (.ref b1), (.ref b1)])) rfl (by rw [hml]; rfl) (Steps.refl _) (a := b1) (argsL := [(.int cp)]) (rest := [(.ref b1)]) (lenOf pd_0 rfl) rfl (by show 2 * 0 + _ ≤ _; exact Nat.le_of_eq rfl) (hb hby at_33) (fun _ _ => ⟨rfl, e1, (by decide : (0 + 1) + 3 ≤ _), (by decide : (0 + 4) + 16 ≤ _)⟩)
  dsimp only [Pt.U, Pt.locs, Pt.cells, Pt.slots] at X2 l2 y2 z2 st2 hQ2
  subst l2 y2 z2
  obtain ⟨rfl, N2q, K2, Ei2, f2, bb2, c2, sf2, sb2, sc2, fb2, fc2, bc2, Ff2, Fb2, Fc2, Fs2, Af2, Ab2, Ac2⟩ := hQ2
  obtain ⟨lc2, X2, N2⟩ := own_pack X2 (Fr.app N0 N2q)
  have ne_b1_f2 : b1 ≠ f2 := Nat.ne_of_lt (Nat.lt_of_lt_of_le A1.lt sf2)
  have g_f2 : n0 ≤ f2 := Nat.le_trans (Nat.le_trans Z0 E1.1) sf2
  have sz_f2 : h0.size ≤ f2 := Nat.le_trans ((Keep.refl h0 []).ext E1).1 sf2
  have ne_b1_bb2 : b1 ≠ bb2 := Nat.ne_of_lt (Nat.lt_of_lt_of_le A1.lt sb2)
  have g_bb2 : n0 ≤ bb2 := Nat.le_trans (Nat.le_trans Z0 E1.1) sb2
  have sz_bb2 : h0.size ≤ bb2 := Nat.le_trans ((Keep.refl h0 []).ext E1).1 sb2
  have ne_b1_c2 : b1 ≠ c2 := Nat.ne_of_lt (Nat.lt_of_lt_of_le A1.lt sc2)
  have g_c2 : n0 ≤ c2 := Nat.le_trans (Nat.le_trans Z0 E1.1) sc2
  have sz_c2 : h0.size ≤ c2 := Nat.le_trans ((Keep.refl h0 []).ext E1).1 sc2
  have Q3 := (((Keep.refl h0 []).ext E1).trans K2 (allS (Or.inr sz_b1) all0))
  refine Go.step (g' := (mkF m 36 #[.val (.int p0), .val (.int p1), .val (.int p2), .val (.int p3), .val (.int p4), .val (.int p5), .val (.int cp), .val (.int ii), .val (.int jj), .unset, .unset, .unset, .unset, .unset, .unset, .unset, .unset, .unset, .unset, .unset, .unset, .unset] [(.ref b1)])) (fun _ k => st2.trans k) ?_
  refine Go.step (g' := (mkF m 38 #[.val (.int p0), .val (.int p1), .val (.int p2), .val (.int p3), .val (.int p4), .val (.int p5), .val (.int cp), .val (.int ii), .val (.int jj), .val (.ref b1), .unset, .unset, .unset, .unset, .unset, .unset, .unset, .unset, .unset, .unset, .unset, .unset] [])) (fun _ k => XS.astore X2.here hx rfl (hb hby at_36) rfl rfl (l' := #[.val (.int p0), .val (.int p1), .val (.int p2), .val (.int p3), .val (.int p4), .val (.int p5), .val (.int cp), .val (.int ii), .val (.int jj), .val (.ref b1), .unset, .unset, .unset, .unset, .unset, .unset, .unset, .unset, .unset, .unset, .unset, .unset]) rfl k) ?_
  refine Go.step (g' := (mkF m 40 #[.val (.int p0), .val (.int p1), .val (.int p2), .val (.int p3), .val (.int p4), .val (.int p5), .val (.int cp), .val (.int ii), .val (.int jj), .val (.ref b1), .unset, .unset, .unset, .unset, .unset, .unset, .unset, .unset, .unset, .unset, .unset, .unset] [(.int p5)])) (fun _ k => XS.iload X2.here hx rfl (hb hby at_38) rfl  k) ?_
  refine Go.step (g' := (mkF m 43 #[.val (.int p0), .val (.int p1), .val (.int p2), .val (.int p3), .val (.int p4), .val (.int p5), .val (.int cp), .val (.int ii), .val (.int jj), .val (.ref b1), .unset, .unset, .unset, .unset, .unset, .unset, .unset, .unset, .unset, .unset, .unset, .unset] [(.int (21845 : Int32)), (.int p5)])) (fun _ k => XS.sipush X2.here hx rfl (hb hby at_40) k) ?_
  refine Go.step (g' := (mkF m 44 #[.val (.int p0), .val (.int p1), .val (.int p2), .val (.int p3), .val (.int p4), .val (.int p5), .val (.int cp), .val (.int ii), .val (.int jj), .val (.ref b1), .unset, .unset, .unset, .unset, .unset, .unset, .unset, .unset, .unset, .unset, .unset, .unset] [(.int (p5 ^^^ (21845 : Int32)))])) (fun _ k => XS.ixor X2.here hx rfl (hb hby at_43) rfl k) ?_
  refine Go.step (g' := (mkF m 46 #[.val (.int p0), .val (.int p1), .val (.int p2), .val (.int p3), .val (.int p4), .val (.int p5), .val (.int cp), .val (.int ii), .val (.int jj), .val (.ref b1), .val (.int (p5 ^^^ (21845 : Int32))), .unset, .unset, .unset, .unset, .unset, .unset, .unset, .unset, .unset, .unset, .unset] [])) (fun _ k => XS.istore X2.here hx rfl (hb hby at_44) rfl (l' := #[.val (.int p0), .val (.int p1), .val (.int p2), .val (.int p3), .val (.int p4), .val (.int p5), .val (.int cp), .val (.int ii), .val (.int jj), .val (.ref b1), .val (.int (p5 ^^^ (21845 : Int32))), .unset, .unset, .unset, .unset, .unset, .unset, .unset, .unset, .unset, .unset, .unset]) rfl k) ?_
  refine Go.step (g' := (mkF m 48 #[.val (.int p0), .val (.int p1), .val (.int p2), .val (.int p3), .val (.int p4), .val (.int p5), .val (.int cp), .val (.int ii), .val (.int jj), .val (.ref b1), .val (.int (p5 ^^^ (21845 : Int32))), .unset, .unset, .unset, .unset, .unset, .unset, .unset, .unset, .unset, .unset, .unset] [(.int p5)])) (fun _ k => XS.iload X2.here hx rfl (hb hby at_46) rfl  k) ?_
  refine Go.step (g' := (mkF m 49 #[.val (.int p0), .val (.int p1), .val (.int p2), .val (.int p3), .val (.int p4), .val (.int p5), .val (.int cp), .val (.int ii), .val (.int jj), .val (.ref b1), .val (.int (p5 ^^^ (21845 : Int32))), .unset, .unset, .unset, .unset, .unset, .unset, .unset, .unset, .unset, .unset, .unset] [(.double (FP.i2d p5))])) (fun _ k => XS.i2dS X2.here hx rfl (hb hby at_48) rfl rfl k) ?_
  refine Go.step (g' := (mkF m 51 #[.val (.int p0), .val (.int p1), .val (.int p2), .val (.int p3), .val (.int p4), .val (.int p5), .val (.int cp), .val (.int ii), .val (.int jj), .val (.ref b1), .val (.int (p5 ^^^ (21845 : Int32))), .val (.double (FP.i2d p5)), .second, .unset, .unset, .unset, .unset, .unset, .unset, .unset, .unset, .unset] [])) (fun _ k => XS.dstore X2.here hx rfl (hb hby at_49) rfl (l' := #[.val (.int p0), .val (.int p1), .val (.int p2), .val (.int p3), .val (.int p4), .val (.int p5), .val (.int cp), .val (.int ii), .val (.int jj), .val (.ref b1), .val (.int (p5 ^^^ (21845 : Int32))), .val (.double (FP.i2d p5)), .second, .unset, .unset, .unset, .unset, .unset, .unset, .unset, .unset, .unset]) rfl k) ?_
  refine Go.step (g' := (mkF m 53 #[.val (.int p0), .val (.int p1), .val (.int p2), .val (.int p3), .val (.int p4), .val (.int p5), .val (.int cp), .val (.int ii), .val (.int jj), .val (.ref b1), .val (.int (p5 ^^^ (21845 : Int32))), .val (.double (FP.i2d p5)), .second, .unset, .unset, .unset, .unset, .unset, .unset, .unset, .unset, .unset] [(.int p5)])) (fun _ k => XS.iload X2.here hx rfl (hb hby at_51) rfl  k) ?_
  refine Go.step (g' := (mkF m 54 #[.val (.int p0), .val (.int p1), .val (.int p2), .val (.int p3), .val (.int p4), .val (.int p5), .val (.int cp), .val (.int ii), .val (.int jj), .val (.ref b1), .val (.int (p5 ^^^ (21845 : Int32))), .val (.double (FP.i2d p5)), .second, .unset, .unset, .unset, .unset, .unset, .unset, .unset, .unset, .unset] [(.int (1 : Int32)), (.int p5)])) (fun _ k => XS.iconst X2.here hx rfl (hb hby at_53) k) ?_
  refine Go.step (g' := (mkF m 55 #[.val (.int p0), .val (.int p1), .val (.int p2), .val (.int p3), .val (.int p4), .val (.int p5), .val (.int cp), .val (.int ii), .val (.int jj), .val (.ref b1), .val (.int (p5 ^^^ (21845 : Int32))), .val (.double (FP.i2d p5)), .second, .unset, .unset, .unset, .unset, .unset, .unset, .unset, .unset, .unset] [(.int (p5 ^^^ (1 : Int32)))])) (fun _ k => XS.ixor X2.here hx rfl (hb hby at_54) rfl k) ?_
  refine Go.step (g' := (mkF m 56 #[.val (.int p0), .val (.int p1), .val (.int p2), .val (.int p3), .val (.int p4), .val (.int p5), .val (.int cp), .val (.int ii), .val (.int jj), .val (.ref b1), .val (.int (p5 ^^^ (21845 : Int32))), .val (.double (FP.i2d p5)), .second, .unset, .unset, .unset, .unset, .unset, .unset, .unset, .unset, .unset] [(.double (FP.i2d (p5 ^^^ (1 : Int32))))])) (fun _ k => XS.i2dS X2.here hx rfl (hb hby at_55) rfl rfl k) ?_
  refine Go.step (g' := (mkF m 58 #[.val (.int p0), .val (.int p1), .val (.int p2), .val (.int p3), .val (.int p4), .val (.int p5), .val (.int cp), .val (.int ii), .val (.int jj), .val (.ref b1), .val (.int (p5 ^^^ (21845 : Int32))), .val (.double (FP.i2d p5)), .second, .val (.double (FP.i2d (p5 ^^^ (1 : Int32)))), .second, .unset, .unset, .unset, .unset, .unset, .unset, .unset] [])) (fun _ k => XS.dstore X2.here hx rfl (hb hby at_56) rfl (l' := #[.val (.int p0), .val (.int p1), .val (.int p2), .val (.int p3), .val (.int p4), .val (.int p5), .val (.int cp), .val (.int ii), .val (.int jj), .val (.ref b1), .val (.int (p5 ^^^ (21845 : Int32))), .val (.double (FP.i2d p5)), .second, .val (.double (FP.i2d (p5 ^^^ (1 : Int32)))), .second, .unset, .unset, .unset, .unset, .unset, .unset, .unset]) rfl k) ?_
  refine Go.step (g' := (mkF m 60 #[.val (.int p0), .val (.int p1), .val (.int p2), .val (.int p3), .val (.int p4), .val (.int p5), .val (.int cp), .val (.int ii), .val (.int jj), .val (.ref b1), .val (.int (p5 ^^^ (21845 : Int32))), .val (.double (FP.i2d p5)), .second, .val (.double (FP.i2d (p5 ^^^ (1 : Int32)))), .second, .unset, .unset, .unset, .unset, .unset, .unset, .unset] [(.ref b1)])) (fun _ k => XS.aload X2.here hx rfl (hb hby at_58) rfl rfl  k) ?_
  refine Go.step (g' := (mkF m 62 #[.val (.int p0), .val (.int p1), .val (.int p2), .val (.int p3), .val (.int p4), .val (.int p5), .val (.int cp), .val (.int ii), .val (.int jj), .val (.ref b1), .val (.int (p5 ^^^ (21845 : Int32))), .val (.double (FP.i2d p5)), .second, .val (.double (FP.i2d (p5 ^^^ (1 : Int32)))), .second, .unset, .unset, .unset, .unset, .unset, .unset, .unset] [(.int jj), (.ref b1)])) (fun _ k => XS.iload X2.here hx rfl (hb hby at_60) rfl  k) ?_
  refine Go.step (g' := (mkF m 64 #[.val (.int p0), .val (.int p1), .val (.int p2), .val (.int p3), .val (.int p4), .val (.int p5), .val (.int cp), .val (.int ii), .val (.int jj), .val (.ref b1), .val (.int (p5 ^^^ (21845 : Int32))), .val (.double (FP.i2d p5)), .second, .val (.double (FP.i2d (p5 ^^^ (1 : Int32)))), .second, .unset, .unset, .unset, .unset, .unset, .unset, .unset] [(.int p5), (.int jj), (.ref b1)])) (fun _ k => XS.iload X2.here hx rfl (hb hby at_62) rfl  k) ?_
  refine Go.step (g' := (mkF m 66 #[.val (.int p0), .val (.int p1), .val (.int p2), .val (.int p3), .val (.int p4), .val (.int p5), .val (.int cp), .val (.int ii), .val (.int jj), .val (.ref b1), .val (.int (p5 ^^^ (21845 : Int32))), .val (.double (FP.i2d p5)), .second, .val (.double (FP.i2d (p5 ^^^ (1 : Int32)))), .second, .unset, .unset, .unset, .unset, .unset, .unset, .unset] [(.int (p5 ^^^ (21845 : Int32))), (.int p5), (.int jj), (.ref b1)])) (fun _ k => XS.iload X2.here hx rfl (hb hby at_64) rfl  k) ?_
  refine Go.step (g' := (mkF m 68 #[.val (.int p0), .val (.int p1), .val (.int p2), .val (.int p3), .val (.int p4), .val (.int p5), .val (.int cp), .val (.int ii), .val (.int jj), .val (.ref b1), .val (.int (p5 ^^^ (21845 : Int32))), .val (.double (FP.i2d p5)), .second, .val (.double (FP.i2d (p5 ^^^ (1 : Int32)))), .second, .unset, .unset, .unset, .unset, .unset, .unset, .unset] [(.double (FP.i2d p5)), (.int (p5 ^^^ (21845 : Int32))), (.int p5), (.int jj), (.ref b1)])) (fun _ k => XS.dload X2.here hx rfl (hb hby at_66) rfl k) ?_
  refine Go.step (g' := (mkF m 70 #[.val (.int p0), .val (.int p1), .val (.int p2), .val (.int p3), .val (.int p4), .val (.int p5), .val (.int cp), .val (.int ii), .val (.int jj), .val (.ref b1), .val (.int (p5 ^^^ (21845 : Int32))), .val (.double (FP.i2d p5)), .second, .val (.double (FP.i2d (p5 ^^^ (1 : Int32)))), .second, .unset, .unset, .unset, .unset, .unset, .unset, .unset] [(.double (FP.i2d (p5 ^^^ (1 : Int32)))), (.double (FP.i2d p5)), (.int (p5 ^^^ (21845 : Int32))), (.int p5), (.int jj), (.ref b1)])) (fun _ k => XS.dload X2.here hx rfl (hb hby at_68) rfl k) ?_
  obtain ⟨cq4, kq4, q4a, q4b, q4c⟩ := isOf hZ rfl Ei2
  obtain ⟨_, _, ⟨T4, L4, k4, n4⟩, -, X4, ⟨Lc4, hQ4, l4, y4, z4⟩, st4⟩ := X2.virtualBack hx (y := (⟨"com/example/rhadamanthus/rhadamanthus/learn/HeldBins", "set", "(IIIDD)V"⟩ : MethodName)) (z := (⟨"com/example/rhadamanthus/rhadamanthus/learn/HeldBins", "set", "(IIIDD)V"⟩ : MethodName)) hown (mvT hZ (hw _ (List.mem_of_getElem? (i := 17) rfl))) (mvT hZ (hw _ (List.mem_of_getElem? (i := 18) rfl))) (notFace_of_selects (args := #[]) (mvT hZ (hw _ (List.mem_of_getElem? (i := 20) rfl)))) (mvT hZ (hw _ (List.mem_of_getElem? (i := 20) rfl))) (mvT hZ (hw _ (List.mem_of_getElem? (i := 19) rfl))) (by decide) (backOf (W := 0) (rm3 l Z a0 hw [] b1 jj p5 (p5 ^^^ (21845 : Int32)) (FP.i2d p5) (FP.i2d (p5 ^^^ (1 : Int32))) f2 bb2 c2 cp.toNatClampNeg ((2 : Int32) * cp).toNatClampNeg (fun _ => (0 : Int32)) (fun _ => (0 : Int32)) (fun _ => (0 : UInt64)) T2.heap n0 (Nat.le_trans (Nat.le_trans Z0 E1.1) K2.1) Ff2 Fb2 Fc2 Af2 Ab2 Ac2 ne_b1_f2 ne_b1_bb2 ne_b1_c2 fb2 fc2 bc2 g_f2 g_bb2 g_c2 Djj.2.2.1 Djj.2.2.2.1 Djj.2.2.2.2) hZ (hw _ (List.mem_of_getElem? (i := 21) rfl)) (hw _ (List.mem_of_getElem? (i := 2) rfl)) (by decide) (by decide)) q4a q4c (g := (mkF m 70 #[.val (.int p0), .val (.int p1), .val (.int p2), .val (.int p3), .val (.int p4), .val (.int p5), .val (.int cp), .val (.int ii), .val (.int jj), .val (.ref b1), .val (.int (p5 ^^^ (21845 : Int32))), .val (.double (FP.i2d p5)), .second, .val (.double (FP.i2d (p5 ^^^ (1 : Int32)))), .second, .unset, .unset, .unset, .unset, .unset, .unset, .unset] [(.double (FP.i2d (p5 ^^^ (1 : Int32)))), (.double (FP.i2d p5)), (.int (p5 ^^^ (21845 : Int32))), (.int p5), (.int jj), (.ref b1)])) rfl (by rw [hml]; rfl) (Steps.refl _) (argsL := [(.int jj), (.int p5), (.int (p5 ^^^ (21845 : Int32))), (.double (FP.i2d p5)), (.double (FP.i2d (p5 ^^^ (1 : Int32))))]) (rest := []) (lenOf pd_1 rfl) rfl (by show 2 * 0 + _ ≤ _; exact Nat.le_of_eq rfl) (hb hby at_70) (fun _ _ => ⟨rfl, rfl, (by decide : ((0 + 1) + 3) + 0 ≤ _), (by decide : ((0 + 4) + 16) + 0 ≤ _)⟩)
  dsimp only [Pt.U, Pt.locs, Pt.cells, Pt.slots] at X4 l4 y4 z4 st4 hQ4
  subst l4 y4 z4
  obtain ⟨rfl, N4q, K4, Af4, Ab4, Ac4⟩ := hQ4
  obtain ⟨lc4, X4, N4⟩ := own_pack X4 (Fr.app N2 N4q)
  have Q5 := (Ff2.keep K4 (ninS ne_b1_f2 (ninS ne_b1_bb2 (ninS ne_b1_c2 nin0))))
  have Q6 := (Fb2.keep K4 (ninS ne_b1_f2 (ninS ne_b1_bb2 (ninS ne_b1_c2 nin0))))
  have Q7 := (Fc2.keep K4 (ninS ne_b1_f2 (ninS ne_b1_bb2 (ninS ne_b1_c2 nin0))))
  have Q8 := (Fs2.keep K4 (ninS ne_b1_f2 (ninS ne_b1_bb2 (ninS ne_b1_c2 nin0))))
  have Q9 := (Nat.le_trans (Nat.le_trans (Nat.le_trans Z0 E1.1) K2.1) K4.1)
  have Q10 := (Q3.trans K4 (allS (Or.inr sz_f2) (allS (Or.inr sz_bb2) (allS (Or.inr sz_c2) all0))))
  refine Go.step (g' := (mkF m 73 #[.val (.int p0), .val (.int p1), .val (.int p2), .val (.int p3), .val (.int p4), .val (.int p5), .val (.int cp), .val (.int ii), .val (.int jj), .val (.ref b1), .val (.int (p5 ^^^ (21845 : Int32))), .val (.double (FP.i2d p5)), .second, .val (.double (FP.i2d (p5 ^^^ (1 : Int32)))), .second, .unset, .unset, .unset, .unset, .unset, .unset, .unset] [])) (fun _ k => st4.trans k) ?_
  refine Go.step (g' := (mkF m 74 #[.val (.int p0), .val (.int p1), .val (.int p2), .val (.int p3), .val (.int p4), .val (.int p5), .val (.int cp), .val (.int ii), .val (.int jj), .val (.ref b1), .val (.int (p5 ^^^ (21845 : Int32))), .val (.double (FP.i2d p5)), .second, .val (.double (FP.i2d (p5 ^^^ (1 : Int32)))), .second, .unset, .unset, .unset, .unset, .unset, .unset, .unset] [(.int p3)])) (fun _ k => XS.iloadN X4.here hx rfl (hb hby at_73) rfl  k) ?_
  refine Go.step (g' := (mkF m 75 #[.val (.int p0), .val (.int p1), .val (.int p2), .val (.int p3), .val (.int p4), .val (.int p5), .val (.int cp), .val (.int ii), .val (.int jj), .val (.ref b1), .val (.int (p5 ^^^ (21845 : Int32))), .val (.double (FP.i2d p5)), .second, .val (.double (FP.i2d (p5 ^^^ (1 : Int32)))), .second, .unset, .unset, .unset, .unset, .unset, .unset, .unset] [(.double (FP.i2d p3))])) (fun _ k => XS.i2dS X4.here hx rfl (hb hby at_74) rfl rfl k) ?_
  refine Go.step (g' := (mkF m 77 #[.val (.int p0), .val (.int p1), .val (.int p2), .val (.int p3), .val (.int p4), .val (.int p5), .val (.int cp), .val (.int ii), .val (.int jj), .val (.ref b1), .val (.int (p5 ^^^ (21845 : Int32))), .val (.double (FP.i2d p5)), .second, .val (.double (FP.i2d (p5 ^^^ (1 : Int32)))), .second, .val (.double (FP.i2d p3)), .second, .unset, .unset, .unset, .unset, .unset] [])) (fun _ k => XS.dstore X4.here hx rfl (hb hby at_75) rfl (l' := #[.val (.int p0), .val (.int p1), .val (.int p2), .val (.int p3), .val (.int p4), .val (.int p5), .val (.int cp), .val (.int ii), .val (.int jj), .val (.ref b1), .val (.int (p5 ^^^ (21845 : Int32))), .val (.double (FP.i2d p5)), .second, .val (.double (FP.i2d (p5 ^^^ (1 : Int32)))), .second, .val (.double (FP.i2d p3)), .second, .unset, .unset, .unset, .unset, .unset]) rfl k) ?_
  refine Go.step (g' := (mkF m 79 #[.val (.int p0), .val (.int p1), .val (.int p2), .val (.int p3), .val (.int p4), .val (.int p5), .val (.int cp), .val (.int ii), .val (.int jj), .val (.ref b1), .val (.int (p5 ^^^ (21845 : Int32))), .val (.double (FP.i2d p5)), .second, .val (.double (FP.i2d (p5 ^^^ (1 : Int32)))), .second, .val (.double (FP.i2d p3)), .second, .unset, .unset, .unset, .unset, .unset] [(.int p4)])) (fun _ k => XS.iload X4.here hx rfl (hb hby at_77) rfl  k) ?_
  refine Go.step (g' := (mkF m 80 #[.val (.int p0), .val (.int p1), .val (.int p2), .val (.int p3), .val (.int p4), .val (.int p5), .val (.int cp), .val (.int ii), .val (.int jj), .val (.ref b1), .val (.int (p5 ^^^ (21845 : Int32))), .val (.double (FP.i2d p5)), .second, .val (.double (FP.i2d (p5 ^^^ (1 : Int32)))), .second, .val (.double (FP.i2d p3)), .second, .unset, .unset, .unset, .unset, .unset] [(.double (FP.i2d p4))])) (fun _ k => XS.i2dS X4.here hx rfl (hb hby at_79) rfl rfl k) ?_
  refine Go.step (g' := (mkF m 82 #[.val (.int p0), .val (.int p1), .val (.int p2), .val (.int p3), .val (.int p4), .val (.int p5), .val (.int cp), .val (.int ii), .val (.int jj), .val (.ref b1), .val (.int (p5 ^^^ (21845 : Int32))), .val (.double (FP.i2d p5)), .second, .val (.double (FP.i2d (p5 ^^^ (1 : Int32)))), .second, .val (.double (FP.i2d p3)), .second, .val (.double (FP.i2d p4)), .second, .unset, .unset, .unset] [])) (fun _ k => XS.dstore X4.here hx rfl (hb hby at_80) rfl (l' := #[.val (.int p0), .val (.int p1), .val (.int p2), .val (.int p3), .val (.int p4), .val (.int p5), .val (.int cp), .val (.int ii), .val (.int jj), .val (.ref b1), .val (.int (p5 ^^^ (21845 : Int32))), .val (.double (FP.i2d p5)), .second, .val (.double (FP.i2d (p5 ^^^ (1 : Int32)))), .second, .val (.double (FP.i2d p3)), .second, .val (.double (FP.i2d p4)), .second, .unset, .unset, .unset]) rfl k) ?_
  refine Go.step (g' := (mkF m 84 #[.val (.int p0), .val (.int p1), .val (.int p2), .val (.int p3), .val (.int p4), .val (.int p5), .val (.int cp), .val (.int ii), .val (.int jj), .val (.ref b1), .val (.int (p5 ^^^ (21845 : Int32))), .val (.double (FP.i2d p5)), .second, .val (.double (FP.i2d (p5 ^^^ (1 : Int32)))), .second, .val (.double (FP.i2d p3)), .second, .val (.double (FP.i2d p4)), .second, .unset, .unset, .unset] [(.ref b1)])) (fun _ k => XS.aload X4.here hx rfl (hb hby at_82) rfl rfl  k) ?_
  refine Go.step (g' := (mkF m 86 #[.val (.int p0), .val (.int p1), .val (.int p2), .val (.int p3), .val (.int p4), .val (.int p5), .val (.int cp), .val (.int ii), .val (.int jj), .val (.ref b1), .val (.int (p5 ^^^ (21845 : Int32))), .val (.double (FP.i2d p5)), .second, .val (.double (FP.i2d (p5 ^^^ (1 : Int32)))), .second, .val (.double (FP.i2d p3)), .second, .val (.double (FP.i2d p4)), .second, .unset, .unset, .unset] [(.int ii), (.ref b1)])) (fun _ k => XS.iload X4.here hx rfl (hb hby at_84) rfl  k) ?_
  refine Go.step (g' := (mkF m 87 #[.val (.int p0), .val (.int p1), .val (.int p2), .val (.int p3), .val (.int p4), .val (.int p5), .val (.int cp), .val (.int ii), .val (.int jj), .val (.ref b1), .val (.int (p5 ^^^ (21845 : Int32))), .val (.double (FP.i2d p5)), .second, .val (.double (FP.i2d (p5 ^^^ (1 : Int32)))), .second, .val (.double (FP.i2d p3)), .second, .val (.double (FP.i2d p4)), .second, .unset, .unset, .unset] [(.int p1), (.int ii), (.ref b1)])) (fun _ k => XS.iloadN X4.here hx rfl (hb hby at_86) rfl  k) ?_
  refine Go.step (g' := (mkF m 88 #[.val (.int p0), .val (.int p1), .val (.int p2), .val (.int p3), .val (.int p4), .val (.int p5), .val (.int cp), .val (.int ii), .val (.int jj), .val (.ref b1), .val (.int (p5 ^^^ (21845 : Int32))), .val (.double (FP.i2d p5)), .second, .val (.double (FP.i2d (p5 ^^^ (1 : Int32)))), .second, .val (.double (FP.i2d p3)), .second, .val (.double (FP.i2d p4)), .second, .unset, .unset, .unset] [(.int p2), (.int p1), (.int ii), (.ref b1)])) (fun _ k => XS.iloadN X4.here hx rfl (hb hby at_87) rfl  k) ?_
  refine Go.step (g' := (mkF m 90 #[.val (.int p0), .val (.int p1), .val (.int p2), .val (.int p3), .val (.int p4), .val (.int p5), .val (.int cp), .val (.int ii), .val (.int jj), .val (.ref b1), .val (.int (p5 ^^^ (21845 : Int32))), .val (.double (FP.i2d p5)), .second, .val (.double (FP.i2d (p5 ^^^ (1 : Int32)))), .second, .val (.double (FP.i2d p3)), .second, .val (.double (FP.i2d p4)), .second, .unset, .unset, .unset] [(.double (FP.i2d p3)), (.int p2), (.int p1), (.int ii), (.ref b1)])) (fun _ k => XS.dload X4.here hx rfl (hb hby at_88) rfl k) ?_
  refine Go.step (g' := (mkF m 92 #[.val (.int p0), .val (.int p1), .val (.int p2), .val (.int p3), .val (.int p4), .val (.int p5), .val (.int cp), .val (.int ii), .val (.int jj), .val (.ref b1), .val (.int (p5 ^^^ (21845 : Int32))), .val (.double (FP.i2d p5)), .second, .val (.double (FP.i2d (p5 ^^^ (1 : Int32)))), .second, .val (.double (FP.i2d p3)), .second, .val (.double (FP.i2d p4)), .second, .unset, .unset, .unset] [(.double (FP.i2d p4)), (.double (FP.i2d p3)), (.int p2), (.int p1), (.int ii), (.ref b1)])) (fun _ k => XS.dload X4.here hx rfl (hb hby at_90) rfl k) ?_
  obtain ⟨cq11, kq11, q11a, q11b, q11c⟩ := isOf hZ rfl (Ei2.keep K4)
  obtain ⟨_, _, ⟨T11, L11, k11, n11⟩, -, X11, ⟨Lc11, hQ11, l11, y11, z11⟩, st11⟩ := X4.virtualBack hx (y := (⟨"com/example/rhadamanthus/rhadamanthus/learn/HeldBins", "set", "(IIIDD)V"⟩ : MethodName)) (z := (⟨"com/example/rhadamanthus/rhadamanthus/learn/HeldBins", "set", "(IIIDD)V"⟩ : MethodName)) hown (mvT hZ (hw _ (List.mem_of_getElem? (i := 17) rfl))) (mvT hZ (hw _ (List.mem_of_getElem? (i := 18) rfl))) (notFace_of_selects (args := #[]) (mvT hZ (hw _ (List.mem_of_getElem? (i := 20) rfl)))) (mvT hZ (hw _ (List.mem_of_getElem? (i := 20) rfl))) (mvT hZ (hw _ (List.mem_of_getElem? (i := 19) rfl))) (by decide) (backOf (W := 0) (rm3 l Z a0 hw [] b1 ii p1 p2 (FP.i2d p3) (FP.i2d p4) f2 bb2 c2 cp.toNatClampNeg ((2 : Int32) * cp).toNatClampNeg (upd (fun _ => (0 : Int32)) jj.toNatClampNeg p5) (upd (fun _ => (0 : Int32)) jj.toNatClampNeg (p5 ^^^ (21845 : Int32))) (upd (upd (fun _ => (0 : UInt64)) ((2 : Int32) * jj).toNatClampNeg (FP.i2d p5)) (((2 : Int32) * jj) + (1 : Int32)).toNatClampNeg (FP.i2d (p5 ^^^ (1 : Int32)))) T4.heap n0 Q9 Q5 Q6 Q7 Af4 Ab4 Ac4 ne_b1_f2 ne_b1_bb2 ne_b1_c2 fb2 fc2 bc2 g_f2 g_bb2 g_c2 Dii.2.2.1 Dii.2.2.2.1 Dii.2.2.2.2) hZ (hw _ (List.mem_of_getElem? (i := 21) rfl)) (hw _ (List.mem_of_getElem? (i := 2) rfl)) (by decide) (by decide)) q11a q11c (g := (mkF m 92 #[.val (.int p0), .val (.int p1), .val (.int p2), .val (.int p3), .val (.int p4), .val (.int p5), .val (.int cp), .val (.int ii), .val (.int jj), .val (.ref b1), .val (.int (p5 ^^^ (21845 : Int32))), .val (.double (FP.i2d p5)), .second, .val (.double (FP.i2d (p5 ^^^ (1 : Int32)))), .second, .val (.double (FP.i2d p3)), .second, .val (.double (FP.i2d p4)), .second, .unset, .unset, .unset] [(.double (FP.i2d p4)), (.double (FP.i2d p3)), (.int p2), (.int p1), (.int ii), (.ref b1)])) rfl (by rw [hml]; rfl) (Steps.refl _) (argsL := [(.int ii), (.int p1), (.int p2), (.double (FP.i2d p3)), (.double (FP.i2d p4))]) (rest := []) (lenOf pd_1 rfl) rfl (by show 2 * 0 + _ ≤ _; exact Nat.le_of_eq rfl) (hb hby at_92) (fun _ _ => ⟨rfl, rfl, (by decide : (((0 + 1) + 3) + 0) + 0 ≤ _), (by decide : (((0 + 4) + 16) + 0) + 0 ≤ _)⟩)
  dsimp only [Pt.U, Pt.locs, Pt.cells, Pt.slots] at X11 l11 y11 z11 st11 hQ11
  subst l11 y11 z11
  obtain ⟨rfl, N11q, K11, Af11, Ab11, Ac11⟩ := hQ11
  obtain ⟨lc11, X11, N11⟩ := own_pack X11 (Fr.app N4 N11q)
  have Q12 := (Q5.keep K11 (ninS ne_b1_f2 (ninS ne_b1_bb2 (ninS ne_b1_c2 nin0))))
  have Q13 := (Q6.keep K11 (ninS ne_b1_f2 (ninS ne_b1_bb2 (ninS ne_b1_c2 nin0))))
  have Q14 := (Q7.keep K11 (ninS ne_b1_f2 (ninS ne_b1_bb2 (ninS ne_b1_c2 nin0))))
  have Q15 := (Q8.keep K11 (ninS ne_b1_f2 (ninS ne_b1_bb2 (ninS ne_b1_c2 nin0))))
  have Q16 := (Q10.trans K11 (allS (Or.inr sz_f2) (allS (Or.inr sz_bb2) (allS (Or.inr sz_c2) all0))))
  refine Go.step (g' := (mkF m 95 #[.val (.int p0), .val (.int p1), .val (.int p2), .val (.int p3), .val (.int p4), .val (.int p5), .val (.int cp), .val (.int ii), .val (.int jj), .val (.ref b1), .val (.int (p5 ^^^ (21845 : Int32))), .val (.double (FP.i2d p5)), .second, .val (.double (FP.i2d (p5 ^^^ (1 : Int32)))), .second, .val (.double (FP.i2d p3)), .second, .val (.double (FP.i2d p4)), .second, .unset, .unset, .unset] [])) (fun _ k => st11.trans k) ?_
  refine Go.step (g' := (mkF m 97 #[.val (.int p0), .val (.int p1), .val (.int p2), .val (.int p3), .val (.int p4), .val (.int p5), .val (.int cp), .val (.int ii), .val (.int jj), .val (.ref b1), .val (.int (p5 ^^^ (21845 : Int32))), .val (.double (FP.i2d p5)), .second, .val (.double (FP.i2d (p5 ^^^ (1 : Int32)))), .second, .val (.double (FP.i2d p3)), .second, .val (.double (FP.i2d p4)), .second, .unset, .unset, .unset] [(.ref b1)])) (fun _ k => XS.aload X11.here hx rfl (hb hby at_95) rfl rfl  k) ?_
  obtain ⟨cq17, kq17, q17a, q17b, q17c⟩ := isOf hZ rfl ((Ei2.keep K4).keep K11)
  obtain ⟨_, _, ⟨T17, L17, k17, n17⟩, -, X17, ⟨Lc17, hQ17, l17, y17, z17⟩, st17⟩ := X11.virtualBack hx (y := (⟨"com/example/rhadamanthus/rhadamanthus/learn/HeldBins", "features", "()[I"⟩ : MethodName)) (z := (⟨"com/example/rhadamanthus/rhadamanthus/learn/HeldBins", "features", "()[I"⟩ : MethodName)) hown (mvT hZ (hw _ (List.mem_of_getElem? (i := 22) rfl))) (mvT hZ (hw _ (List.mem_of_getElem? (i := 23) rfl))) (notFace_of_selects (args := #[]) (mvT hZ (hw _ (List.mem_of_getElem? (i := 25) rfl)))) (mvT hZ (hw _ (List.mem_of_getElem? (i := 25) rfl))) (mvT hZ (hw _ (List.mem_of_getElem? (i := 24) rfl))) (by decide) (backOf (W := 0) (rm4 l Z a0 hw [] b1 f2 T11.heap Q12) hZ (hw _ (List.mem_of_getElem? (i := 26) rfl)) (hw _ (List.mem_of_getElem? (i := 2) rfl)) (by decide) (by decide)) q17a q17c (g := (mkF m 97 #[.val (.int p0), .val (.int p1), .val (.int p2), .val (.int p3), .val (.int p4), .val (.int p5), .val (.int cp), .val (.int ii), .val (.int jj), .val (.ref b1), .val (.int (p5 ^^^ (21845 : Int32))), .val (.double (FP.i2d p5)), .second, .val (.double (FP.i2d (p5 ^^^ (1 : Int32)))), .second, .val (.double (FP.i2d p3)), .second, .val (.double (FP.i2d p4)), .second, .unset, .unset, .unset] [(.ref b1)])) rfl (by rw [hml]; rfl) (Steps.refl _) (argsL := []) (rest := []) (lenOf pd_2 rfl) rfl (by show 2 * 0 + _ ≤ _; exact Nat.le_of_eq rfl) (hb hby at_97) (fun _ _ => ⟨rfl, rfl, (by decide : ((((0 + 1) + 3) + 0) + 0) + 0 ≤ _), (by decide : ((((0 + 4) + 16) + 0) + 0) + 0 ≤ _)⟩)
  dsimp only [Pt.U, Pt.locs, Pt.cells, Pt.slots] at X17 l17 y17 z17 st17 hQ17
  subst l17 y17 z17
  obtain ⟨rfl, rfl, e17⟩ := hQ17
  try rw [List.append_nil] at X17
  refine Go.step (g' := (mkF m 100 #[.val (.int p0), .val (.int p1), .val (.int p2), .val (.int p3), .val (.int p4), .val (.int p5), .val (.int cp), .val (.int ii), .val (.int jj), .val (.ref b1), .val (.int (p5 ^^^ (21845 : Int32))), .val (.double (FP.i2d p5)), .second, .val (.double (FP.i2d (p5 ^^^ (1 : Int32)))), .second, .val (.double (FP.i2d p3)), .second, .val (.double (FP.i2d p4)), .second, .unset, .unset, .unset] [(.ref f2)])) (fun _ k => st17.trans k) ?_
  refine Go.step (g' := (mkF m 102 #[.val (.int p0), .val (.int p1), .val (.int p2), .val (.int p3), .val (.int p4), .val (.int p5), .val (.int cp), .val (.int ii), .val (.int jj), .val (.ref b1), .val (.int (p5 ^^^ (21845 : Int32))), .val (.double (FP.i2d p5)), .second, .val (.double (FP.i2d (p5 ^^^ (1 : Int32)))), .second, .val (.double (FP.i2d p3)), .second, .val (.double (FP.i2d p4)), .second, .val (.ref f2), .unset, .unset] [])) (fun _ k => XS.astore X17.here hx rfl (hb hby at_100) rfl rfl (l' := #[.val (.int p0), .val (.int p1), .val (.int p2), .val (.int p3), .val (.int p4), .val (.int p5), .val (.int cp), .val (.int ii), .val (.int jj), .val (.ref b1), .val (.int (p5 ^^^ (21845 : Int32))), .val (.double (FP.i2d p5)), .second, .val (.double (FP.i2d (p5 ^^^ (1 : Int32)))), .second, .val (.double (FP.i2d p3)), .second, .val (.double (FP.i2d p4)), .second, .val (.ref f2), .unset, .unset]) rfl k) ?_
  refine Go.step (g' := (mkF m 104 #[.val (.int p0), .val (.int p1), .val (.int p2), .val (.int p3), .val (.int p4), .val (.int p5), .val (.int cp), .val (.int ii), .val (.int jj), .val (.ref b1), .val (.int (p5 ^^^ (21845 : Int32))), .val (.double (FP.i2d p5)), .second, .val (.double (FP.i2d (p5 ^^^ (1 : Int32)))), .second, .val (.double (FP.i2d p3)), .second, .val (.double (FP.i2d p4)), .second, .val (.ref f2), .unset, .unset] [(.ref b1)])) (fun _ k => XS.aload X17.here hx rfl (hb hby at_102) rfl rfl  k) ?_
  obtain ⟨cq18, kq18, q18a, q18b, q18c⟩ := isOf hZ e17 ((Ei2.keep K4).keep K11)
  obtain ⟨_, _, ⟨T18, L18, k18, n18⟩, -, X18, ⟨Lc18, hQ18, l18, y18, z18⟩, st18⟩ := X17.virtualBack hx (y := (⟨"com/example/rhadamanthus/rhadamanthus/learn/HeldBins", "bins", "()[I"⟩ : MethodName)) (z := (⟨"com/example/rhadamanthus/rhadamanthus/learn/HeldBins", "bins", "()[I"⟩ : MethodName)) hown (mvT hZ (hw _ (List.mem_of_getElem? (i := 27) rfl))) (mvT hZ (hw _ (List.mem_of_getElem? (i := 28) rfl))) (notFace_of_selects (args := #[]) (mvT hZ (hw _ (List.mem_of_getElem? (i := 30) rfl)))) (mvT hZ (hw _ (List.mem_of_getElem? (i := 30) rfl))) (mvT hZ (hw _ (List.mem_of_getElem? (i := 29) rfl))) (by decide) (backOf (W := 0) (rm5 l Z a0 hw [] b1 bb2 T11.heap Q13) hZ (hw _ (List.mem_of_getElem? (i := 31) rfl)) (hw _ (List.mem_of_getElem? (i := 2) rfl)) (by decide) (by decide)) q18a q18c (g := (mkF m 104 #[.val (.int p0), .val (.int p1), .val (.int p2), .val (.int p3), .val (.int p4), .val (.int p5), .val (.int cp), .val (.int ii), .val (.int jj), .val (.ref b1), .val (.int (p5 ^^^ (21845 : Int32))), .val (.double (FP.i2d p5)), .second, .val (.double (FP.i2d (p5 ^^^ (1 : Int32)))), .second, .val (.double (FP.i2d p3)), .second, .val (.double (FP.i2d p4)), .second, .val (.ref f2), .unset, .unset] [(.ref b1)])) rfl (by rw [hml]; rfl) (Steps.refl _) (argsL := []) (rest := []) (lenOf pd_2 rfl) rfl (by show 2 * 0 + _ ≤ _; exact Nat.le_of_eq rfl) (hb hby at_104) (fun _ _ => ⟨rfl, e17, (by decide : ((((0 + 1) + 3) + 0) + 0) + 0 ≤ _), (by decide : ((((0 + 4) + 16) + 0) + 0) + 0 ≤ _)⟩)
  dsimp only [Pt.U, Pt.locs, Pt.cells, Pt.slots] at X18 l18 y18 z18 st18 hQ18
  subst l18 y18 z18
  obtain ⟨rfl, rfl, e18⟩ := hQ18
  try rw [List.append_nil] at X18
  refine Go.step (g' := (mkF m 107 #[.val (.int p0), .val (.int p1), .val (.int p2), .val (.int p3), .val (.int p4), .val (.int p5), .val (.int cp), .val (.int ii), .val (.int jj), .val (.ref b1), .val (.int (p5 ^^^ (21845 : Int32))), .val (.double (FP.i2d p5)), .second, .val (.double (FP.i2d (p5 ^^^ (1 : Int32)))), .second, .val (.double (FP.i2d p3)), .second, .val (.double (FP.i2d p4)), .second, .val (.ref f2), .unset, .unset] [(.ref bb2)])) (fun _ k => st18.trans k) ?_
  refine Go.step (g' := (mkF m 109 #[.val (.int p0), .val (.int p1), .val (.int p2), .val (.int p3), .val (.int p4), .val (.int p5), .val (.int cp), .val (.int ii), .val (.int jj), .val (.ref b1), .val (.int (p5 ^^^ (21845 : Int32))), .val (.double (FP.i2d p5)), .second, .val (.double (FP.i2d (p5 ^^^ (1 : Int32)))), .second, .val (.double (FP.i2d p3)), .second, .val (.double (FP.i2d p4)), .second, .val (.ref f2), .val (.ref bb2), .unset] [])) (fun _ k => XS.astore X18.here hx rfl (hb hby at_107) rfl rfl (l' := #[.val (.int p0), .val (.int p1), .val (.int p2), .val (.int p3), .val (.int p4), .val (.int p5), .val (.int cp), .val (.int ii), .val (.int jj), .val (.ref b1), .val (.int (p5 ^^^ (21845 : Int32))), .val (.double (FP.i2d p5)), .second, .val (.double (FP.i2d (p5 ^^^ (1 : Int32)))), .second, .val (.double (FP.i2d p3)), .second, .val (.double (FP.i2d p4)), .second, .val (.ref f2), .val (.ref bb2), .unset]) rfl k) ?_
  refine Go.step (g' := (mkF m 111 #[.val (.int p0), .val (.int p1), .val (.int p2), .val (.int p3), .val (.int p4), .val (.int p5), .val (.int cp), .val (.int ii), .val (.int jj), .val (.ref b1), .val (.int (p5 ^^^ (21845 : Int32))), .val (.double (FP.i2d p5)), .second, .val (.double (FP.i2d (p5 ^^^ (1 : Int32)))), .second, .val (.double (FP.i2d p3)), .second, .val (.double (FP.i2d p4)), .second, .val (.ref f2), .val (.ref bb2), .unset] [(.ref b1)])) (fun _ k => XS.aload X18.here hx rfl (hb hby at_109) rfl rfl  k) ?_
  obtain ⟨cq19, kq19, q19a, q19b, q19c⟩ := isOf hZ e18 ((Ei2.keep K4).keep K11)
  obtain ⟨_, _, ⟨T19, L19, k19, n19⟩, -, X19, ⟨Lc19, hQ19, l19, y19, z19⟩, st19⟩ := X18.virtualBack hx (y := (⟨"com/example/rhadamanthus/rhadamanthus/learn/HeldBins", "cells", "()[D"⟩ : MethodName)) (z := (⟨"com/example/rhadamanthus/rhadamanthus/learn/HeldBins", "cells", "()[D"⟩ : MethodName)) hown (mvT hZ (hw _ (List.mem_of_getElem? (i := 32) rfl))) (mvT hZ (hw _ (List.mem_of_getElem? (i := 33) rfl))) (notFace_of_selects (args := #[]) (mvT hZ (hw _ (List.mem_of_getElem? (i := 35) rfl)))) (mvT hZ (hw _ (List.mem_of_getElem? (i := 35) rfl))) (mvT hZ (hw _ (List.mem_of_getElem? (i := 34) rfl))) (by decide) (backOf (W := 0) (rm6 l Z a0 hw [] b1 c2 T11.heap Q14) hZ (hw _ (List.mem_of_getElem? (i := 36) rfl)) (hw _ (List.mem_of_getElem? (i := 2) rfl)) (by decide) (by decide)) q19a q19c (g := (mkF m 111 #[.val (.int p0), .val (.int p1), .val (.int p2), .val (.int p3), .val (.int p4), .val (.int p5), .val (.int cp), .val (.int ii), .val (.int jj), .val (.ref b1), .val (.int (p5 ^^^ (21845 : Int32))), .val (.double (FP.i2d p5)), .second, .val (.double (FP.i2d (p5 ^^^ (1 : Int32)))), .second, .val (.double (FP.i2d p3)), .second, .val (.double (FP.i2d p4)), .second, .val (.ref f2), .val (.ref bb2), .unset] [(.ref b1)])) rfl (by rw [hml]; rfl) (Steps.refl _) (argsL := []) (rest := []) (lenOf pd_3 rfl) rfl (by show 2 * 0 + _ ≤ _; exact Nat.le_of_eq rfl) (hb hby at_111) (fun _ _ => ⟨rfl, e18, (by decide : ((((0 + 1) + 3) + 0) + 0) + 0 ≤ _), (by decide : ((((0 + 4) + 16) + 0) + 0) + 0 ≤ _)⟩)
  dsimp only [Pt.U, Pt.locs, Pt.cells, Pt.slots] at X19 l19 y19 z19 st19 hQ19
  subst l19 y19 z19
  obtain ⟨rfl, rfl, e19⟩ := hQ19
  try rw [List.append_nil] at X19
  refine Go.step (g' := (mkF m 114 #[.val (.int p0), .val (.int p1), .val (.int p2), .val (.int p3), .val (.int p4), .val (.int p5), .val (.int cp), .val (.int ii), .val (.int jj), .val (.ref b1), .val (.int (p5 ^^^ (21845 : Int32))), .val (.double (FP.i2d p5)), .second, .val (.double (FP.i2d (p5 ^^^ (1 : Int32)))), .second, .val (.double (FP.i2d p3)), .second, .val (.double (FP.i2d p4)), .second, .val (.ref f2), .val (.ref bb2), .unset] [(.ref c2)])) (fun _ k => st19.trans k) ?_
  refine Go.step (g' := (mkF m 116 #[.val (.int p0), .val (.int p1), .val (.int p2), .val (.int p3), .val (.int p4), .val (.int p5), .val (.int cp), .val (.int ii), .val (.int jj), .val (.ref b1), .val (.int (p5 ^^^ (21845 : Int32))), .val (.double (FP.i2d p5)), .second, .val (.double (FP.i2d (p5 ^^^ (1 : Int32)))), .second, .val (.double (FP.i2d p3)), .second, .val (.double (FP.i2d p4)), .second, .val (.ref f2), .val (.ref bb2), .val (.ref c2)] [])) (fun _ k => XS.astore X19.here hx rfl (hb hby at_114) rfl rfl (l' := #[.val (.int p0), .val (.int p1), .val (.int p2), .val (.int p3), .val (.int p4), .val (.int p5), .val (.int cp), .val (.int ii), .val (.int jj), .val (.ref b1), .val (.int (p5 ^^^ (21845 : Int32))), .val (.double (FP.i2d p5)), .second, .val (.double (FP.i2d (p5 ^^^ (1 : Int32)))), .second, .val (.double (FP.i2d p3)), .second, .val (.double (FP.i2d p4)), .second, .val (.ref f2), .val (.ref bb2), .val (.ref c2)]) rfl k) ?_
  refine Go.step (g' := (mkF m 118 #[.val (.int p0), .val (.int p1), .val (.int p2), .val (.int p3), .val (.int p4), .val (.int p5), .val (.int cp), .val (.int ii), .val (.int jj), .val (.ref b1), .val (.int (p5 ^^^ (21845 : Int32))), .val (.double (FP.i2d p5)), .second, .val (.double (FP.i2d (p5 ^^^ (1 : Int32)))), .second, .val (.double (FP.i2d p3)), .second, .val (.double (FP.i2d p4)), .second, .val (.ref f2), .val (.ref bb2), .val (.ref c2)] [(.ref b1)])) (fun _ k => XS.aload X19.here hx rfl (hb hby at_116) rfl rfl  k) ?_
  obtain ⟨cq20, kq20, q20a, q20b, q20c⟩ := isOf hZ e19 ((Ei2.keep K4).keep K11)
  obtain ⟨_, _, ⟨T20, L20, k20, n20⟩, -, X20, ⟨Lc20, hQ20, l20, y20, z20⟩, st20⟩ := X19.virtualBack hx (y := (⟨"com/example/rhadamanthus/rhadamanthus/learn/HeldBins", "size", "()I"⟩ : MethodName)) (z := (⟨"com/example/rhadamanthus/rhadamanthus/learn/HeldBins", "size", "()I"⟩ : MethodName)) hown (mvT hZ (hw _ (List.mem_of_getElem? (i := 37) rfl))) (mvT hZ (hw _ (List.mem_of_getElem? (i := 38) rfl))) (notFace_of_selects (args := #[]) (mvT hZ (hw _ (List.mem_of_getElem? (i := 40) rfl)))) (mvT hZ (hw _ (List.mem_of_getElem? (i := 40) rfl))) (mvT hZ (hw _ (List.mem_of_getElem? (i := 39) rfl))) (by decide) (backOf (W := 0) (rm7 l Z a0 hw [] b1 (0 : Int32) T11.heap Q15) hZ (hw _ (List.mem_of_getElem? (i := 41) rfl)) (hw _ (List.mem_of_getElem? (i := 2) rfl)) (by decide) (by decide)) q20a q20c (g := (mkF m 118 #[.val (.int p0), .val (.int p1), .val (.int p2), .val (.int p3), .val (.int p4), .val (.int p5), .val (.int cp), .val (.int ii), .val (.int jj), .val (.ref b1), .val (.int (p5 ^^^ (21845 : Int32))), .val (.double (FP.i2d p5)), .second, .val (.double (FP.i2d (p5 ^^^ (1 : Int32)))), .second, .val (.double (FP.i2d p3)), .second, .val (.double (FP.i2d p4)), .second, .val (.ref f2), .val (.ref bb2), .val (.ref c2)] [(.ref b1)])) rfl (by rw [hml]; rfl) (Steps.refl _) (argsL := []) (rest := []) (lenOf pd_4 rfl) rfl (by show 2 * 0 + _ ≤ _; exact Nat.le_of_eq rfl) (hb hby at_118) (fun _ _ => ⟨rfl, e19, (by decide : ((((0 + 1) + 3) + 0) + 0) + 0 ≤ _), (by decide : ((((0 + 4) + 16) + 0) + 0) + 0 ≤ _)⟩)
  dsimp only [Pt.U, Pt.locs, Pt.cells, Pt.slots] at X20 l20 y20 z20 st20 hQ20
  subst l20 y20 z20
  obtain ⟨rfl, rfl, e20⟩ := hQ20
  try rw [List.append_nil] at X20
  refine Go.step (g' := (mkF m 121 #[.val (.int p0), .val (.int p1), .val (.int p2), .val (.int p3), .val (.int p4), .val (.int p5), .val (.int cp), .val (.int ii), .val (.int jj), .val (.ref b1), .val (.int (p5 ^^^ (21845 : Int32))), .val (.double (FP.i2d p5)), .second, .val (.double (FP.i2d (p5 ^^^ (1 : Int32)))), .second, .val (.double (FP.i2d p3)), .second, .val (.double (FP.i2d p4)), .second, .val (.ref f2), .val (.ref bb2), .val (.ref c2)] [(.int (0 : Int32))])) (fun _ k => st20.trans k) ?_
  refine Go.step (g' := (mkF m 124 #[.val (.int p0), .val (.int p1), .val (.int p2), .val (.int p3), .val (.int p4), .val (.int p5), .val (.int cp), .val (.int ii), .val (.int jj), .val (.ref b1), .val (.int (p5 ^^^ (21845 : Int32))), .val (.double (FP.i2d p5)), .second, .val (.double (FP.i2d (p5 ^^^ (1 : Int32)))), .second, .val (.double (FP.i2d p3)), .second, .val (.double (FP.i2d p4)), .second, .val (.ref f2), .val (.ref bb2), .val (.ref c2)] [])) (fun _ k => XS.ifNo X20.here hx rfl (hb hby at_121) rfl ((if0 _ _).trans (teq (rfl : (0 : Int32) = (0 : Int32))).2) k) ?_
  rw [show (f0_27 ii jj) = (f0_124 ii jj) from rfl]
  refine Go.step (g' := (mkF m 126 #[.val (.int p0), .val (.int p1), .val (.int p2), .val (.int p3), .val (.int p4), .val (.int p5), .val (.int cp), .val (.int ii), .val (.int jj), .val (.ref b1), .val (.int (p5 ^^^ (21845 : Int32))), .val (.double (FP.i2d p5)), .second, .val (.double (FP.i2d (p5 ^^^ (1 : Int32)))), .second, .val (.double (FP.i2d p3)), .second, .val (.double (FP.i2d p4)), .second, .val (.ref f2), .val (.ref bb2), .val (.ref c2)] [(.ref b1)])) (fun _ k => XS.aload X20.here hx rfl (hb hby at_124) rfl rfl  k) ?_
  obtain ⟨cq21, kq21, q21a, q21b, q21c⟩ := isOf hZ e20 ((Ei2.keep K4).keep K11)
  obtain ⟨_, _, ⟨T21, L21, k21, n21⟩, -, X21, ⟨Lc21, hQ21, l21, y21, z21⟩, st21⟩ := X20.virtualBack hx (y := (⟨"com/example/rhadamanthus/rhadamanthus/learn/HeldBins", "capacity", "()I"⟩ : MethodName)) (z := (⟨"com/example/rhadamanthus/rhadamanthus/learn/HeldBins", "capacity", "()I"⟩ : MethodName)) hown (mvT hZ (hw _ (List.mem_of_getElem? (i := 44) rfl))) (mvT hZ (hw _ (List.mem_of_getElem? (i := 45) rfl))) (notFace_of_selects (args := #[]) (mvT hZ (hw _ (List.mem_of_getElem? (i := 47) rfl)))) (mvT hZ (hw _ (List.mem_of_getElem? (i := 47) rfl))) (mvT hZ (hw _ (List.mem_of_getElem? (i := 46) rfl))) (by decide) (backOf (W := 0) (rm8 l Z a0 hw [] b1 f2 cp.toNatClampNeg cp (upd (upd (fun _ => (0 : Int32)) jj.toNatClampNeg p5) ii.toNatClampNeg p1) T11.heap Q12 Af11 (back32 hcap0).1) hZ (hw _ (List.mem_of_getElem? (i := 48) rfl)) (hw _ (List.mem_of_getElem? (i := 2) rfl)) (by decide) (by decide)) q21a q21c (g := (mkF m 126 #[.val (.int p0), .val (.int p1), .val (.int p2), .val (.int p3), .val (.int p4), .val (.int p5), .val (.int cp), .val (.int ii), .val (.int jj), .val (.ref b1), .val (.int (p5 ^^^ (21845 : Int32))), .val (.double (FP.i2d p5)), .second, .val (.double (FP.i2d (p5 ^^^ (1 : Int32)))), .second, .val (.double (FP.i2d p3)), .second, .val (.double (FP.i2d p4)), .second, .val (.ref f2), .val (.ref bb2), .val (.ref c2)] [(.ref b1)])) rfl (by rw [hml]; rfl) (Steps.refl _) (argsL := []) (rest := []) (lenOf pd_4 rfl) rfl (by show 2 * 0 + _ ≤ _; exact Nat.le_of_eq rfl) (hb hby at_126) (fun _ _ => ⟨rfl, e20, (by decide : ((((0 + 1) + 3) + 0) + 0) + 0 ≤ _), (by decide : ((((0 + 4) + 16) + 0) + 0) + 0 ≤ _)⟩)
  dsimp only [Pt.U, Pt.locs, Pt.cells, Pt.slots] at X21 l21 y21 z21 st21 hQ21
  subst l21 y21 z21
  obtain ⟨rfl, rfl, e21⟩ := hQ21
  try rw [List.append_nil] at X21
  refine Go.step (g' := (mkF m 129 #[.val (.int p0), .val (.int p1), .val (.int p2), .val (.int p3), .val (.int p4), .val (.int p5), .val (.int cp), .val (.int ii), .val (.int jj), .val (.ref b1), .val (.int (p5 ^^^ (21845 : Int32))), .val (.double (FP.i2d p5)), .second, .val (.double (FP.i2d (p5 ^^^ (1 : Int32)))), .second, .val (.double (FP.i2d p3)), .second, .val (.double (FP.i2d p4)), .second, .val (.ref f2), .val (.ref bb2), .val (.ref c2)] [(.int cp)])) (fun _ k => st21.trans k) ?_
  refine Go.step (g' := (mkF m 131 #[.val (.int p0), .val (.int p1), .val (.int p2), .val (.int p3), .val (.int p4), .val (.int p5), .val (.int cp), .val (.int ii), .val (.int jj), .val (.ref b1), .val (.int (p5 ^^^ (21845 : Int32))), .val (.double (FP.i2d p5)), .second, .val (.double (FP.i2d (p5 ^^^ (1 : Int32)))), .second, .val (.double (FP.i2d p3)), .second, .val (.double (FP.i2d p4)), .second, .val (.ref f2), .val (.ref bb2), .val (.ref c2)] [(.int cp), (.int cp)])) (fun _ k => XS.iload X21.here hx rfl (hb hby at_129) rfl  k) ?_
  refine Go.step (g' := (mkF m 136 #[.val (.int p0), .val (.int p1), .val (.int p2), .val (.int p3), .val (.int p4), .val (.int p5), .val (.int cp), .val (.int ii), .val (.int jj), .val (.ref b1), .val (.int (p5 ^^^ (21845 : Int32))), .val (.double (FP.i2d p5)), .second, .val (.double (FP.i2d (p5 ^^^ (1 : Int32)))), .second, .val (.double (FP.i2d p3)), .second, .val (.double (FP.i2d p4)), .second, .val (.ref f2), .val (.ref bb2), .val (.ref c2)] [])) (fun _ k => XS.icmpYes X21.here hx rfl (pc0 := 131) (pc' := 136) rfl (hb hby at_131) rfl (teq (rfl : cp = cp)).1 (by decide) (by decide) k) ?_
  rw [show (f0_124 ii jj) = (f0_136 ii jj) from rfl]
  refine Go.step (g' := (mkF m 138 #[.val (.int p0), .val (.int p1), .val (.int p2), .val (.int p3), .val (.int p4), .val (.int p5), .val (.int cp), .val (.int ii), .val (.int jj), .val (.ref b1), .val (.int (p5 ^^^ (21845 : Int32))), .val (.double (FP.i2d p5)), .second, .val (.double (FP.i2d (p5 ^^^ (1 : Int32)))), .second, .val (.double (FP.i2d p3)), .second, .val (.double (FP.i2d p4)), .second, .val (.ref f2), .val (.ref bb2), .val (.ref c2)] [(.ref f2)])) (fun _ k => XS.aload X21.here hx rfl (hb hby at_136) rfl rfl  k) ?_
  refine Go.step (g' := (mkF m 139 #[.val (.int p0), .val (.int p1), .val (.int p2), .val (.int p3), .val (.int p4), .val (.int p5), .val (.int cp), .val (.int ii), .val (.int jj), .val (.ref b1), .val (.int (p5 ^^^ (21845 : Int32))), .val (.double (FP.i2d p5)), .second, .val (.double (FP.i2d (p5 ^^^ (1 : Int32)))), .second, .val (.double (FP.i2d p3)), .second, .val (.double (FP.i2d p4)), .second, .val (.ref f2), .val (.ref bb2), .val (.ref c2)] [(.int cp)])) (fun _ k => getLen X21 hx hZ e21 Af11 (back32 hcap0).1 (gf := (mkF m 138 #[.val (.int p0), .val (.int p1), .val (.int p2), .val (.int p3), .val (.int p4), .val (.int p5), .val (.int cp), .val (.int ii), .val (.int jj), .val (.ref b1), .val (.int (p5 ^^^ (21845 : Int32))), .val (.double (FP.i2d p5)), .second, .val (.double (FP.i2d (p5 ^^^ (1 : Int32)))), .second, .val (.double (FP.i2d p3)), .second, .val (.double (FP.i2d p4)), .second, .val (.ref f2), .val (.ref bb2), .val (.ref c2)] [(.ref f2)])) rfl rfl (hb hby at_138) k) ?_
  refine Go.step (g' := (mkF m 141 #[.val (.int p0), .val (.int p1), .val (.int p2), .val (.int p3), .val (.int p4), .val (.int p5), .val (.int cp), .val (.int ii), .val (.int jj), .val (.ref b1), .val (.int (p5 ^^^ (21845 : Int32))), .val (.double (FP.i2d p5)), .second, .val (.double (FP.i2d (p5 ^^^ (1 : Int32)))), .second, .val (.double (FP.i2d p3)), .second, .val (.double (FP.i2d p4)), .second, .val (.ref f2), .val (.ref bb2), .val (.ref c2)] [(.int cp), (.int cp)])) (fun _ k => XS.iload X21.here hx rfl (hb hby at_139) rfl  k) ?_
  refine Go.step (g' := (mkF m 144 #[.val (.int p0), .val (.int p1), .val (.int p2), .val (.int p3), .val (.int p4), .val (.int p5), .val (.int cp), .val (.int ii), .val (.int jj), .val (.ref b1), .val (.int (p5 ^^^ (21845 : Int32))), .val (.double (FP.i2d p5)), .second, .val (.double (FP.i2d (p5 ^^^ (1 : Int32)))), .second, .val (.double (FP.i2d p3)), .second, .val (.double (FP.i2d p4)), .second, .val (.ref f2), .val (.ref bb2), .val (.ref c2)] [])) (fun _ k => XS.icmpNo X21.here hx rfl (hb hby at_141) rfl (teq (rfl : cp = cp)).2 k) ?_
  rw [show (f0_136 ii jj) = (f0_144 ii jj) from rfl]
  refine Go.step (g' := (mkF m 146 #[.val (.int p0), .val (.int p1), .val (.int p2), .val (.int p3), .val (.int p4), .val (.int p5), .val (.int cp), .val (.int ii), .val (.int jj), .val (.ref b1), .val (.int (p5 ^^^ (21845 : Int32))), .val (.double (FP.i2d p5)), .second, .val (.double (FP.i2d (p5 ^^^ (1 : Int32)))), .second, .val (.double (FP.i2d p3)), .second, .val (.double (FP.i2d p4)), .second, .val (.ref f2), .val (.ref bb2), .val (.ref c2)] [(.ref bb2)])) (fun _ k => XS.aload X21.here hx rfl (hb hby at_144) rfl rfl  k) ?_
  refine Go.step (g' := (mkF m 147 #[.val (.int p0), .val (.int p1), .val (.int p2), .val (.int p3), .val (.int p4), .val (.int p5), .val (.int cp), .val (.int ii), .val (.int jj), .val (.ref b1), .val (.int (p5 ^^^ (21845 : Int32))), .val (.double (FP.i2d p5)), .second, .val (.double (FP.i2d (p5 ^^^ (1 : Int32)))), .second, .val (.double (FP.i2d p3)), .second, .val (.double (FP.i2d p4)), .second, .val (.ref f2), .val (.ref bb2), .val (.ref c2)] [(.int cp)])) (fun _ k => getLen X21 hx hZ e21 Ab11 (back32 hcap0).1 (gf := (mkF m 146 #[.val (.int p0), .val (.int p1), .val (.int p2), .val (.int p3), .val (.int p4), .val (.int p5), .val (.int cp), .val (.int ii), .val (.int jj), .val (.ref b1), .val (.int (p5 ^^^ (21845 : Int32))), .val (.double (FP.i2d p5)), .second, .val (.double (FP.i2d (p5 ^^^ (1 : Int32)))), .second, .val (.double (FP.i2d p3)), .second, .val (.double (FP.i2d p4)), .second, .val (.ref f2), .val (.ref bb2), .val (.ref c2)] [(.ref bb2)])) rfl rfl (hb hby at_146) k) ?_
  refine Go.step (g' := (mkF m 149 #[.val (.int p0), .val (.int p1), .val (.int p2), .val (.int p3), .val (.int p4), .val (.int p5), .val (.int cp), .val (.int ii), .val (.int jj), .val (.ref b1), .val (.int (p5 ^^^ (21845 : Int32))), .val (.double (FP.i2d p5)), .second, .val (.double (FP.i2d (p5 ^^^ (1 : Int32)))), .second, .val (.double (FP.i2d p3)), .second, .val (.double (FP.i2d p4)), .second, .val (.ref f2), .val (.ref bb2), .val (.ref c2)] [(.int cp), (.int cp)])) (fun _ k => XS.iload X21.here hx rfl (hb hby at_147) rfl  k) ?_
  refine Go.step (g' := (mkF m 152 #[.val (.int p0), .val (.int p1), .val (.int p2), .val (.int p3), .val (.int p4), .val (.int p5), .val (.int cp), .val (.int ii), .val (.int jj), .val (.ref b1), .val (.int (p5 ^^^ (21845 : Int32))), .val (.double (FP.i2d p5)), .second, .val (.double (FP.i2d (p5 ^^^ (1 : Int32)))), .second, .val (.double (FP.i2d p3)), .second, .val (.double (FP.i2d p4)), .second, .val (.ref f2), .val (.ref bb2), .val (.ref c2)] [])) (fun _ k => XS.icmpNo X21.here hx rfl (hb hby at_149) rfl (teq (rfl : cp = cp)).2 k) ?_
  rw [show (f0_144 ii jj) = (f0_152 ii jj) from rfl]
  refine Go.step (g' := (mkF m 154 #[.val (.int p0), .val (.int p1), .val (.int p2), .val (.int p3), .val (.int p4), .val (.int p5), .val (.int cp), .val (.int ii), .val (.int jj), .val (.ref b1), .val (.int (p5 ^^^ (21845 : Int32))), .val (.double (FP.i2d p5)), .second, .val (.double (FP.i2d (p5 ^^^ (1 : Int32)))), .second, .val (.double (FP.i2d p3)), .second, .val (.double (FP.i2d p4)), .second, .val (.ref f2), .val (.ref bb2), .val (.ref c2)] [(.ref c2)])) (fun _ k => XS.aload X21.here hx rfl (hb hby at_152) rfl rfl  k) ?_
  refine Go.step (g' := (mkF m 155 #[.val (.int p0), .val (.int p1), .val (.int p2), .val (.int p3), .val (.int p4), .val (.int p5), .val (.int cp), .val (.int ii), .val (.int jj), .val (.ref b1), .val (.int (p5 ^^^ (21845 : Int32))), .val (.double (FP.i2d p5)), .second, .val (.double (FP.i2d (p5 ^^^ (1 : Int32)))), .second, .val (.double (FP.i2d p3)), .second, .val (.double (FP.i2d p4)), .second, .val (.ref f2), .val (.ref bb2), .val (.ref c2)] [(.int ((2 : Int32) * cp))])) (fun _ k => getLen X21 hx hZ e21 Ac11 (back32 hcap2).1 (gf := (mkF m 154 #[.val (.int p0), .val (.int p1), .val (.int p2), .val (.int p3), .val (.int p4), .val (.int p5), .val (.int cp), .val (.int ii), .val (.int jj), .val (.ref b1), .val (.int (p5 ^^^ (21845 : Int32))), .val (.double (FP.i2d p5)), .second, .val (.double (FP.i2d (p5 ^^^ (1 : Int32)))), .second, .val (.double (FP.i2d p3)), .second, .val (.double (FP.i2d p4)), .second, .val (.ref f2), .val (.ref bb2), .val (.ref c2)] [(.ref c2)])) rfl rfl (hb hby at_154) k) ?_
  refine Go.step (g' := (mkF m 156 #[.val (.int p0), .val (.int p1), .val (.int p2), .val (.int p3), .val (.int p4), .val (.int p5), .val (.int cp), .val (.int ii), .val (.int jj), .val (.ref b1), .val (.int (p5 ^^^ (21845 : Int32))), .val (.double (FP.i2d p5)), .second, .val (.double (FP.i2d (p5 ^^^ (1 : Int32)))), .second, .val (.double (FP.i2d p3)), .second, .val (.double (FP.i2d p4)), .second, .val (.ref f2), .val (.ref bb2), .val (.ref c2)] [(.int (2 : Int32)), (.int ((2 : Int32) * cp))])) (fun _ k => XS.iconst X21.here hx rfl (hb hby at_155) k) ?_
  refine Go.step (g' := (mkF m 158 #[.val (.int p0), .val (.int p1), .val (.int p2), .val (.int p3), .val (.int p4), .val (.int p5), .val (.int cp), .val (.int ii), .val (.int jj), .val (.ref b1), .val (.int (p5 ^^^ (21845 : Int32))), .val (.double (FP.i2d p5)), .second, .val (.double (FP.i2d (p5 ^^^ (1 : Int32)))), .second, .val (.double (FP.i2d p3)), .second, .val (.double (FP.i2d p4)), .second, .val (.ref f2), .val (.ref bb2), .val (.ref c2)] [(.int cp), (.int (2 : Int32)), (.int ((2 : Int32) * cp))])) (fun _ k => XS.iload X21.here hx rfl (hb hby at_156) rfl  k) ?_
  refine Go.step (g' := (mkF m 159 #[.val (.int p0), .val (.int p1), .val (.int p2), .val (.int p3), .val (.int p4), .val (.int p5), .val (.int cp), .val (.int ii), .val (.int jj), .val (.ref b1), .val (.int (p5 ^^^ (21845 : Int32))), .val (.double (FP.i2d p5)), .second, .val (.double (FP.i2d (p5 ^^^ (1 : Int32)))), .second, .val (.double (FP.i2d p3)), .second, .val (.double (FP.i2d p4)), .second, .val (.ref f2), .val (.ref bb2), .val (.ref c2)] [(.int ((2 : Int32) * cp)), (.int ((2 : Int32) * cp))])) (fun _ k => XS.imul X21.here hx rfl (hb hby at_158) rfl k) ?_
  refine Go.step (g' := (mkF m 164 #[.val (.int p0), .val (.int p1), .val (.int p2), .val (.int p3), .val (.int p4), .val (.int p5), .val (.int cp), .val (.int ii), .val (.int jj), .val (.ref b1), .val (.int (p5 ^^^ (21845 : Int32))), .val (.double (FP.i2d p5)), .second, .val (.double (FP.i2d (p5 ^^^ (1 : Int32)))), .second, .val (.double (FP.i2d p3)), .second, .val (.double (FP.i2d p4)), .second, .val (.ref f2), .val (.ref bb2), .val (.ref c2)] [])) (fun _ k => XS.icmpYes X21.here hx rfl (pc0 := 159) (pc' := 164) rfl (hb hby at_159) rfl (teq (rfl : ((2 : Int32) * cp) = ((2 : Int32) * cp))).1 (by decide) (by decide) k) ?_
  rw [show (f0_152 ii jj) = (f0_164 ii jj) from rfl]
  refine Go.step (g' := (mkF m 166 #[.val (.int p0), .val (.int p1), .val (.int p2), .val (.int p3), .val (.int p4), .val (.int p5), .val (.int cp), .val (.int ii), .val (.int jj), .val (.ref b1), .val (.int (p5 ^^^ (21845 : Int32))), .val (.double (FP.i2d p5)), .second, .val (.double (FP.i2d (p5 ^^^ (1 : Int32)))), .second, .val (.double (FP.i2d p3)), .second, .val (.double (FP.i2d p4)), .second, .val (.ref f2), .val (.ref bb2), .val (.ref c2)] [(.ref f2)])) (fun _ k => XS.aload X21.here hx rfl (hb hby at_164) rfl rfl  k) ?_
  refine Go.step (g' := (mkF m 168 #[.val (.int p0), .val (.int p1), .val (.int p2), .val (.int p3), .val (.int p4), .val (.int p5), .val (.int cp), .val (.int ii), .val (.int jj), .val (.ref b1), .val (.int (p5 ^^^ (21845 : Int32))), .val (.double (FP.i2d p5)), .second, .val (.double (FP.i2d (p5 ^^^ (1 : Int32)))), .second, .val (.double (FP.i2d p3)), .second, .val (.double (FP.i2d p4)), .second, .val (.ref f2), .val (.ref bb2), .val (.ref c2)] [(.int ii), (.ref f2)])) (fun _ k => XS.iload X21.here hx rfl (hb hby at_166) rfl  k) ?_
  refine Go.step (g' := (mkF m 169 #[.val (.int p0), .val (.int p1), .val (.int p2), .val (.int p3), .val (.int p4), .val (.int p5), .val (.int cp), .val (.int ii), .val (.int jj), .val (.ref b1), .val (.int (p5 ^^^ (21845 : Int32))), .val (.double (FP.i2d p5)), .second, .val (.double (FP.i2d (p5 ^^^ (1 : Int32)))), .second, .val (.double (FP.i2d p3)), .second, .val (.double (FP.i2d p4)), .second, .val (.ref f2), .val (.ref bb2), .val (.ref c2)] [(.int ((upd (upd (fun _ => (0 : Int32)) jj.toNatClampNeg p5) ii.toNatClampNeg p1) ii.toNatClampNeg))])) (fun _ k => getAI X21 hx hZ e21 Af11 (j := ii) Dii.2.2.1 (gf := (mkF m 168 #[.val (.int p0), .val (.int p1), .val (.int p2), .val (.int p3), .val (.int p4), .val (.int p5), .val (.int cp), .val (.int ii), .val (.int jj), .val (.ref b1), .val (.int (p5 ^^^ (21845 : Int32))), .val (.double (FP.i2d p5)), .second, .val (.double (FP.i2d (p5 ^^^ (1 : Int32)))), .second, .val (.double (FP.i2d p3)), .second, .val (.double (FP.i2d p4)), .second, .val (.ref f2), .val (.ref bb2), .val (.ref c2)] [(.int ii), (.ref f2)])) rfl rfl (hb hby at_168) k) ?_
  refine Go.step (g' := (mkF m 170 #[.val (.int p0), .val (.int p1), .val (.int p2), .val (.int p3), .val (.int p4), .val (.int p5), .val (.int cp), .val (.int ii), .val (.int jj), .val (.ref b1), .val (.int (p5 ^^^ (21845 : Int32))), .val (.double (FP.i2d p5)), .second, .val (.double (FP.i2d (p5 ^^^ (1 : Int32)))), .second, .val (.double (FP.i2d p3)), .second, .val (.double (FP.i2d p4)), .second, .val (.ref f2), .val (.ref bb2), .val (.ref c2)] [(.int p1), (.int ((upd (upd (fun _ => (0 : Int32)) jj.toNatClampNeg p5) ii.toNatClampNeg p1) ii.toNatClampNeg))])) (fun _ k => XS.iloadN X21.here hx rfl (hb hby at_169) rfl  k) ?_
  refine Go.step (g' := (mkF m 173 #[.val (.int p0), .val (.int p1), .val (.int p2), .val (.int p3), .val (.int p4), .val (.int p5), .val (.int cp), .val (.int ii), .val (.int jj), .val (.ref b1), .val (.int (p5 ^^^ (21845 : Int32))), .val (.double (FP.i2d p5)), .second, .val (.double (FP.i2d (p5 ^^^ (1 : Int32)))), .second, .val (.double (FP.i2d p3)), .second, .val (.double (FP.i2d p4)), .second, .val (.ref f2), .val (.ref bb2), .val (.ref c2)] [])) (fun _ k => XS.icmpNo X21.here hx rfl (hb hby at_170) rfl (teq (own_g1 _ _ _ _ : ((upd (upd (fun _ => (0 : Int32)) jj.toNatClampNeg p5) ii.toNatClampNeg p1) ii.toNatClampNeg) = p1)).2 k) ?_
  rw [show (f0_164 ii jj) = (f0_173 ii jj) from rfl]
  refine Go.step (g' := (mkF m 175 #[.val (.int p0), .val (.int p1), .val (.int p2), .val (.int p3), .val (.int p4), .val (.int p5), .val (.int cp), .val (.int ii), .val (.int jj), .val (.ref b1), .val (.int (p5 ^^^ (21845 : Int32))), .val (.double (FP.i2d p5)), .second, .val (.double (FP.i2d (p5 ^^^ (1 : Int32)))), .second, .val (.double (FP.i2d p3)), .second, .val (.double (FP.i2d p4)), .second, .val (.ref f2), .val (.ref bb2), .val (.ref c2)] [(.ref bb2)])) (fun _ k => XS.aload X21.here hx rfl (hb hby at_173) rfl rfl  k) ?_
  refine Go.step (g' := (mkF m 177 #[.val (.int p0), .val (.int p1), .val (.int p2), .val (.int p3), .val (.int p4), .val (.int p5), .val (.int cp), .val (.int ii), .val (.int jj), .val (.ref b1), .val (.int (p5 ^^^ (21845 : Int32))), .val (.double (FP.i2d p5)), .second, .val (.double (FP.i2d (p5 ^^^ (1 : Int32)))), .second, .val (.double (FP.i2d p3)), .second, .val (.double (FP.i2d p4)), .second, .val (.ref f2), .val (.ref bb2), .val (.ref c2)] [(.int ii), (.ref bb2)])) (fun _ k => XS.iload X21.here hx rfl (hb hby at_175) rfl  k) ?_
  refine Go.step (g' := (mkF m 178 #[.val (.int p0), .val (.int p1), .val (.int p2), .val (.int p3), .val (.int p4), .val (.int p5), .val (.int cp), .val (.int ii), .val (.int jj), .val (.ref b1), .val (.int (p5 ^^^ (21845 : Int32))), .val (.double (FP.i2d p5)), .second, .val (.double (FP.i2d (p5 ^^^ (1 : Int32)))), .second, .val (.double (FP.i2d p3)), .second, .val (.double (FP.i2d p4)), .second, .val (.ref f2), .val (.ref bb2), .val (.ref c2)] [(.int ((upd (upd (fun _ => (0 : Int32)) jj.toNatClampNeg (p5 ^^^ (21845 : Int32))) ii.toNatClampNeg p2) ii.toNatClampNeg))])) (fun _ k => getAI X21 hx hZ e21 Ab11 (j := ii) Dii.2.2.1 (gf := (mkF m 177 #[.val (.int p0), .val (.int p1), .val (.int p2), .val (.int p3), .val (.int p4), .val (.int p5), .val (.int cp), .val (.int ii), .val (.int jj), .val (.ref b1), .val (.int (p5 ^^^ (21845 : Int32))), .val (.double (FP.i2d p5)), .second, .val (.double (FP.i2d (p5 ^^^ (1 : Int32)))), .second, .val (.double (FP.i2d p3)), .second, .val (.double (FP.i2d p4)), .second, .val (.ref f2), .val (.ref bb2), .val (.ref c2)] [(.int ii), (.ref bb2)])) rfl rfl (hb hby at_177) k) ?_
  refine Go.step (g' := (mkF m 179 #[.val (.int p0), .val (.int p1), .val (.int p2), .val (.int p3), .val (.int p4), .val (.int p5), .val (.int cp), .val (.int ii), .val (.int jj), .val (.ref b1), .val (.int (p5 ^^^ (21845 : Int32))), .val (.double (FP.i2d p5)), .second, .val (.double (FP.i2d (p5 ^^^ (1 : Int32)))), .second, .val (.double (FP.i2d p3)), .second, .val (.double (FP.i2d p4)), .second, .val (.ref f2), .val (.ref bb2), .val (.ref c2)] [(.int p2), (.int ((upd (upd (fun _ => (0 : Int32)) jj.toNatClampNeg (p5 ^^^ (21845 : Int32))) ii.toNatClampNeg p2) ii.toNatClampNeg))])) (fun _ k => XS.iloadN X21.here hx rfl (hb hby at_178) rfl  k) ?_
  refine Go.step (g' := (mkF m 182 #[.val (.int p0), .val (.int p1), .val (.int p2), .val (.int p3), .val (.int p4), .val (.int p5), .val (.int cp), .val (.int ii), .val (.int jj), .val (.ref b1), .val (.int (p5 ^^^ (21845 : Int32))), .val (.double (FP.i2d p5)), .second, .val (.double (FP.i2d (p5 ^^^ (1 : Int32)))), .second, .val (.double (FP.i2d p3)), .second, .val (.double (FP.i2d p4)), .second, .val (.ref f2), .val (.ref bb2), .val (.ref c2)] [])) (fun _ k => XS.icmpNo X21.here hx rfl (hb hby at_179) rfl (teq (own_g1 _ _ _ _ : ((upd (upd (fun _ => (0 : Int32)) jj.toNatClampNeg (p5 ^^^ (21845 : Int32))) ii.toNatClampNeg p2) ii.toNatClampNeg) = p2)).2 k) ?_
  rw [show (f0_173 ii jj) = (f0_182 ii jj) from rfl]
  refine Go.step (g' := (mkF m 184 #[.val (.int p0), .val (.int p1), .val (.int p2), .val (.int p3), .val (.int p4), .val (.int p5), .val (.int cp), .val (.int ii), .val (.int jj), .val (.ref b1), .val (.int (p5 ^^^ (21845 : Int32))), .val (.double (FP.i2d p5)), .second, .val (.double (FP.i2d (p5 ^^^ (1 : Int32)))), .second, .val (.double (FP.i2d p3)), .second, .val (.double (FP.i2d p4)), .second, .val (.ref f2), .val (.ref bb2), .val (.ref c2)] [(.ref c2)])) (fun _ k => XS.aload X21.here hx rfl (hb hby at_182) rfl rfl  k) ?_
  refine Go.step (g' := (mkF m 185 #[.val (.int p0), .val (.int p1), .val (.int p2), .val (.int p3), .val (.int p4), .val (.int p5), .val (.int cp), .val (.int ii), .val (.int jj), .val (.ref b1), .val (.int (p5 ^^^ (21845 : Int32))), .val (.double (FP.i2d p5)), .second, .val (.double (FP.i2d (p5 ^^^ (1 : Int32)))), .second, .val (.double (FP.i2d p3)), .second, .val (.double (FP.i2d p4)), .second, .val (.ref f2), .val (.ref bb2), .val (.ref c2)] [(.int (2 : Int32)), (.ref c2)])) (fun _ k => XS.iconst X21.here hx rfl (hb hby at_184) k) ?_
  refine Go.step (g' := (mkF m 187 #[.val (.int p0), .val (.int p1), .val (.int p2), .val (.int p3), .val (.int p4), .val (.int p5), .val (.int cp), .val (.int ii), .val (.int jj), .val (.ref b1), .val (.int (p5 ^^^ (21845 : Int32))), .val (.double (FP.i2d p5)), .second, .val (.double (FP.i2d (p5 ^^^ (1 : Int32)))), .second, .val (.double (FP.i2d p3)), .second, .val (.double (FP.i2d p4)), .second, .val (.ref f2), .val (.ref bb2), .val (.ref c2)] [(.int ii), (.int (2 : Int32)), (.ref c2)])) (fun _ k => XS.iload X21.here hx rfl (hb hby at_185) rfl  k) ?_
  refine Go.step (g' := (mkF m 188 #[.val (.int p0), .val (.int p1), .val (.int p2), .val (.int p3), .val (.int p4), .val (.int p5), .val (.int cp), .val (.int ii), .val (.int jj), .val (.ref b1), .val (.int (p5 ^^^ (21845 : Int32))), .val (.double (FP.i2d p5)), .second, .val (.double (FP.i2d (p5 ^^^ (1 : Int32)))), .second, .val (.double (FP.i2d p3)), .second, .val (.double (FP.i2d p4)), .second, .val (.ref f2), .val (.ref bb2), .val (.ref c2)] [(.int ((2 : Int32) * ii)), (.ref c2)])) (fun _ k => XS.imul X21.here hx rfl (hb hby at_187) rfl k) ?_
  refine Go.step (g' := (mkF m 189 #[.val (.int p0), .val (.int p1), .val (.int p2), .val (.int p3), .val (.int p4), .val (.int p5), .val (.int cp), .val (.int ii), .val (.int jj), .val (.ref b1), .val (.int (p5 ^^^ (21845 : Int32))), .val (.double (FP.i2d p5)), .second, .val (.double (FP.i2d (p5 ^^^ (1 : Int32)))), .second, .val (.double (FP.i2d p3)), .second, .val (.double (FP.i2d p4)), .second, .val (.ref f2), .val (.ref bb2), .val (.ref c2)] [(.double ((upd (upd (upd (upd (fun _ => (0 : UInt64)) ((2 : Int32) * jj).toNatClampNeg (FP.i2d p5)) (((2 : Int32) * jj) + (1 : Int32)).toNatClampNeg (FP.i2d (p5 ^^^ (1 : Int32)))) ((2 : Int32) * ii).toNatClampNeg (FP.i2d p3)) (((2 : Int32) * ii) + (1 : Int32)).toNatClampNeg (FP.i2d p4)) ((2 : Int32) * ii).toNatClampNeg))])) (fun _ k => getAD X21 hx hZ e21 Ac11 (j := ((2 : Int32) * ii)) Dii.2.2.2.1 (gf := (mkF m 188 #[.val (.int p0), .val (.int p1), .val (.int p2), .val (.int p3), .val (.int p4), .val (.int p5), .val (.int cp), .val (.int ii), .val (.int jj), .val (.ref b1), .val (.int (p5 ^^^ (21845 : Int32))), .val (.double (FP.i2d p5)), .second, .val (.double (FP.i2d (p5 ^^^ (1 : Int32)))), .second, .val (.double (FP.i2d p3)), .second, .val (.double (FP.i2d p4)), .second, .val (.ref f2), .val (.ref bb2), .val (.ref c2)] [(.int ((2 : Int32) * ii)), (.ref c2)])) rfl rfl (hb hby at_188) k) ?_
  refine Go.step (g' := (mkF m 191 #[.val (.int p0), .val (.int p1), .val (.int p2), .val (.int p3), .val (.int p4), .val (.int p5), .val (.int cp), .val (.int ii), .val (.int jj), .val (.ref b1), .val (.int (p5 ^^^ (21845 : Int32))), .val (.double (FP.i2d p5)), .second, .val (.double (FP.i2d (p5 ^^^ (1 : Int32)))), .second, .val (.double (FP.i2d p3)), .second, .val (.double (FP.i2d p4)), .second, .val (.ref f2), .val (.ref bb2), .val (.ref c2)] [(.double (FP.i2d p3)), (.double ((upd (upd (upd (upd (fun _ => (0 : UInt64)) ((2 : Int32) * jj).toNatClampNeg (FP.i2d p5)) (((2 : Int32) * jj) + (1 : Int32)).toNatClampNeg (FP.i2d (p5 ^^^ (1 : Int32)))) ((2 : Int32) * ii).toNatClampNeg (FP.i2d p3)) (((2 : Int32) * ii) + (1 : Int32)).toNatClampNeg (FP.i2d p4)) ((2 : Int32) * ii).toNatClampNeg))])) (fun _ k => XS.dload X21.here hx rfl (hb hby at_189) rfl k) ?_
  refine Go.step (g' := (mkF m 192 #[.val (.int p0), .val (.int p1), .val (.int p2), .val (.int p3), .val (.int p4), .val (.int p5), .val (.int cp), .val (.int ii), .val (.int jj), .val (.ref b1), .val (.int (p5 ^^^ (21845 : Int32))), .val (.double (FP.i2d p5)), .second, .val (.double (FP.i2d (p5 ^^^ (1 : Int32)))), .second, .val (.double (FP.i2d p3)), .second, .val (.double (FP.i2d p4)), .second, .val (.ref f2), .val (.ref bb2), .val (.ref c2)] [(.int (cmpValue (FP.dcmp ((upd (upd (upd (upd (fun _ => (0 : UInt64)) ((2 : Int32) * jj).toNatClampNeg (FP.i2d p5)) (((2 : Int32) * jj) + (1 : Int32)).toNatClampNeg (FP.i2d (p5 ^^^ (1 : Int32)))) ((2 : Int32) * ii).toNatClampNeg (FP.i2d p3)) (((2 : Int32) * ii) + (1 : Int32)).toNatClampNeg (FP.i2d p4)) ((2 : Int32) * ii).toNatClampNeg) (FP.i2d p3)) .l))])) (fun _ k => XS.dcmpS X21.here hx rfl (hb hby at_191) rfl rfl k) ?_
  refine Go.step (g' := (mkF m 195 #[.val (.int p0), .val (.int p1), .val (.int p2), .val (.int p3), .val (.int p4), .val (.int p5), .val (.int cp), .val (.int ii), .val (.int jj), .val (.ref b1), .val (.int (p5 ^^^ (21845 : Int32))), .val (.double (FP.i2d p5)), .second, .val (.double (FP.i2d (p5 ^^^ (1 : Int32)))), .second, .val (.double (FP.i2d p3)), .second, .val (.double (FP.i2d p4)), .second, .val (.ref f2), .val (.ref bb2), .val (.ref c2)] [])) (fun _ k => XS.ifNo X21.here hx rfl (hb hby at_192) rfl ((if0 _ _).trans (teq (own_cmp _ (by simp only [Dii.1, Dii.2.1, Djj.1, Djj.2.1]; exact own_c1 _ _ _ _ _ _) : (cmpValue (FP.dcmp ((upd (upd (upd (upd (fun _ => (0 : UInt64)) ((2 : Int32) * jj).toNatClampNeg (FP.i2d p5)) (((2 : Int32) * jj) + (1 : Int32)).toNatClampNeg (FP.i2d (p5 ^^^ (1 : Int32)))) ((2 : Int32) * ii).toNatClampNeg (FP.i2d p3)) (((2 : Int32) * ii) + (1 : Int32)).toNatClampNeg (FP.i2d p4)) ((2 : Int32) * ii).toNatClampNeg) (FP.i2d p3)) .l) = (0 : Int32))).2) k) ?_
  rw [show (f0_182 ii jj) = (f0_195 ii jj) from rfl]
  refine Go.step (g' := (mkF m 197 #[.val (.int p0), .val (.int p1), .val (.int p2), .val (.int p3), .val (.int p4), .val (.int p5), .val (.int cp), .val (.int ii), .val (.int jj), .val (.ref b1), .val (.int (p5 ^^^ (21845 : Int32))), .val (.double (FP.i2d p5)), .second, .val (.double (FP.i2d (p5 ^^^ (1 : Int32)))), .second, .val (.double (FP.i2d p3)), .second, .val (.double (FP.i2d p4)), .second, .val (.ref f2), .val (.ref bb2), .val (.ref c2)] [(.ref c2)])) (fun _ k => XS.aload X21.here hx rfl (hb hby at_195) rfl rfl  k) ?_
  refine Go.step (g' := (mkF m 198 #[.val (.int p0), .val (.int p1), .val (.int p2), .val (.int p3), .val (.int p4), .val (.int p5), .val (.int cp), .val (.int ii), .val (.int jj), .val (.ref b1), .val (.int (p5 ^^^ (21845 : Int32))), .val (.double (FP.i2d p5)), .second, .val (.double (FP.i2d (p5 ^^^ (1 : Int32)))), .second, .val (.double (FP.i2d p3)), .second, .val (.double (FP.i2d p4)), .second, .val (.ref f2), .val (.ref bb2), .val (.ref c2)] [(.int (2 : Int32)), (.ref c2)])) (fun _ k => XS.iconst X21.here hx rfl (hb hby at_197) k) ?_
  refine Go.step (g' := (mkF m 200 #[.val (.int p0), .val (.int p1), .val (.int p2), .val (.int p3), .val (.int p4), .val (.int p5), .val (.int cp), .val (.int ii), .val (.int jj), .val (.ref b1), .val (.int (p5 ^^^ (21845 : Int32))), .val (.double (FP.i2d p5)), .second, .val (.double (FP.i2d (p5 ^^^ (1 : Int32)))), .second, .val (.double (FP.i2d p3)), .second, .val (.double (FP.i2d p4)), .second, .val (.ref f2), .val (.ref bb2), .val (.ref c2)] [(.int ii), (.int (2 : Int32)), (.ref c2)])) (fun _ k => XS.iload X21.here hx rfl (hb hby at_198) rfl  k) ?_
  refine Go.step (g' := (mkF m 201 #[.val (.int p0), .val (.int p1), .val (.int p2), .val (.int p3), .val (.int p4), .val (.int p5), .val (.int cp), .val (.int ii), .val (.int jj), .val (.ref b1), .val (.int (p5 ^^^ (21845 : Int32))), .val (.double (FP.i2d p5)), .second, .val (.double (FP.i2d (p5 ^^^ (1 : Int32)))), .second, .val (.double (FP.i2d p3)), .second, .val (.double (FP.i2d p4)), .second, .val (.ref f2), .val (.ref bb2), .val (.ref c2)] [(.int ((2 : Int32) * ii)), (.ref c2)])) (fun _ k => XS.imul X21.here hx rfl (hb hby at_200) rfl k) ?_
  refine Go.step (g' := (mkF m 202 #[.val (.int p0), .val (.int p1), .val (.int p2), .val (.int p3), .val (.int p4), .val (.int p5), .val (.int cp), .val (.int ii), .val (.int jj), .val (.ref b1), .val (.int (p5 ^^^ (21845 : Int32))), .val (.double (FP.i2d p5)), .second, .val (.double (FP.i2d (p5 ^^^ (1 : Int32)))), .second, .val (.double (FP.i2d p3)), .second, .val (.double (FP.i2d p4)), .second, .val (.ref f2), .val (.ref bb2), .val (.ref c2)] [(.int (1 : Int32)), (.int ((2 : Int32) * ii)), (.ref c2)])) (fun _ k => XS.iconst X21.here hx rfl (hb hby at_201) k) ?_
  refine Go.step (g' := (mkF m 203 #[.val (.int p0), .val (.int p1), .val (.int p2), .val (.int p3), .val (.int p4), .val (.int p5), .val (.int cp), .val (.int ii), .val (.int jj), .val (.ref b1), .val (.int (p5 ^^^ (21845 : Int32))), .val (.double (FP.i2d p5)), .second, .val (.double (FP.i2d (p5 ^^^ (1 : Int32)))), .second, .val (.double (FP.i2d p3)), .second, .val (.double (FP.i2d p4)), .second, .val (.ref f2), .val (.ref bb2), .val (.ref c2)] [(.int (((2 : Int32) * ii) + (1 : Int32))), (.ref c2)])) (fun _ k => XS.iadd X21.here hx rfl (hb hby at_202) rfl k) ?_
  refine Go.step (g' := (mkF m 204 #[.val (.int p0), .val (.int p1), .val (.int p2), .val (.int p3), .val (.int p4), .val (.int p5), .val (.int cp), .val (.int ii), .val (.int jj), .val (.ref b1), .val (.int (p5 ^^^ (21845 : Int32))), .val (.double (FP.i2d p5)), .second, .val (.double (FP.i2d (p5 ^^^ (1 : Int32)))), .second, .val (.double (FP.i2d p3)), .second, .val (.double (FP.i2d p4)), .second, .val (.ref f2), .val (.ref bb2), .val (.ref c2)] [(.double ((upd (upd (upd (upd (fun _ => (0 : UInt64)) ((2 : Int32) * jj).toNatClampNeg (FP.i2d p5)) (((2 : Int32) * jj) + (1 : Int32)).toNatClampNeg (FP.i2d (p5 ^^^ (1 : Int32)))) ((2 : Int32) * ii).toNatClampNeg (FP.i2d p3)) (((2 : Int32) * ii) + (1 : Int32)).toNatClampNeg (FP.i2d p4)) (((2 : Int32) * ii) + (1 : Int32)).toNatClampNeg))])) (fun _ k => getAD X21 hx hZ e21 Ac11 (j := (((2 : Int32) * ii) + (1 : Int32))) Dii.2.2.2.2 (gf := (mkF m 203 #[.val (.int p0), .val (.int p1), .val (.int p2), .val (.int p3), .val (.int p4), .val (.int p5), .val (.int cp), .val (.int ii), .val (.int jj), .val (.ref b1), .val (.int (p5 ^^^ (21845 : Int32))), .val (.double (FP.i2d p5)), .second, .val (.double (FP.i2d (p5 ^^^ (1 : Int32)))), .second, .val (.double (FP.i2d p3)), .second, .val (.double (FP.i2d p4)), .second, .val (.ref f2), .val (.ref bb2), .val (.ref c2)] [(.int (((2 : Int32) * ii) + (1 : Int32))), (.ref c2)])) rfl rfl (hb hby at_203) k) ?_
  refine Go.step (g' := (mkF m 206 #[.val (.int p0), .val (.int p1), .val (.int p2), .val (.int p3), .val (.int p4), .val (.int p5), .val (.int cp), .val (.int ii), .val (.int jj), .val (.ref b1), .val (.int (p5 ^^^ (21845 : Int32))), .val (.double (FP.i2d p5)), .second, .val (.double (FP.i2d (p5 ^^^ (1 : Int32)))), .second, .val (.double (FP.i2d p3)), .second, .val (.double (FP.i2d p4)), .second, .val (.ref f2), .val (.ref bb2), .val (.ref c2)] [(.double (FP.i2d p4)), (.double ((upd (upd (upd (upd (fun _ => (0 : UInt64)) ((2 : Int32) * jj).toNatClampNeg (FP.i2d p5)) (((2 : Int32) * jj) + (1 : Int32)).toNatClampNeg (FP.i2d (p5 ^^^ (1 : Int32)))) ((2 : Int32) * ii).toNatClampNeg (FP.i2d p3)) (((2 : Int32) * ii) + (1 : Int32)).toNatClampNeg (FP.i2d p4)) (((2 : Int32) * ii) + (1 : Int32)).toNatClampNeg))])) (fun _ k => XS.dload X21.here hx rfl (hb hby at_204) rfl k) ?_
  refine Go.step (g' := (mkF m 207 #[.val (.int p0), .val (.int p1), .val (.int p2), .val (.int p3), .val (.int p4), .val (.int p5), .val (.int cp), .val (.int ii), .val (.int jj), .val (.ref b1), .val (.int (p5 ^^^ (21845 : Int32))), .val (.double (FP.i2d p5)), .second, .val (.double (FP.i2d (p5 ^^^ (1 : Int32)))), .second, .val (.double (FP.i2d p3)), .second, .val (.double (FP.i2d p4)), .second, .val (.ref f2), .val (.ref bb2), .val (.ref c2)] [(.int (cmpValue (FP.dcmp ((upd (upd (upd (upd (fun _ => (0 : UInt64)) ((2 : Int32) * jj).toNatClampNeg (FP.i2d p5)) (((2 : Int32) * jj) + (1 : Int32)).toNatClampNeg (FP.i2d (p5 ^^^ (1 : Int32)))) ((2 : Int32) * ii).toNatClampNeg (FP.i2d p3)) (((2 : Int32) * ii) + (1 : Int32)).toNatClampNeg (FP.i2d p4)) (((2 : Int32) * ii) + (1 : Int32)).toNatClampNeg) (FP.i2d p4)) .l))])) (fun _ k => XS.dcmpS X21.here hx rfl (hb hby at_206) rfl rfl k) ?_
  refine Go.step (g' := (mkF m 212 #[.val (.int p0), .val (.int p1), .val (.int p2), .val (.int p3), .val (.int p4), .val (.int p5), .val (.int cp), .val (.int ii), .val (.int jj), .val (.ref b1), .val (.int (p5 ^^^ (21845 : Int32))), .val (.double (FP.i2d p5)), .second, .val (.double (FP.i2d (p5 ^^^ (1 : Int32)))), .second, .val (.double (FP.i2d p3)), .second, .val (.double (FP.i2d p4)), .second, .val (.ref f2), .val (.ref bb2), .val (.ref c2)] [])) (fun _ k => XS.ifYes X21.here hx rfl (pc0 := 207) (pc' := 212) rfl (hb hby at_207) rfl ((if0 _ _).trans (teq (own_cmp _ (by simp only [Dii.1, Dii.2.1, Djj.1, Djj.2.1]; exact own_c2 _ _ _ _ _ _) : (cmpValue (FP.dcmp ((upd (upd (upd (upd (fun _ => (0 : UInt64)) ((2 : Int32) * jj).toNatClampNeg (FP.i2d p5)) (((2 : Int32) * jj) + (1 : Int32)).toNatClampNeg (FP.i2d (p5 ^^^ (1 : Int32)))) ((2 : Int32) * ii).toNatClampNeg (FP.i2d p3)) (((2 : Int32) * ii) + (1 : Int32)).toNatClampNeg (FP.i2d p4)) (((2 : Int32) * ii) + (1 : Int32)).toNatClampNeg) (FP.i2d p4)) .l) = (0 : Int32))).1) (by decide) (by decide) k) ?_
  rw [show (f0_195 ii jj) = (f0_212 ii jj) from rfl]
  refine Go.step (g' := (mkF m 214 #[.val (.int p0), .val (.int p1), .val (.int p2), .val (.int p3), .val (.int p4), .val (.int p5), .val (.int cp), .val (.int ii), .val (.int jj), .val (.ref b1), .val (.int (p5 ^^^ (21845 : Int32))), .val (.double (FP.i2d p5)), .second, .val (.double (FP.i2d (p5 ^^^ (1 : Int32)))), .second, .val (.double (FP.i2d p3)), .second, .val (.double (FP.i2d p4)), .second, .val (.ref f2), .val (.ref bb2), .val (.ref c2)] [(.int jj)])) (fun _ k => XS.iload X21.here hx rfl (hb hby at_212) rfl  k) ?_
  refine Go.step (g' := (mkF m 216 #[.val (.int p0), .val (.int p1), .val (.int p2), .val (.int p3), .val (.int p4), .val (.int p5), .val (.int cp), .val (.int ii), .val (.int jj), .val (.ref b1), .val (.int (p5 ^^^ (21845 : Int32))), .val (.double (FP.i2d p5)), .second, .val (.double (FP.i2d (p5 ^^^ (1 : Int32)))), .second, .val (.double (FP.i2d p3)), .second, .val (.double (FP.i2d p4)), .second, .val (.ref f2), .val (.ref bb2), .val (.ref c2)] [(.int ii), (.int jj)])) (fun _ k => XS.iload X21.here hx rfl (hb hby at_214) rfl  k) ?_
  have t269 : Go p e below s room_1.cells room_1.slots (LawQ (some (.int f0_269)) n0) T21 (mkF m 269 #[.val (.int p0), .val (.int p1), .val (.int p2), .val (.int p3), .val (.int p4), .val (.int p5), .val (.int cp), .val (.int ii), .val (.int jj), .val (.ref b1), .val (.int (p5 ^^^ (21845 : Int32))), .val (.double (FP.i2d p5)), .second, .val (.double (FP.i2d (p5 ^^^ (1 : Int32)))), .second, .val (.double (FP.i2d p3)), .second, .val (.double (FP.i2d p4)), .second, .val (.ref f2), .val (.ref bb2), .val (.ref c2)] []) := by
    refine Go.step (g' := (mkF m 271 #[.val (.int p0), .val (.int p1), .val (.int p2), .val (.int p3), .val (.int p4), .val (.int p5), .val (.int cp), .val (.int ii), .val (.int jj), .val (.ref b1), .val (.int (p5 ^^^ (21845 : Int32))), .val (.double (FP.i2d p5)), .second, .val (.double (FP.i2d (p5 ^^^ (1 : Int32)))), .second, .val (.double (FP.i2d p3)), .second, .val (.double (FP.i2d p4)), .second, .val (.ref f2), .val (.ref bb2), .val (.ref c2)] [(.ref f2)])) (fun _ k => XS.aload X21.here hx rfl (hb hby at_269) rfl rfl  k) ?_
    refine Go.step (g' := (mkF m 273 #[.val (.int p0), .val (.int p1), .val (.int p2), .val (.int p3), .val (.int p4), .val (.int p5), .val (.int cp), .val (.int ii), .val (.int jj), .val (.ref b1), .val (.int (p5 ^^^ (21845 : Int32))), .val (.double (FP.i2d p5)), .second, .val (.double (FP.i2d (p5 ^^^ (1 : Int32)))), .second, .val (.double (FP.i2d p3)), .second, .val (.double (FP.i2d p4)), .second, .val (.ref f2), .val (.ref bb2), .val (.ref c2)] [(.ref bb2), (.ref f2)])) (fun _ k => XS.aload X21.here hx rfl (hb hby at_271) rfl rfl  k) ?_
    refine Go.step (g' := (mkF m 275 #[.val (.int p0), .val (.int p1), .val (.int p2), .val (.int p3), .val (.int p4), .val (.int p5), .val (.int cp), .val (.int ii), .val (.int jj), .val (.ref b1), .val (.int (p5 ^^^ (21845 : Int32))), .val (.double (FP.i2d p5)), .second, .val (.double (FP.i2d (p5 ^^^ (1 : Int32)))), .second, .val (.double (FP.i2d p3)), .second, .val (.double (FP.i2d p4)), .second, .val (.ref f2), .val (.ref bb2), .val (.ref c2)] [(.ref c2), (.ref bb2), (.ref f2)])) (fun _ k => XS.aload X21.here hx rfl (hb hby at_273) rfl rfl  k) ?_
    refine Go.step (g' := (mkF m 276 #[.val (.int p0), .val (.int p1), .val (.int p2), .val (.int p3), .val (.int p4), .val (.int p5), .val (.int cp), .val (.int ii), .val (.int jj), .val (.ref b1), .val (.int (p5 ^^^ (21845 : Int32))), .val (.double (FP.i2d p5)), .second, .val (.double (FP.i2d (p5 ^^^ (1 : Int32)))), .second, .val (.double (FP.i2d p3)), .second, .val (.double (FP.i2d p4)), .second, .val (.ref f2), .val (.ref bb2), .val (.ref c2)] [(.int (0 : Int32)), (.ref c2), (.ref bb2), (.ref f2)])) (fun _ k => XS.iconst X21.here hx rfl (hb hby at_275) k) ?_
    refine Go.step (g' := (mkF m 278 #[.val (.int p0), .val (.int p1), .val (.int p2), .val (.int p3), .val (.int p4), .val (.int p5), .val (.int cp), .val (.int ii), .val (.int jj), .val (.ref b1), .val (.int (p5 ^^^ (21845 : Int32))), .val (.double (FP.i2d p5)), .second, .val (.double (FP.i2d (p5 ^^^ (1 : Int32)))), .second, .val (.double (FP.i2d p3)), .second, .val (.double (FP.i2d p4)), .second, .val (.ref f2), .val (.ref bb2), .val (.ref c2)] [(.int ii), (.int (0 : Int32)), (.ref c2), (.ref bb2), (.ref f2)])) (fun _ k => XS.iload X21.here hx rfl (hb hby at_276) rfl  k) ?_
    refine Go.step (g' := (mkF m 280 #[.val (.int p0), .val (.int p1), .val (.int p2), .val (.int p3), .val (.int p4), .val (.int p5), .val (.int cp), .val (.int ii), .val (.int jj), .val (.ref b1), .val (.int (p5 ^^^ (21845 : Int32))), .val (.double (FP.i2d p5)), .second, .val (.double (FP.i2d (p5 ^^^ (1 : Int32)))), .second, .val (.double (FP.i2d p3)), .second, .val (.double (FP.i2d p4)), .second, .val (.ref f2), .val (.ref bb2), .val (.ref c2)] [(.int jj), (.int ii), (.int (0 : Int32)), (.ref c2), (.ref bb2), (.ref f2)])) (fun _ k => XS.iload X21.here hx rfl (hb hby at_278) rfl  k) ?_
    refine Go.step (g' := (mkF m 282 #[.val (.int p0), .val (.int p1), .val (.int p2), .val (.int p3), .val (.int p4), .val (.int p5), .val (.int cp), .val (.int ii), .val (.int jj), .val (.ref b1), .val (.int (p5 ^^^ (21845 : Int32))), .val (.double (FP.i2d p5)), .second, .val (.double (FP.i2d (p5 ^^^ (1 : Int32)))), .second, .val (.double (FP.i2d p3)), .second, .val (.double (FP.i2d p4)), .second, .val (.ref f2), .val (.ref bb2), .val (.ref c2)] [(.int cp), (.int jj), (.int ii), (.int (0 : Int32)), (.ref c2), (.ref bb2), (.ref f2)])) (fun _ k => XS.iload X21.here hx rfl (hb hby at_280) rfl  k) ?_
    obtain ⟨_, _, ⟨T22, L22, k22, n22⟩, -, X22, ⟨Lc22, hQ22, l22, y22, z22⟩, st22⟩ := Jvm.LawKit.callS X21 hx (y := (⟨"com/example/rhadamanthus/rhadamanthus/learn/HeldBinsSetPinLaw", "untouched", "([I[I[DIIII)Z"⟩ : MethodName)) hown (mvT hZ (hw _ (List.mem_of_getElem? (i := 49) rfl))) (mvT hZ (hw _ (List.mem_of_getElem? (i := 50) rfl))) (mvT hZ (hw _ (List.mem_of_getElem? (i := 51) rfl))) (mvT hZ (hw _ (List.mem_of_getElem? (i := 52) rfl))) (by decide) (backOf (W := 0) (rm9 l Z a0 hw [] f2 bb2 c2 (0 : Int32) ii jj cp cp.toNatClampNeg ((2 : Int32) * cp).toNatClampNeg (upd (upd (fun _ => (0 : Int32)) jj.toNatClampNeg p5) ii.toNatClampNeg p1) (upd (upd (fun _ => (0 : Int32)) jj.toNatClampNeg (p5 ^^^ (21845 : Int32))) ii.toNatClampNeg p2) (upd (upd (upd (upd (fun _ => (0 : UInt64)) ((2 : Int32) * jj).toNatClampNeg (FP.i2d p5)) (((2 : Int32) * jj) + (1 : Int32)).toNatClampNeg (FP.i2d (p5 ^^^ (1 : Int32)))) ((2 : Int32) * ii).toNatClampNeg (FP.i2d p3)) (((2 : Int32) * ii) + (1 : Int32)).toNatClampNeg (FP.i2d p4)) T11.heap Af11 Ab11 Ac11 (fun h => (own_d2 (i := (0 : Int32)) (c := cp) (by decide) h hcap0 hcap1).2.2.1) (fun h => (own_d2 (i := (0 : Int32)) (c := cp) (by decide) h hcap0 hcap1).2.2.2.1) (fun h => (own_d2 (i := (0 : Int32)) (c := cp) (by decide) h hcap0 hcap1).2.2.2.2)) hZ (hw _ (List.mem_of_getElem? (i := 52) rfl)) (hw _ (List.mem_of_getElem? (i := 51) rfl)) (by decide) (by decide)) (g := (mkF m 282 #[.val (.int p0), .val (.int p1), .val (.int p2), .val (.int p3), .val (.int p4), .val (.int p5), .val (.int cp), .val (.int ii), .val (.int jj), .val (.ref b1), .val (.int (p5 ^^^ (21845 : Int32))), .val (.double (FP.i2d p5)), .second, .val (.double (FP.i2d (p5 ^^^ (1 : Int32)))), .second, .val (.double (FP.i2d p3)), .second, .val (.double (FP.i2d p4)), .second, .val (.ref f2), .val (.ref bb2), .val (.ref c2)] [(.int cp), (.int jj), (.int ii), (.int (0 : Int32)), (.ref c2), (.ref bb2), (.ref f2)])) rfl (by rw [hml]; rfl) (argsL := [(.ref f2), (.ref bb2), (.ref c2), (.int (0 : Int32)), (.int ii), (.int jj), (.int cp)]) (rest := []) (lenOf pd_5 rfl) rfl (by show 2 * 0 + _ ≤ _; exact Nat.le_of_eq rfl) (hb hby at_282) (fun _ _ => ⟨rfl, e21, (by decide : ((((0 + 1) + 3) + 0) + 0) + 0 ≤ _), (by decide : ((((0 + 4) + 16) + 0) + 0) + 0 ≤ _)⟩)
    dsimp only [Pt.U, Pt.locs, Pt.cells, Pt.slots] at X22 l22 y22 z22 st22 hQ22
    subst l22 y22 z22
    obtain ⟨rfl, rfl, e22⟩ := hQ22
    try rw [List.append_nil] at X22
    refine Go.step (g' := (mkF m 285 #[.val (.int p0), .val (.int p1), .val (.int p2), .val (.int p3), .val (.int p4), .val (.int p5), .val (.int cp), .val (.int ii), .val (.int jj), .val (.ref b1), .val (.int (p5 ^^^ (21845 : Int32))), .val (.double (FP.i2d p5)), .second, .val (.double (FP.i2d (p5 ^^^ (1 : Int32)))), .second, .val (.double (FP.i2d p3)), .second, .val (.double (FP.i2d p4)), .second, .val (.ref f2), .val (.ref bb2), .val (.ref c2)] [(.int (f9_0 (0 : Int32) ii jj cp (upd (upd (fun _ => (0 : Int32)) jj.toNatClampNeg p5) ii.toNatClampNeg p1) (upd (upd (fun _ => (0 : Int32)) jj.toNatClampNeg (p5 ^^^ (21845 : Int32))) ii.toNatClampNeg p2) (upd (upd (upd (upd (fun _ => (0 : UInt64)) ((2 : Int32) * jj).toNatClampNeg (FP.i2d p5)) (((2 : Int32) * jj) + (1 : Int32)).toNatClampNeg (FP.i2d (p5 ^^^ (1 : Int32)))) ((2 : Int32) * ii).toNatClampNeg (FP.i2d p3)) (((2 : Int32) * ii) + (1 : Int32)).toNatClampNeg (FP.i2d p4))))])) st22 ?_
    refine Go.step (g' := (mkF m 288 #[.val (.int p0), .val (.int p1), .val (.int p2), .val (.int p3), .val (.int p4), .val (.int p5), .val (.int cp), .val (.int ii), .val (.int jj), .val (.ref b1), .val (.int (p5 ^^^ (21845 : Int32))), .val (.double (FP.i2d p5)), .second, .val (.double (FP.i2d (p5 ^^^ (1 : Int32)))), .second, .val (.double (FP.i2d p3)), .second, .val (.double (FP.i2d p4)), .second, .val (.ref f2), .val (.ref bb2), .val (.ref c2)] [])) (fun _ k => XS.ifNo X22.here hx rfl (hb hby at_285) rfl ((if0 _ _).trans (feq (own_unt _ _ _ _ _ _ _ _ (by decide) hii0 hii1 hjj0 hjj1 hcap0 hcap1 : ¬ ((f9_0 (0 : Int32) ii jj cp (upd (upd (fun _ => (0 : Int32)) jj.toNatClampNeg p5) ii.toNatClampNeg p1) (upd (upd (fun _ => (0 : Int32)) jj.toNatClampNeg (p5 ^^^ (21845 : Int32))) ii.toNatClampNeg p2) (upd (upd (upd (upd (fun _ => (0 : UInt64)) ((2 : Int32) * jj).toNatClampNeg (FP.i2d p5)) (((2 : Int32) * jj) + (1 : Int32)).toNatClampNeg (FP.i2d (p5 ^^^ (1 : Int32)))) ((2 : Int32) * ii).toNatClampNeg (FP.i2d p3)) (((2 : Int32) * ii) + (1 : Int32)).toNatClampNeg (FP.i2d p4))) = (0 : Int32)))).1) k) ?_
    rw [show f0_269 = f0_288 from rfl]
    refine Go.step (g' := (mkF m 290 #[.val (.int p0), .val (.int p1), .val (.int p2), .val (.int p3), .val (.int p4), .val (.int p5), .val (.int cp), .val (.int ii), .val (.int jj), .val (.ref b1), .val (.int (p5 ^^^ (21845 : Int32))), .val (.double (FP.i2d p5)), .second, .val (.double (FP.i2d (p5 ^^^ (1 : Int32)))), .second, .val (.double (FP.i2d p3)), .second, .val (.double (FP.i2d p4)), .second, .val (.ref f2), .val (.ref bb2), .val (.ref c2)] [(.ref f2)])) (fun _ k => XS.aload X22.here hx rfl (hb hby at_288) rfl rfl  k) ?_
    refine Go.step (g' := (mkF m 292 #[.val (.int p0), .val (.int p1), .val (.int p2), .val (.int p3), .val (.int p4), .val (.int p5), .val (.int cp), .val (.int ii), .val (.int jj), .val (.ref b1), .val (.int (p5 ^^^ (21845 : Int32))), .val (.double (FP.i2d p5)), .second, .val (.double (FP.i2d (p5 ^^^ (1 : Int32)))), .second, .val (.double (FP.i2d p3)), .second, .val (.double (FP.i2d p4)), .second, .val (.ref f2), .val (.ref bb2), .val (.ref c2)] [(.ref bb2), (.ref f2)])) (fun _ k => XS.aload X22.here hx rfl (hb hby at_290) rfl rfl  k) ?_
    refine Go.step (g' := (mkF m 294 #[.val (.int p0), .val (.int p1), .val (.int p2), .val (.int p3), .val (.int p4), .val (.int p5), .val (.int cp), .val (.int ii), .val (.int jj), .val (.ref b1), .val (.int (p5 ^^^ (21845 : Int32))), .val (.double (FP.i2d p5)), .second, .val (.double (FP.i2d (p5 ^^^ (1 : Int32)))), .second, .val (.double (FP.i2d p3)), .second, .val (.double (FP.i2d p4)), .second, .val (.ref f2), .val (.ref bb2), .val (.ref c2)] [(.ref c2), (.ref bb2), (.ref f2)])) (fun _ k => XS.aload X22.here hx rfl (hb hby at_292) rfl rfl  k) ?_
    refine Go.step (g' := (mkF m 295 #[.val (.int p0), .val (.int p1), .val (.int p2), .val (.int p3), .val (.int p4), .val (.int p5), .val (.int cp), .val (.int ii), .val (.int jj), .val (.ref b1), .val (.int (p5 ^^^ (21845 : Int32))), .val (.double (FP.i2d p5)), .second, .val (.double (FP.i2d (p5 ^^^ (1 : Int32)))), .second, .val (.double (FP.i2d p3)), .second, .val (.double (FP.i2d p4)), .second, .val (.ref f2), .val (.ref bb2), .val (.ref c2)] [(.int (1 : Int32)), (.ref c2), (.ref bb2), (.ref f2)])) (fun _ k => XS.iconst X22.here hx rfl (hb hby at_294) k) ?_
    refine Go.step (g' := (mkF m 297 #[.val (.int p0), .val (.int p1), .val (.int p2), .val (.int p3), .val (.int p4), .val (.int p5), .val (.int cp), .val (.int ii), .val (.int jj), .val (.ref b1), .val (.int (p5 ^^^ (21845 : Int32))), .val (.double (FP.i2d p5)), .second, .val (.double (FP.i2d (p5 ^^^ (1 : Int32)))), .second, .val (.double (FP.i2d p3)), .second, .val (.double (FP.i2d p4)), .second, .val (.ref f2), .val (.ref bb2), .val (.ref c2)] [(.int ii), (.int (1 : Int32)), (.ref c2), (.ref bb2), (.ref f2)])) (fun _ k => XS.iload X22.here hx rfl (hb hby at_295) rfl  k) ?_
    refine Go.step (g' := (mkF m 299 #[.val (.int p0), .val (.int p1), .val (.int p2), .val (.int p3), .val (.int p4), .val (.int p5), .val (.int cp), .val (.int ii), .val (.int jj), .val (.ref b1), .val (.int (p5 ^^^ (21845 : Int32))), .val (.double (FP.i2d p5)), .second, .val (.double (FP.i2d (p5 ^^^ (1 : Int32)))), .second, .val (.double (FP.i2d p3)), .second, .val (.double (FP.i2d p4)), .second, .val (.ref f2), .val (.ref bb2), .val (.ref c2)] [(.int jj), (.int ii), (.int (1 : Int32)), (.ref c2), (.ref bb2), (.ref f2)])) (fun _ k => XS.iload X22.here hx rfl (hb hby at_297) rfl  k) ?_
    refine Go.step (g' := (mkF m 301 #[.val (.int p0), .val (.int p1), .val (.int p2), .val (.int p3), .val (.int p4), .val (.int p5), .val (.int cp), .val (.int ii), .val (.int jj), .val (.ref b1), .val (.int (p5 ^^^ (21845 : Int32))), .val (.double (FP.i2d p5)), .second, .val (.double (FP.i2d (p5 ^^^ (1 : Int32)))), .second, .val (.double (FP.i2d p3)), .second, .val (.double (FP.i2d p4)), .second, .val (.ref f2), .val (.ref bb2), .val (.ref c2)] [(.int cp), (.int jj), (.int ii), (.int (1 : Int32)), (.ref c2), (.ref bb2), (.ref f2)])) (fun _ k => XS.iload X22.here hx rfl (hb hby at_299) rfl  k) ?_
    obtain ⟨_, _, ⟨T23, L23, k23, n23⟩, -, X23, ⟨Lc23, hQ23, l23, y23, z23⟩, st23⟩ := Jvm.LawKit.callS X22 hx (y := (⟨"com/example/rhadamanthus/rhadamanthus/learn/HeldBinsSetPinLaw", "untouched", "([I[I[DIIII)Z"⟩ : MethodName)) hown (mvT hZ (hw _ (List.mem_of_getElem? (i := 49) rfl))) (mvT hZ (hw _ (List.mem_of_getElem? (i := 50) rfl))) (mvT hZ (hw _ (List.mem_of_getElem? (i := 51) rfl))) (mvT hZ (hw _ (List.mem_of_getElem? (i := 52) rfl))) (by decide) (backOf (W := 0) (rm9 l Z a0 hw [] f2 bb2 c2 (1 : Int32) ii jj cp cp.toNatClampNeg ((2 : Int32) * cp).toNatClampNeg (upd (upd (fun _ => (0 : Int32)) jj.toNatClampNeg p5) ii.toNatClampNeg p1) (upd (upd (fun _ => (0 : Int32)) jj.toNatClampNeg (p5 ^^^ (21845 : Int32))) ii.toNatClampNeg p2) (upd (upd (upd (upd (fun _ => (0 : UInt64)) ((2 : Int32) * jj).toNatClampNeg (FP.i2d p5)) (((2 : Int32) * jj) + (1 : Int32)).toNatClampNeg (FP.i2d (p5 ^^^ (1 : Int32)))) ((2 : Int32) * ii).toNatClampNeg (FP.i2d p3)) (((2 : Int32) * ii) + (1 : Int32)).toNatClampNeg (FP.i2d p4)) T11.heap Af11 Ab11 Ac11 (fun h => (own_d2 (i := (1 : Int32)) (c := cp) (by decide) h hcap0 hcap1).2.2.1) (fun h => (own_d2 (i := (1 : Int32)) (c := cp) (by decide) h hcap0 hcap1).2.2.2.1) (fun h => (own_d2 (i := (1 : Int32)) (c := cp) (by decide) h hcap0 hcap1).2.2.2.2)) hZ (hw _ (List.mem_of_getElem? (i := 52) rfl)) (hw _ (List.mem_of_getElem? (i := 51) rfl)) (by decide) (by decide)) (g := (mkF m 301 #[.val (.int p0), .val (.int p1), .val (.int p2), .val (.int p3), .val (.int p4), .val (.int p5), .val (.int cp), .val (.int ii), .val (.int jj), .val (.ref b1), .val (.int (p5 ^^^ (21845 : Int32))), .val (.double (FP.i2d p5)), .second, .val (.double (FP.i2d (p5 ^^^ (1 : Int32)))), .second, .val (.double (FP.i2d p3)), .second, .val (.double (FP.i2d p4)), .second, .val (.ref f2), .val (.ref bb2), .val (.ref c2)] [(.int cp), (.int jj), (.int ii), (.int (1 : Int32)), (.ref c2), (.ref bb2), (.ref f2)])) rfl (by rw [hml]; rfl) (argsL := [(.ref f2), (.ref bb2), (.ref c2), (.int (1 : Int32)), (.int ii), (.int jj), (.int cp)]) (rest := []) (lenOf pd_5 rfl) rfl (by show 2 * 0 + _ ≤ _; exact Nat.le_of_eq rfl) (hb hby at_301) (fun _ _ => ⟨rfl, e22, (by decide : ((((0 + 1) + 3) + 0) + 0) + 0 ≤ _), (by decide : ((((0 + 4) + 16) + 0) + 0) + 0 ≤ _)⟩)
    dsimp only [Pt.U, Pt.locs, Pt.cells, Pt.slots] at X23 l23 y23 z23 st23 hQ23
    subst l23 y23 z23
    obtain ⟨rfl, rfl, e23⟩ := hQ23
    try rw [List.append_nil] at X23
    refine Go.step (g' := (mkF m 304 #[.val (.int p0), .val (.int p1), .val (.int p2), .val (.int p3), .val (.int p4), .val (.int p5), .val (.int cp), .val (.int ii), .val (.int jj), .val (.ref b1), .val (.int (p5 ^^^ (21845 : Int32))), .val (.double (FP.i2d p5)), .second, .val (.double (FP.i2d (p5 ^^^ (1 : Int32)))), .second, .val (.double (FP.i2d p3)), .second, .val (.double (FP.i2d p4)), .second, .val (.ref f2), .val (.ref bb2), .val (.ref c2)] [(.int (f9_0 (1 : Int32) ii jj cp (upd (upd (fun _ => (0 : Int32)) jj.toNatClampNeg p5) ii.toNatClampNeg p1) (upd (upd (fun _ => (0 : Int32)) jj.toNatClampNeg (p5 ^^^ (21845 : Int32))) ii.toNatClampNeg p2) (upd (upd (upd (upd (fun _ => (0 : UInt64)) ((2 : Int32) * jj).toNatClampNeg (FP.i2d p5)) (((2 : Int32) * jj) + (1 : Int32)).toNatClampNeg (FP.i2d (p5 ^^^ (1 : Int32)))) ((2 : Int32) * ii).toNatClampNeg (FP.i2d p3)) (((2 : Int32) * ii) + (1 : Int32)).toNatClampNeg (FP.i2d p4))))])) st23 ?_
    refine Go.step (g' := (mkF m 307 #[.val (.int p0), .val (.int p1), .val (.int p2), .val (.int p3), .val (.int p4), .val (.int p5), .val (.int cp), .val (.int ii), .val (.int jj), .val (.ref b1), .val (.int (p5 ^^^ (21845 : Int32))), .val (.double (FP.i2d p5)), .second, .val (.double (FP.i2d (p5 ^^^ (1 : Int32)))), .second, .val (.double (FP.i2d p3)), .second, .val (.double (FP.i2d p4)), .second, .val (.ref f2), .val (.ref bb2), .val (.ref c2)] [])) (fun _ k => XS.ifNo X23.here hx rfl (hb hby at_304) rfl ((if0 _ _).trans (feq (own_unt _ _ _ _ _ _ _ _ (by decide) hii0 hii1 hjj0 hjj1 hcap0 hcap1 : ¬ ((f9_0 (1 : Int32) ii jj cp (upd (upd (fun _ => (0 : Int32)) jj.toNatClampNeg p5) ii.toNatClampNeg p1) (upd (upd (fun _ => (0 : Int32)) jj.toNatClampNeg (p5 ^^^ (21845 : Int32))) ii.toNatClampNeg p2) (upd (upd (upd (upd (fun _ => (0 : UInt64)) ((2 : Int32) * jj).toNatClampNeg (FP.i2d p5)) (((2 : Int32) * jj) + (1 : Int32)).toNatClampNeg (FP.i2d (p5 ^^^ (1 : Int32)))) ((2 : Int32) * ii).toNatClampNeg (FP.i2d p3)) (((2 : Int32) * ii) + (1 : Int32)).toNatClampNeg (FP.i2d p4))) = (0 : Int32)))).1) k) ?_
    rw [show f0_288 = f0_307 from rfl]
    refine Go.step (g' := (mkF m 309 #[.val (.int p0), .val (.int p1), .val (.int p2), .val (.int p3), .val (.int p4), .val (.int p5), .val (.int cp), .val (.int ii), .val (.int jj), .val (.ref b1), .val (.int (p5 ^^^ (21845 : Int32))), .val (.double (FP.i2d p5)), .second, .val (.double (FP.i2d (p5 ^^^ (1 : Int32)))), .second, .val (.double (FP.i2d p3)), .second, .val (.double (FP.i2d p4)), .second, .val (.ref f2), .val (.ref bb2), .val (.ref c2)] [(.ref f2)])) (fun _ k => XS.aload X23.here hx rfl (hb hby at_307) rfl rfl  k) ?_
    refine Go.step (g' := (mkF m 311 #[.val (.int p0), .val (.int p1), .val (.int p2), .val (.int p3), .val (.int p4), .val (.int p5), .val (.int cp), .val (.int ii), .val (.int jj), .val (.ref b1), .val (.int (p5 ^^^ (21845 : Int32))), .val (.double (FP.i2d p5)), .second, .val (.double (FP.i2d (p5 ^^^ (1 : Int32)))), .second, .val (.double (FP.i2d p3)), .second, .val (.double (FP.i2d p4)), .second, .val (.ref f2), .val (.ref bb2), .val (.ref c2)] [(.ref bb2), (.ref f2)])) (fun _ k => XS.aload X23.here hx rfl (hb hby at_309) rfl rfl  k) ?_
    refine Go.step (g' := (mkF m 313 #[.val (.int p0), .val (.int p1), .val (.int p2), .val (.int p3), .val (.int p4), .val (.int p5), .val (.int cp), .val (.int ii), .val (.int jj), .val (.ref b1), .val (.int (p5 ^^^ (21845 : Int32))), .val (.double (FP.i2d p5)), .second, .val (.double (FP.i2d (p5 ^^^ (1 : Int32)))), .second, .val (.double (FP.i2d p3)), .second, .val (.double (FP.i2d p4)), .second, .val (.ref f2), .val (.ref bb2), .val (.ref c2)] [(.ref c2), (.ref bb2), (.ref f2)])) (fun _ k => XS.aload X23.here hx rfl (hb hby at_311) rfl rfl  k) ?_
    refine Go.step (g' := (mkF m 314 #[.val (.int p0), .val (.int p1), .val (.int p2), .val (.int p3), .val (.int p4), .val (.int p5), .val (.int cp), .val (.int ii), .val (.int jj), .val (.ref b1), .val (.int (p5 ^^^ (21845 : Int32))), .val (.double (FP.i2d p5)), .second, .val (.double (FP.i2d (p5 ^^^ (1 : Int32)))), .second, .val (.double (FP.i2d p3)), .second, .val (.double (FP.i2d p4)), .second, .val (.ref f2), .val (.ref bb2), .val (.ref c2)] [(.int (2 : Int32)), (.ref c2), (.ref bb2), (.ref f2)])) (fun _ k => XS.iconst X23.here hx rfl (hb hby at_313) k) ?_
    refine Go.step (g' := (mkF m 316 #[.val (.int p0), .val (.int p1), .val (.int p2), .val (.int p3), .val (.int p4), .val (.int p5), .val (.int cp), .val (.int ii), .val (.int jj), .val (.ref b1), .val (.int (p5 ^^^ (21845 : Int32))), .val (.double (FP.i2d p5)), .second, .val (.double (FP.i2d (p5 ^^^ (1 : Int32)))), .second, .val (.double (FP.i2d p3)), .second, .val (.double (FP.i2d p4)), .second, .val (.ref f2), .val (.ref bb2), .val (.ref c2)] [(.int ii), (.int (2 : Int32)), (.ref c2), (.ref bb2), (.ref f2)])) (fun _ k => XS.iload X23.here hx rfl (hb hby at_314) rfl  k) ?_
    refine Go.step (g' := (mkF m 318 #[.val (.int p0), .val (.int p1), .val (.int p2), .val (.int p3), .val (.int p4), .val (.int p5), .val (.int cp), .val (.int ii), .val (.int jj), .val (.ref b1), .val (.int (p5 ^^^ (21845 : Int32))), .val (.double (FP.i2d p5)), .second, .val (.double (FP.i2d (p5 ^^^ (1 : Int32)))), .second, .val (.double (FP.i2d p3)), .second, .val (.double (FP.i2d p4)), .second, .val (.ref f2), .val (.ref bb2), .val (.ref c2)] [(.int jj), (.int ii), (.int (2 : Int32)), (.ref c2), (.ref bb2), (.ref f2)])) (fun _ k => XS.iload X23.here hx rfl (hb hby at_316) rfl  k) ?_
    refine Go.step (g' := (mkF m 320 #[.val (.int p0), .val (.int p1), .val (.int p2), .val (.int p3), .val (.int p4), .val (.int p5), .val (.int cp), .val (.int ii), .val (.int jj), .val (.ref b1), .val (.int (p5 ^^^ (21845 : Int32))), .val (.double (FP.i2d p5)), .second, .val (.double (FP.i2d (p5 ^^^ (1 : Int32)))), .second, .val (.double (FP.i2d p3)), .second, .val (.double (FP.i2d p4)), .second, .val (.ref f2), .val (.ref bb2), .val (.ref c2)] [(.int cp), (.int jj), (.int ii), (.int (2 : Int32)), (.ref c2), (.ref bb2), (.ref f2)])) (fun _ k => XS.iload X23.here hx rfl (hb hby at_318) rfl  k) ?_
    obtain ⟨_, _, ⟨T24, L24, k24, n24⟩, -, X24, ⟨Lc24, hQ24, l24, y24, z24⟩, st24⟩ := Jvm.LawKit.callS X23 hx (y := (⟨"com/example/rhadamanthus/rhadamanthus/learn/HeldBinsSetPinLaw", "untouched", "([I[I[DIIII)Z"⟩ : MethodName)) hown (mvT hZ (hw _ (List.mem_of_getElem? (i := 49) rfl))) (mvT hZ (hw _ (List.mem_of_getElem? (i := 50) rfl))) (mvT hZ (hw _ (List.mem_of_getElem? (i := 51) rfl))) (mvT hZ (hw _ (List.mem_of_getElem? (i := 52) rfl))) (by decide) (backOf (W := 0) (rm9 l Z a0 hw [] f2 bb2 c2 (2 : Int32) ii jj cp cp.toNatClampNeg ((2 : Int32) * cp).toNatClampNeg (upd (upd (fun _ => (0 : Int32)) jj.toNatClampNeg p5) ii.toNatClampNeg p1) (upd (upd (fun _ => (0 : Int32)) jj.toNatClampNeg (p5 ^^^ (21845 : Int32))) ii.toNatClampNeg p2) (upd (upd (upd (upd (fun _ => (0 : UInt64)) ((2 : Int32) * jj).toNatClampNeg (FP.i2d p5)) (((2 : Int32) * jj) + (1 : Int32)).toNatClampNeg (FP.i2d (p5 ^^^ (1 : Int32)))) ((2 : Int32) * ii).toNatClampNeg (FP.i2d p3)) (((2 : Int32) * ii) + (1 : Int32)).toNatClampNeg (FP.i2d p4)) T11.heap Af11 Ab11 Ac11 (fun h => (own_d2 (i := (2 : Int32)) (c := cp) (by decide) h hcap0 hcap1).2.2.1) (fun h => (own_d2 (i := (2 : Int32)) (c := cp) (by decide) h hcap0 hcap1).2.2.2.1) (fun h => (own_d2 (i := (2 : Int32)) (c := cp) (by decide) h hcap0 hcap1).2.2.2.2)) hZ (hw _ (List.mem_of_getElem? (i := 52) rfl)) (hw _ (List.mem_of_getElem? (i := 51) rfl)) (by decide) (by decide)) (g := (mkF m 320 #[.val (.int p0), .val (.int p1), .val (.int p2), .val (.int p3), .val (.int p4), .val (.int p5), .val (.int cp), .val (.int ii), .val (.int jj), .val (.ref b1), .val (.int (p5 ^^^ (21845 : Int32))), .val (.double (FP.i2d p5)), .second, .val (.double (FP.i2d (p5 ^^^ (1 : Int32)))), .second, .val (.double (FP.i2d p3)), .second, .val (.double (FP.i2d p4)), .second, .val (.ref f2), .val (.ref bb2), .val (.ref c2)] [(.int cp), (.int jj), (.int ii), (.int (2 : Int32)), (.ref c2), (.ref bb2), (.ref f2)])) rfl (by rw [hml]; rfl) (argsL := [(.ref f2), (.ref bb2), (.ref c2), (.int (2 : Int32)), (.int ii), (.int jj), (.int cp)]) (rest := []) (lenOf pd_5 rfl) rfl (by show 2 * 0 + _ ≤ _; exact Nat.le_of_eq rfl) (hb hby at_320) (fun _ _ => ⟨rfl, e23, (by decide : ((((0 + 1) + 3) + 0) + 0) + 0 ≤ _), (by decide : ((((0 + 4) + 16) + 0) + 0) + 0 ≤ _)⟩)
    dsimp only [Pt.U, Pt.locs, Pt.cells, Pt.slots] at X24 l24 y24 z24 st24 hQ24
    subst l24 y24 z24
    obtain ⟨rfl, rfl, e24⟩ := hQ24
    try rw [List.append_nil] at X24
    refine Go.step (g' := (mkF m 323 #[.val (.int p0), .val (.int p1), .val (.int p2), .val (.int p3), .val (.int p4), .val (.int p5), .val (.int cp), .val (.int ii), .val (.int jj), .val (.ref b1), .val (.int (p5 ^^^ (21845 : Int32))), .val (.double (FP.i2d p5)), .second, .val (.double (FP.i2d (p5 ^^^ (1 : Int32)))), .second, .val (.double (FP.i2d p3)), .second, .val (.double (FP.i2d p4)), .second, .val (.ref f2), .val (.ref bb2), .val (.ref c2)] [(.int (f9_0 (2 : Int32) ii jj cp (upd (upd (fun _ => (0 : Int32)) jj.toNatClampNeg p5) ii.toNatClampNeg p1) (upd (upd (fun _ => (0 : Int32)) jj.toNatClampNeg (p5 ^^^ (21845 : Int32))) ii.toNatClampNeg p2) (upd (upd (upd (upd (fun _ => (0 : UInt64)) ((2 : Int32) * jj).toNatClampNeg (FP.i2d p5)) (((2 : Int32) * jj) + (1 : Int32)).toNatClampNeg (FP.i2d (p5 ^^^ (1 : Int32)))) ((2 : Int32) * ii).toNatClampNeg (FP.i2d p3)) (((2 : Int32) * ii) + (1 : Int32)).toNatClampNeg (FP.i2d p4))))])) st24 ?_
    refine Go.step (g' := (mkF m 326 #[.val (.int p0), .val (.int p1), .val (.int p2), .val (.int p3), .val (.int p4), .val (.int p5), .val (.int cp), .val (.int ii), .val (.int jj), .val (.ref b1), .val (.int (p5 ^^^ (21845 : Int32))), .val (.double (FP.i2d p5)), .second, .val (.double (FP.i2d (p5 ^^^ (1 : Int32)))), .second, .val (.double (FP.i2d p3)), .second, .val (.double (FP.i2d p4)), .second, .val (.ref f2), .val (.ref bb2), .val (.ref c2)] [])) (fun _ k => XS.ifNo X24.here hx rfl (hb hby at_323) rfl ((if0 _ _).trans (feq (own_unt _ _ _ _ _ _ _ _ (by decide) hii0 hii1 hjj0 hjj1 hcap0 hcap1 : ¬ ((f9_0 (2 : Int32) ii jj cp (upd (upd (fun _ => (0 : Int32)) jj.toNatClampNeg p5) ii.toNatClampNeg p1) (upd (upd (fun _ => (0 : Int32)) jj.toNatClampNeg (p5 ^^^ (21845 : Int32))) ii.toNatClampNeg p2) (upd (upd (upd (upd (fun _ => (0 : UInt64)) ((2 : Int32) * jj).toNatClampNeg (FP.i2d p5)) (((2 : Int32) * jj) + (1 : Int32)).toNatClampNeg (FP.i2d (p5 ^^^ (1 : Int32)))) ((2 : Int32) * ii).toNatClampNeg (FP.i2d p3)) (((2 : Int32) * ii) + (1 : Int32)).toNatClampNeg (FP.i2d p4))) = (0 : Int32)))).1) k) ?_
    rw [show f0_307 = f0_326 from rfl]
    refine Go.step (g' := (mkF m 328 #[.val (.int p0), .val (.int p1), .val (.int p2), .val (.int p3), .val (.int p4), .val (.int p5), .val (.int cp), .val (.int ii), .val (.int jj), .val (.ref b1), .val (.int (p5 ^^^ (21845 : Int32))), .val (.double (FP.i2d p5)), .second, .val (.double (FP.i2d (p5 ^^^ (1 : Int32)))), .second, .val (.double (FP.i2d p3)), .second, .val (.double (FP.i2d p4)), .second, .val (.ref f2), .val (.ref bb2), .val (.ref c2)] [(.ref f2)])) (fun _ k => XS.aload X24.here hx rfl (hb hby at_326) rfl rfl  k) ?_
    refine Go.step (g' := (mkF m 330 #[.val (.int p0), .val (.int p1), .val (.int p2), .val (.int p3), .val (.int p4), .val (.int p5), .val (.int cp), .val (.int ii), .val (.int jj), .val (.ref b1), .val (.int (p5 ^^^ (21845 : Int32))), .val (.double (FP.i2d p5)), .second, .val (.double (FP.i2d (p5 ^^^ (1 : Int32)))), .second, .val (.double (FP.i2d p3)), .second, .val (.double (FP.i2d p4)), .second, .val (.ref f2), .val (.ref bb2), .val (.ref c2)] [(.ref bb2), (.ref f2)])) (fun _ k => XS.aload X24.here hx rfl (hb hby at_328) rfl rfl  k) ?_
    refine Go.step (g' := (mkF m 332 #[.val (.int p0), .val (.int p1), .val (.int p2), .val (.int p3), .val (.int p4), .val (.int p5), .val (.int cp), .val (.int ii), .val (.int jj), .val (.ref b1), .val (.int (p5 ^^^ (21845 : Int32))), .val (.double (FP.i2d p5)), .second, .val (.double (FP.i2d (p5 ^^^ (1 : Int32)))), .second, .val (.double (FP.i2d p3)), .second, .val (.double (FP.i2d p4)), .second, .val (.ref f2), .val (.ref bb2), .val (.ref c2)] [(.ref c2), (.ref bb2), (.ref f2)])) (fun _ k => XS.aload X24.here hx rfl (hb hby at_330) rfl rfl  k) ?_
    refine Go.step (g' := (mkF m 333 #[.val (.int p0), .val (.int p1), .val (.int p2), .val (.int p3), .val (.int p4), .val (.int p5), .val (.int cp), .val (.int ii), .val (.int jj), .val (.ref b1), .val (.int (p5 ^^^ (21845 : Int32))), .val (.double (FP.i2d p5)), .second, .val (.double (FP.i2d (p5 ^^^ (1 : Int32)))), .second, .val (.double (FP.i2d p3)), .second, .val (.double (FP.i2d p4)), .second, .val (.ref f2), .val (.ref bb2), .val (.ref c2)] [(.int (3 : Int32)), (.ref c2), (.ref bb2), (.ref f2)])) (fun _ k => XS.iconst X24.here hx rfl (hb hby at_332) k) ?_
    refine Go.step (g' := (mkF m 335 #[.val (.int p0), .val (.int p1), .val (.int p2), .val (.int p3), .val (.int p4), .val (.int p5), .val (.int cp), .val (.int ii), .val (.int jj), .val (.ref b1), .val (.int (p5 ^^^ (21845 : Int32))), .val (.double (FP.i2d p5)), .second, .val (.double (FP.i2d (p5 ^^^ (1 : Int32)))), .second, .val (.double (FP.i2d p3)), .second, .val (.double (FP.i2d p4)), .second, .val (.ref f2), .val (.ref bb2), .val (.ref c2)] [(.int ii), (.int (3 : Int32)), (.ref c2), (.ref bb2), (.ref f2)])) (fun _ k => XS.iload X24.here hx rfl (hb hby at_333) rfl  k) ?_
    refine Go.step (g' := (mkF m 337 #[.val (.int p0), .val (.int p1), .val (.int p2), .val (.int p3), .val (.int p4), .val (.int p5), .val (.int cp), .val (.int ii), .val (.int jj), .val (.ref b1), .val (.int (p5 ^^^ (21845 : Int32))), .val (.double (FP.i2d p5)), .second, .val (.double (FP.i2d (p5 ^^^ (1 : Int32)))), .second, .val (.double (FP.i2d p3)), .second, .val (.double (FP.i2d p4)), .second, .val (.ref f2), .val (.ref bb2), .val (.ref c2)] [(.int jj), (.int ii), (.int (3 : Int32)), (.ref c2), (.ref bb2), (.ref f2)])) (fun _ k => XS.iload X24.here hx rfl (hb hby at_335) rfl  k) ?_
    refine Go.step (g' := (mkF m 339 #[.val (.int p0), .val (.int p1), .val (.int p2), .val (.int p3), .val (.int p4), .val (.int p5), .val (.int cp), .val (.int ii), .val (.int jj), .val (.ref b1), .val (.int (p5 ^^^ (21845 : Int32))), .val (.double (FP.i2d p5)), .second, .val (.double (FP.i2d (p5 ^^^ (1 : Int32)))), .second, .val (.double (FP.i2d p3)), .second, .val (.double (FP.i2d p4)), .second, .val (.ref f2), .val (.ref bb2), .val (.ref c2)] [(.int cp), (.int jj), (.int ii), (.int (3 : Int32)), (.ref c2), (.ref bb2), (.ref f2)])) (fun _ k => XS.iload X24.here hx rfl (hb hby at_337) rfl  k) ?_
    obtain ⟨_, _, ⟨T25, L25, k25, n25⟩, -, X25, ⟨Lc25, hQ25, l25, y25, z25⟩, st25⟩ := Jvm.LawKit.callS X24 hx (y := (⟨"com/example/rhadamanthus/rhadamanthus/learn/HeldBinsSetPinLaw", "untouched", "([I[I[DIIII)Z"⟩ : MethodName)) hown (mvT hZ (hw _ (List.mem_of_getElem? (i := 49) rfl))) (mvT hZ (hw _ (List.mem_of_getElem? (i := 50) rfl))) (mvT hZ (hw _ (List.mem_of_getElem? (i := 51) rfl))) (mvT hZ (hw _ (List.mem_of_getElem? (i := 52) rfl))) (by decide) (backOf (W := 0) (rm9 l Z a0 hw [] f2 bb2 c2 (3 : Int32) ii jj cp cp.toNatClampNeg ((2 : Int32) * cp).toNatClampNeg (upd (upd (fun _ => (0 : Int32)) jj.toNatClampNeg p5) ii.toNatClampNeg p1) (upd (upd (fun _ => (0 : Int32)) jj.toNatClampNeg (p5 ^^^ (21845 : Int32))) ii.toNatClampNeg p2) (upd (upd (upd (upd (fun _ => (0 : UInt64)) ((2 : Int32) * jj).toNatClampNeg (FP.i2d p5)) (((2 : Int32) * jj) + (1 : Int32)).toNatClampNeg (FP.i2d (p5 ^^^ (1 : Int32)))) ((2 : Int32) * ii).toNatClampNeg (FP.i2d p3)) (((2 : Int32) * ii) + (1 : Int32)).toNatClampNeg (FP.i2d p4)) T11.heap Af11 Ab11 Ac11 (fun h => (own_d2 (i := (3 : Int32)) (c := cp) (by decide) h hcap0 hcap1).2.2.1) (fun h => (own_d2 (i := (3 : Int32)) (c := cp) (by decide) h hcap0 hcap1).2.2.2.1) (fun h => (own_d2 (i := (3 : Int32)) (c := cp) (by decide) h hcap0 hcap1).2.2.2.2)) hZ (hw _ (List.mem_of_getElem? (i := 52) rfl)) (hw _ (List.mem_of_getElem? (i := 51) rfl)) (by decide) (by decide)) (g := (mkF m 339 #[.val (.int p0), .val (.int p1), .val (.int p2), .val (.int p3), .val (.int p4), .val (.int p5), .val (.int cp), .val (.int ii), .val (.int jj), .val (.ref b1), .val (.int (p5 ^^^ (21845 : Int32))), .val (.double (FP.i2d p5)), .second, .val (.double (FP.i2d (p5 ^^^ (1 : Int32)))), .second, .val (.double (FP.i2d p3)), .second, .val (.double (FP.i2d p4)), .second, .val (.ref f2), .val (.ref bb2), .val (.ref c2)] [(.int cp), (.int jj), (.int ii), (.int (3 : Int32)), (.ref c2), (.ref bb2), (.ref f2)])) rfl (by rw [hml]; rfl) (argsL := [(.ref f2), (.ref bb2), (.ref c2), (.int (3 : Int32)), (.int ii), (.int jj), (.int cp)]) (rest := []) (lenOf pd_5 rfl) rfl (by show 2 * 0 + _ ≤ _; exact Nat.le_of_eq rfl) (hb hby at_339) (fun _ _ => ⟨rfl, e24, (by decide : ((((0 + 1) + 3) + 0) + 0) + 0 ≤ _), (by decide : ((((0 + 4) + 16) + 0) + 0) + 0 ≤ _)⟩)
    dsimp only [Pt.U, Pt.locs, Pt.cells, Pt.slots] at X25 l25 y25 z25 st25 hQ25
    subst l25 y25 z25
    obtain ⟨rfl, rfl, e25⟩ := hQ25
    try rw [List.append_nil] at X25
    refine Go.step (g' := (mkF m 342 #[.val (.int p0), .val (.int p1), .val (.int p2), .val (.int p3), .val (.int p4), .val (.int p5), .val (.int cp), .val (.int ii), .val (.int jj), .val (.ref b1), .val (.int (p5 ^^^ (21845 : Int32))), .val (.double (FP.i2d p5)), .second, .val (.double (FP.i2d (p5 ^^^ (1 : Int32)))), .second, .val (.double (FP.i2d p3)), .second, .val (.double (FP.i2d p4)), .second, .val (.ref f2), .val (.ref bb2), .val (.ref c2)] [(.int (f9_0 (3 : Int32) ii jj cp (upd (upd (fun _ => (0 : Int32)) jj.toNatClampNeg p5) ii.toNatClampNeg p1) (upd (upd (fun _ => (0 : Int32)) jj.toNatClampNeg (p5 ^^^ (21845 : Int32))) ii.toNatClampNeg p2) (upd (upd (upd (upd (fun _ => (0 : UInt64)) ((2 : Int32) * jj).toNatClampNeg (FP.i2d p5)) (((2 : Int32) * jj) + (1 : Int32)).toNatClampNeg (FP.i2d (p5 ^^^ (1 : Int32)))) ((2 : Int32) * ii).toNatClampNeg (FP.i2d p3)) (((2 : Int32) * ii) + (1 : Int32)).toNatClampNeg (FP.i2d p4))))])) st25 ?_
    refine Go.step (g' := (mkF m 345 #[.val (.int p0), .val (.int p1), .val (.int p2), .val (.int p3), .val (.int p4), .val (.int p5), .val (.int cp), .val (.int ii), .val (.int jj), .val (.ref b1), .val (.int (p5 ^^^ (21845 : Int32))), .val (.double (FP.i2d p5)), .second, .val (.double (FP.i2d (p5 ^^^ (1 : Int32)))), .second, .val (.double (FP.i2d p3)), .second, .val (.double (FP.i2d p4)), .second, .val (.ref f2), .val (.ref bb2), .val (.ref c2)] [])) (fun _ k => XS.ifNo X25.here hx rfl (hb hby at_342) rfl ((if0 _ _).trans (feq (own_unt _ _ _ _ _ _ _ _ (by decide) hii0 hii1 hjj0 hjj1 hcap0 hcap1 : ¬ ((f9_0 (3 : Int32) ii jj cp (upd (upd (fun _ => (0 : Int32)) jj.toNatClampNeg p5) ii.toNatClampNeg p1) (upd (upd (fun _ => (0 : Int32)) jj.toNatClampNeg (p5 ^^^ (21845 : Int32))) ii.toNatClampNeg p2) (upd (upd (upd (upd (fun _ => (0 : UInt64)) ((2 : Int32) * jj).toNatClampNeg (FP.i2d p5)) (((2 : Int32) * jj) + (1 : Int32)).toNatClampNeg (FP.i2d (p5 ^^^ (1 : Int32)))) ((2 : Int32) * ii).toNatClampNeg (FP.i2d p3)) (((2 : Int32) * ii) + (1 : Int32)).toNatClampNeg (FP.i2d p4))) = (0 : Int32)))).1) k) ?_
    rw [show f0_326 = f0_345 from rfl]
    refine Go.step (g' := (mkF m 346 #[.val (.int p0), .val (.int p1), .val (.int p2), .val (.int p3), .val (.int p4), .val (.int p5), .val (.int cp), .val (.int ii), .val (.int jj), .val (.ref b1), .val (.int (p5 ^^^ (21845 : Int32))), .val (.double (FP.i2d p5)), .second, .val (.double (FP.i2d (p5 ^^^ (1 : Int32)))), .second, .val (.double (FP.i2d p3)), .second, .val (.double (FP.i2d p4)), .second, .val (.ref f2), .val (.ref bb2), .val (.ref c2)] [(.int (1 : Int32))])) (fun _ k => XS.iconst X25.here hx rfl (hb hby at_345) k) ?_
    refine Go.step (g' := (mkF m 350 #[.val (.int p0), .val (.int p1), .val (.int p2), .val (.int p3), .val (.int p4), .val (.int p5), .val (.int cp), .val (.int ii), .val (.int jj), .val (.ref b1), .val (.int (p5 ^^^ (21845 : Int32))), .val (.double (FP.i2d p5)), .second, .val (.double (FP.i2d (p5 ^^^ (1 : Int32)))), .second, .val (.double (FP.i2d p3)), .second, .val (.double (FP.i2d p4)), .second, .val (.ref f2), .val (.ref bb2), .val (.ref c2)] [(.int (1 : Int32))])) (fun _ k => XS.goto X25.here hx rfl (pc0 := 346) (pc' := 350) rfl (hb hby at_346) (by decide) (by decide) k) ?_
    rw [show f0_345 = f0_350 from rfl]
    exact Go.retN X25 hx hlk (t := .boolean) Bd.returns (by simp) (hb hby at_350) (by decide) (by decide) ⟨rfl, N11⟩
  by_cases hc216 : jj = ii
  · rw [show (f0_212 ii jj) = f0_269 from if_pos hc216]
    refine Go.step (g' := (mkF m 269 #[.val (.int p0), .val (.int p1), .val (.int p2), .val (.int p3), .val (.int p4), .val (.int p5), .val (.int cp), .val (.int ii), .val (.int jj), .val (.ref b1), .val (.int (p5 ^^^ (21845 : Int32))), .val (.double (FP.i2d p5)), .second, .val (.double (FP.i2d (p5 ^^^ (1 : Int32)))), .second, .val (.double (FP.i2d p3)), .second, .val (.double (FP.i2d p4)), .second, .val (.ref f2), .val (.ref bb2), .val (.ref c2)] [])) (fun _ k => XS.icmpYes X21.here hx rfl (pc0 := 216) (pc' := 269) rfl (hb hby at_216) rfl (teq hc216).1 (by decide) (by decide) k) ?_
    exact t269 
  · rw [show (f0_212 ii jj) = f0_219 from if_neg hc216]
    refine Go.step (g' := (mkF m 219 #[.val (.int p0), .val (.int p1), .val (.int p2), .val (.int p3), .val (.int p4), .val (.int p5), .val (.int cp), .val (.int ii), .val (.int jj), .val (.ref b1), .val (.int (p5 ^^^ (21845 : Int32))), .val (.double (FP.i2d p5)), .second, .val (.double (FP.i2d (p5 ^^^ (1 : Int32)))), .second, .val (.double (FP.i2d p3)), .second, .val (.double (FP.i2d p4)), .second, .val (.ref f2), .val (.ref bb2), .val (.ref c2)] [])) (fun _ k => XS.icmpNo X21.here hx rfl (hb hby at_216) rfl (feq hc216).1 k) ?_
    refine Go.step (g' := (mkF m 221 #[.val (.int p0), .val (.int p1), .val (.int p2), .val (.int p3), .val (.int p4), .val (.int p5), .val (.int cp), .val (.int ii), .val (.int jj), .val (.ref b1), .val (.int (p5 ^^^ (21845 : Int32))), .val (.double (FP.i2d p5)), .second, .val (.double (FP.i2d (p5 ^^^ (1 : Int32)))), .second, .val (.double (FP.i2d p3)), .second, .val (.double (FP.i2d p4)), .second, .val (.ref f2), .val (.ref bb2), .val (.ref c2)] [(.ref f2)])) (fun _ k => XS.aload X21.here hx rfl (hb hby at_219) rfl rfl  k) ?_
    refine Go.step (g' := (mkF m 223 #[.val (.int p0), .val (.int p1), .val (.int p2), .val (.int p3), .val (.int p4), .val (.int p5), .val (.int cp), .val (.int ii), .val (.int jj), .val (.ref b1), .val (.int (p5 ^^^ (21845 : Int32))), .val (.double (FP.i2d p5)), .second, .val (.double (FP.i2d (p5 ^^^ (1 : Int32)))), .second, .val (.double (FP.i2d p3)), .second, .val (.double (FP.i2d p4)), .second, .val (.ref f2), .val (.ref bb2), .val (.ref c2)] [(.int jj), (.ref f2)])) (fun _ k => XS.iload X21.here hx rfl (hb hby at_221) rfl  k) ?_
    refine Go.step (g' := (mkF m 224 #[.val (.int p0), .val (.int p1), .val (.int p2), .val (.int p3), .val (.int p4), .val (.int p5), .val (.int cp), .val (.int ii), .val (.int jj), .val (.ref b1), .val (.int (p5 ^^^ (21845 : Int32))), .val (.double (FP.i2d p5)), .second, .val (.double (FP.i2d (p5 ^^^ (1 : Int32)))), .second, .val (.double (FP.i2d p3)), .second, .val (.double (FP.i2d p4)), .second, .val (.ref f2), .val (.ref bb2), .val (.ref c2)] [(.int ((upd (upd (fun _ => (0 : Int32)) jj.toNatClampNeg p5) ii.toNatClampNeg p1) jj.toNatClampNeg))])) (fun _ k => getAI X21 hx hZ e21 Af11 (j := jj) Djj.2.2.1 (gf := (mkF m 223 #[.val (.int p0), .val (.int p1), .val (.int p2), .val (.int p3), .val (.int p4), .val (.int p5), .val (.int cp), .val (.int ii), .val (.int jj), .val (.ref b1), .val (.int (p5 ^^^ (21845 : Int32))), .val (.double (FP.i2d p5)), .second, .val (.double (FP.i2d (p5 ^^^ (1 : Int32)))), .second, .val (.double (FP.i2d p3)), .second, .val (.double (FP.i2d p4)), .second, .val (.ref f2), .val (.ref bb2), .val (.ref c2)] [(.int jj), (.ref f2)])) rfl rfl (hb hby at_223) k) ?_
    refine Go.step (g' := (mkF m 226 #[.val (.int p0), .val (.int p1), .val (.int p2), .val (.int p3), .val (.int p4), .val (.int p5), .val (.int cp), .val (.int ii), .val (.int jj), .val (.ref b1), .val (.int (p5 ^^^ (21845 : Int32))), .val (.double (FP.i2d p5)), .second, .val (.double (FP.i2d (p5 ^^^ (1 : Int32)))), .second, .val (.double (FP.i2d p3)), .second, .val (.double (FP.i2d p4)), .second, .val (.ref f2), .val (.ref bb2), .val (.ref c2)] [(.int p5), (.int ((upd (upd (fun _ => (0 : Int32)) jj.toNatClampNeg p5) ii.toNatClampNeg p1) jj.toNatClampNeg))])) (fun _ k => XS.iload X21.here hx rfl (hb hby at_224) rfl  k) ?_
    refine Go.step (g' := (mkF m 229 #[.val (.int p0), .val (.int p1), .val (.int p2), .val (.int p3), .val (.int p4), .val (.int p5), .val (.int cp), .val (.int ii), .val (.int jj), .val (.ref b1), .val (.int (p5 ^^^ (21845 : Int32))), .val (.double (FP.i2d p5)), .second, .val (.double (FP.i2d (p5 ^^^ (1 : Int32)))), .second, .val (.double (FP.i2d p3)), .second, .val (.double (FP.i2d p4)), .second, .val (.ref f2), .val (.ref bb2), .val (.ref c2)] [])) (fun _ k => XS.icmpNo X21.here hx rfl (hb hby at_226) rfl (teq (own_g2 _ _ _ _ (own_nat hii0 hjj0 hc216) : ((upd (upd (fun _ => (0 : Int32)) jj.toNatClampNeg p5) ii.toNatClampNeg p1) jj.toNatClampNeg) = p5)).2 k) ?_
    rw [show f0_219 = f0_229 from rfl]
    refine Go.step (g' := (mkF m 231 #[.val (.int p0), .val (.int p1), .val (.int p2), .val (.int p3), .val (.int p4), .val (.int p5), .val (.int cp), .val (.int ii), .val (.int jj), .val (.ref b1), .val (.int (p5 ^^^ (21845 : Int32))), .val (.double (FP.i2d p5)), .second, .val (.double (FP.i2d (p5 ^^^ (1 : Int32)))), .second, .val (.double (FP.i2d p3)), .second, .val (.double (FP.i2d p4)), .second, .val (.ref f2), .val (.ref bb2), .val (.ref c2)] [(.ref bb2)])) (fun _ k => XS.aload X21.here hx rfl (hb hby at_229) rfl rfl  k) ?_
    refine Go.step (g' := (mkF m 233 #[.val (.int p0), .val (.int p1), .val (.int p2), .val (.int p3), .val (.int p4), .val (.int p5), .val (.int cp), .val (.int ii), .val (.int jj), .val (.ref b1), .val (.int (p5 ^^^ (21845 : Int32))), .val (.double (FP.i2d p5)), .second, .val (.double (FP.i2d (p5 ^^^ (1 : Int32)))), .second, .val (.double (FP.i2d p3)), .second, .val (.double (FP.i2d p4)), .second, .val (.ref f2), .val (.ref bb2), .val (.ref c2)] [(.int jj), (.ref bb2)])) (fun _ k => XS.iload X21.here hx rfl (hb hby at_231) rfl  k) ?_
    refine Go.step (g' := (mkF m 234 #[.val (.int p0), .val (.int p1), .val (.int p2), .val (.int p3), .val (.int p4), .val (.int p5), .val (.int cp), .val (.int ii), .val (.int jj), .val (.ref b1), .val (.int (p5 ^^^ (21845 : Int32))), .val (.double (FP.i2d p5)), .second, .val (.double (FP.i2d (p5 ^^^ (1 : Int32)))), .second, .val (.double (FP.i2d p3)), .second, .val (.double (FP.i2d p4)), .second, .val (.ref f2), .val (.ref bb2), .val (.ref c2)] [(.int ((upd (upd (fun _ => (0 : Int32)) jj.toNatClampNeg (p5 ^^^ (21845 : Int32))) ii.toNatClampNeg p2) jj.toNatClampNeg))])) (fun _ k => getAI X21 hx hZ e21 Ab11 (j := jj) Djj.2.2.1 (gf := (mkF m 233 #[.val (.int p0), .val (.int p1), .val (.int p2), .val (.int p3), .val (.int p4), .val (.int p5), .val (.int cp), .val (.int ii), .val (.int jj), .val (.ref b1), .val (.int (p5 ^^^ (21845 : Int32))), .val (.double (FP.i2d p5)), .second, .val (.double (FP.i2d (p5 ^^^ (1 : Int32)))), .second, .val (.double (FP.i2d p3)), .second, .val (.double (FP.i2d p4)), .second, .val (.ref f2), .val (.ref bb2), .val (.ref c2)] [(.int jj), (.ref bb2)])) rfl rfl (hb hby at_233) k) ?_
    refine Go.step (g' := (mkF m 236 #[.val (.int p0), .val (.int p1), .val (.int p2), .val (.int p3), .val (.int p4), .val (.int p5), .val (.int cp), .val (.int ii), .val (.int jj), .val (.ref b1), .val (.int (p5 ^^^ (21845 : Int32))), .val (.double (FP.i2d p5)), .second, .val (.double (FP.i2d (p5 ^^^ (1 : Int32)))), .second, .val (.double (FP.i2d p3)), .second, .val (.double (FP.i2d p4)), .second, .val (.ref f2), .val (.ref bb2), .val (.ref c2)] [(.int (p5 ^^^ (21845 : Int32))), (.int ((upd (upd (fun _ => (0 : Int32)) jj.toNatClampNeg (p5 ^^^ (21845 : Int32))) ii.toNatClampNeg p2) jj.toNatClampNeg))])) (fun _ k => XS.iload X21.here hx rfl (hb hby at_234) rfl  k) ?_
    refine Go.step (g' := (mkF m 239 #[.val (.int p0), .val (.int p1), .val (.int p2), .val (.int p3), .val (.int p4), .val (.int p5), .val (.int cp), .val (.int ii), .val (.int jj), .val (.ref b1), .val (.int (p5 ^^^ (21845 : Int32))), .val (.double (FP.i2d p5)), .second, .val (.double (FP.i2d (p5 ^^^ (1 : Int32)))), .second, .val (.double (FP.i2d p3)), .second, .val (.double (FP.i2d p4)), .second, .val (.ref f2), .val (.ref bb2), .val (.ref c2)] [])) (fun _ k => XS.icmpNo X21.here hx rfl (hb hby at_236) rfl (teq (own_g2 _ _ _ _ (own_nat hii0 hjj0 hc216) : ((upd (upd (fun _ => (0 : Int32)) jj.toNatClampNeg (p5 ^^^ (21845 : Int32))) ii.toNatClampNeg p2) jj.toNatClampNeg) = (p5 ^^^ (21845 : Int32)))).2 k) ?_
    rw [show f0_229 = f0_239 from rfl]
    refine Go.step (g' := (mkF m 241 #[.val (.int p0), .val (.int p1), .val (.int p2), .val (.int p3), .val (.int p4), .val (.int p5), .val (.int cp), .val (.int ii), .val (.int jj), .val (.ref b1), .val (.int (p5 ^^^ (21845 : Int32))), .val (.double (FP.i2d p5)), .second, .val (.double (FP.i2d (p5 ^^^ (1 : Int32)))), .second, .val (.double (FP.i2d p3)), .second, .val (.double (FP.i2d p4)), .second, .val (.ref f2), .val (.ref bb2), .val (.ref c2)] [(.ref c2)])) (fun _ k => XS.aload X21.here hx rfl (hb hby at_239) rfl rfl  k) ?_
    refine Go.step (g' := (mkF m 242 #[.val (.int p0), .val (.int p1), .val (.int p2), .val (.int p3), .val (.int p4), .val (.int p5), .val (.int cp), .val (.int ii), .val (.int jj), .val (.ref b1), .val (.int (p5 ^^^ (21845 : Int32))), .val (.double (FP.i2d p5)), .second, .val (.double (FP.i2d (p5 ^^^ (1 : Int32)))), .second, .val (.double (FP.i2d p3)), .second, .val (.double (FP.i2d p4)), .second, .val (.ref f2), .val (.ref bb2), .val (.ref c2)] [(.int (2 : Int32)), (.ref c2)])) (fun _ k => XS.iconst X21.here hx rfl (hb hby at_241) k) ?_
    refine Go.step (g' := (mkF m 244 #[.val (.int p0), .val (.int p1), .val (.int p2), .val (.int p3), .val (.int p4), .val (.int p5), .val (.int cp), .val (.int ii), .val (.int jj), .val (.ref b1), .val (.int (p5 ^^^ (21845 : Int32))), .val (.double (FP.i2d p5)), .second, .val (.double (FP.i2d (p5 ^^^ (1 : Int32)))), .second, .val (.double (FP.i2d p3)), .second, .val (.double (FP.i2d p4)), .second, .val (.ref f2), .val (.ref bb2), .val (.ref c2)] [(.int jj), (.int (2 : Int32)), (.ref c2)])) (fun _ k => XS.iload X21.here hx rfl (hb hby at_242) rfl  k) ?_
    refine Go.step (g' := (mkF m 245 #[.val (.int p0), .val (.int p1), .val (.int p2), .val (.int p3), .val (.int p4), .val (.int p5), .val (.int cp), .val (.int ii), .val (.int jj), .val (.ref b1), .val (.int (p5 ^^^ (21845 : Int32))), .val (.double (FP.i2d p5)), .second, .val (.double (FP.i2d (p5 ^^^ (1 : Int32)))), .second, .val (.double (FP.i2d p3)), .second, .val (.double (FP.i2d p4)), .second, .val (.ref f2), .val (.ref bb2), .val (.ref c2)] [(.int ((2 : Int32) * jj)), (.ref c2)])) (fun _ k => XS.imul X21.here hx rfl (hb hby at_244) rfl k) ?_
    refine Go.step (g' := (mkF m 246 #[.val (.int p0), .val (.int p1), .val (.int p2), .val (.int p3), .val (.int p4), .val (.int p5), .val (.int cp), .val (.int ii), .val (.int jj), .val (.ref b1), .val (.int (p5 ^^^ (21845 : Int32))), .val (.double (FP.i2d p5)), .second, .val (.double (FP.i2d (p5 ^^^ (1 : Int32)))), .second, .val (.double (FP.i2d p3)), .second, .val (.double (FP.i2d p4)), .second, .val (.ref f2), .val (.ref bb2), .val (.ref c2)] [(.double ((upd (upd (upd (upd (fun _ => (0 : UInt64)) ((2 : Int32) * jj).toNatClampNeg (FP.i2d p5)) (((2 : Int32) * jj) + (1 : Int32)).toNatClampNeg (FP.i2d (p5 ^^^ (1 : Int32)))) ((2 : Int32) * ii).toNatClampNeg (FP.i2d p3)) (((2 : Int32) * ii) + (1 : Int32)).toNatClampNeg (FP.i2d p4)) ((2 : Int32) * jj).toNatClampNeg))])) (fun _ k => getAD X21 hx hZ e21 Ac11 (j := ((2 : Int32) * jj)) Djj.2.2.2.1 (gf := (mkF m 245 #[.val (.int p0), .val (.int p1), .val (.int p2), .val (.int p3), .val (.int p4), .val (.int p5), .val (.int cp), .val (.int ii), .val (.int jj), .val (.ref b1), .val (.int (p5 ^^^ (21845 : Int32))), .val (.double (FP.i2d p5)), .second, .val (.double (FP.i2d (p5 ^^^ (1 : Int32)))), .second, .val (.double (FP.i2d p3)), .second, .val (.double (FP.i2d p4)), .second, .val (.ref f2), .val (.ref bb2), .val (.ref c2)] [(.int ((2 : Int32) * jj)), (.ref c2)])) rfl rfl (hb hby at_245) k) ?_
    refine Go.step (g' := (mkF m 248 #[.val (.int p0), .val (.int p1), .val (.int p2), .val (.int p3), .val (.int p4), .val (.int p5), .val (.int cp), .val (.int ii), .val (.int jj), .val (.ref b1), .val (.int (p5 ^^^ (21845 : Int32))), .val (.double (FP.i2d p5)), .second, .val (.double (FP.i2d (p5 ^^^ (1 : Int32)))), .second, .val (.double (FP.i2d p3)), .second, .val (.double (FP.i2d p4)), .second, .val (.ref f2), .val (.ref bb2), .val (.ref c2)] [(.double (FP.i2d p5)), (.double ((upd (upd (upd (upd (fun _ => (0 : UInt64)) ((2 : Int32) * jj).toNatClampNeg (FP.i2d p5)) (((2 : Int32) * jj) + (1 : Int32)).toNatClampNeg (FP.i2d (p5 ^^^ (1 : Int32)))) ((2 : Int32) * ii).toNatClampNeg (FP.i2d p3)) (((2 : Int32) * ii) + (1 : Int32)).toNatClampNeg (FP.i2d p4)) ((2 : Int32) * jj).toNatClampNeg))])) (fun _ k => XS.dload X21.here hx rfl (hb hby at_246) rfl k) ?_
    refine Go.step (g' := (mkF m 249 #[.val (.int p0), .val (.int p1), .val (.int p2), .val (.int p3), .val (.int p4), .val (.int p5), .val (.int cp), .val (.int ii), .val (.int jj), .val (.ref b1), .val (.int (p5 ^^^ (21845 : Int32))), .val (.double (FP.i2d p5)), .second, .val (.double (FP.i2d (p5 ^^^ (1 : Int32)))), .second, .val (.double (FP.i2d p3)), .second, .val (.double (FP.i2d p4)), .second, .val (.ref f2), .val (.ref bb2), .val (.ref c2)] [(.int (cmpValue (FP.dcmp ((upd (upd (upd (upd (fun _ => (0 : UInt64)) ((2 : Int32) * jj).toNatClampNeg (FP.i2d p5)) (((2 : Int32) * jj) + (1 : Int32)).toNatClampNeg (FP.i2d (p5 ^^^ (1 : Int32)))) ((2 : Int32) * ii).toNatClampNeg (FP.i2d p3)) (((2 : Int32) * ii) + (1 : Int32)).toNatClampNeg (FP.i2d p4)) ((2 : Int32) * jj).toNatClampNeg) (FP.i2d p5)) .l))])) (fun _ k => XS.dcmpS X21.here hx rfl (hb hby at_248) rfl rfl k) ?_
    refine Go.step (g' := (mkF m 252 #[.val (.int p0), .val (.int p1), .val (.int p2), .val (.int p3), .val (.int p4), .val (.int p5), .val (.int cp), .val (.int ii), .val (.int jj), .val (.ref b1), .val (.int (p5 ^^^ (21845 : Int32))), .val (.double (FP.i2d p5)), .second, .val (.double (FP.i2d (p5 ^^^ (1 : Int32)))), .second, .val (.double (FP.i2d p3)), .second, .val (.double (FP.i2d p4)), .second, .val (.ref f2), .val (.ref bb2), .val (.ref c2)] [])) (fun _ k => XS.ifNo X21.here hx rfl (hb hby at_249) rfl ((if0 _ _).trans (teq (own_cmp _ (by simp only [Dii.1, Dii.2.1, Djj.1, Djj.2.1]; exact own_c3 _ _ _ _ _ _ (own_nat hii0 hjj0 hc216)) : (cmpValue (FP.dcmp ((upd (upd (upd (upd (fun _ => (0 : UInt64)) ((2 : Int32) * jj).toNatClampNeg (FP.i2d p5)) (((2 : Int32) * jj) + (1 : Int32)).toNatClampNeg (FP.i2d (p5 ^^^ (1 : Int32)))) ((2 : Int32) * ii).toNatClampNeg (FP.i2d p3)) (((2 : Int32) * ii) + (1 : Int32)).toNatClampNeg (FP.i2d p4)) ((2 : Int32) * jj).toNatClampNeg) (FP.i2d p5)) .l) = (0 : Int32))).2) k) ?_
    rw [show f0_239 = f0_252 from rfl]
    refine Go.step (g' := (mkF m 254 #[.val (.int p0), .val (.int p1), .val (.int p2), .val (.int p3), .val (.int p4), .val (.int p5), .val (.int cp), .val (.int ii), .val (.int jj), .val (.ref b1), .val (.int (p5 ^^^ (21845 : Int32))), .val (.double (FP.i2d p5)), .second, .val (.double (FP.i2d (p5 ^^^ (1 : Int32)))), .second, .val (.double (FP.i2d p3)), .second, .val (.double (FP.i2d p4)), .second, .val (.ref f2), .val (.ref bb2), .val (.ref c2)] [(.ref c2)])) (fun _ k => XS.aload X21.here hx rfl (hb hby at_252) rfl rfl  k) ?_
    refine Go.step (g' := (mkF m 255 #[.val (.int p0), .val (.int p1), .val (.int p2), .val (.int p3), .val (.int p4), .val (.int p5), .val (.int cp), .val (.int ii), .val (.int jj), .val (.ref b1), .val (.int (p5 ^^^ (21845 : Int32))), .val (.double (FP.i2d p5)), .second, .val (.double (FP.i2d (p5 ^^^ (1 : Int32)))), .second, .val (.double (FP.i2d p3)), .second, .val (.double (FP.i2d p4)), .second, .val (.ref f2), .val (.ref bb2), .val (.ref c2)] [(.int (2 : Int32)), (.ref c2)])) (fun _ k => XS.iconst X21.here hx rfl (hb hby at_254) k) ?_
    refine Go.step (g' := (mkF m 257 #[.val (.int p0), .val (.int p1), .val (.int p2), .val (.int p3), .val (.int p4), .val (.int p5), .val (.int cp), .val (.int ii), .val (.int jj), .val (.ref b1), .val (.int (p5 ^^^ (21845 : Int32))), .val (.double (FP.i2d p5)), .second, .val (.double (FP.i2d (p5 ^^^ (1 : Int32)))), .second, .val (.double (FP.i2d p3)), .second, .val (.double (FP.i2d p4)), .second, .val (.ref f2), .val (.ref bb2), .val (.ref c2)] [(.int jj), (.int (2 : Int32)), (.ref c2)])) (fun _ k => XS.iload X21.here hx rfl (hb hby at_255) rfl  k) ?_
    refine Go.step (g' := (mkF m 258 #[.val (.int p0), .val (.int p1), .val (.int p2), .val (.int p3), .val (.int p4), .val (.int p5), .val (.int cp), .val (.int ii), .val (.int jj), .val (.ref b1), .val (.int (p5 ^^^ (21845 : Int32))), .val (.double (FP.i2d p5)), .second, .val (.double (FP.i2d (p5 ^^^ (1 : Int32)))), .second, .val (.double (FP.i2d p3)), .second, .val (.double (FP.i2d p4)), .second, .val (.ref f2), .val (.ref bb2), .val (.ref c2)] [(.int ((2 : Int32) * jj)), (.ref c2)])) (fun _ k => XS.imul X21.here hx rfl (hb hby at_257) rfl k) ?_
    refine Go.step (g' := (mkF m 259 #[.val (.int p0), .val (.int p1), .val (.int p2), .val (.int p3), .val (.int p4), .val (.int p5), .val (.int cp), .val (.int ii), .val (.int jj), .val (.ref b1), .val (.int (p5 ^^^ (21845 : Int32))), .val (.double (FP.i2d p5)), .second, .val (.double (FP.i2d (p5 ^^^ (1 : Int32)))), .second, .val (.double (FP.i2d p3)), .second, .val (.double (FP.i2d p4)), .second, .val (.ref f2), .val (.ref bb2), .val (.ref c2)] [(.int (1 : Int32)), (.int ((2 : Int32) * jj)), (.ref c2)])) (fun _ k => XS.iconst X21.here hx rfl (hb hby at_258) k) ?_
    refine Go.step (g' := (mkF m 260 #[.val (.int p0), .val (.int p1), .val (.int p2), .val (.int p3), .val (.int p4), .val (.int p5), .val (.int cp), .val (.int ii), .val (.int jj), .val (.ref b1), .val (.int (p5 ^^^ (21845 : Int32))), .val (.double (FP.i2d p5)), .second, .val (.double (FP.i2d (p5 ^^^ (1 : Int32)))), .second, .val (.double (FP.i2d p3)), .second, .val (.double (FP.i2d p4)), .second, .val (.ref f2), .val (.ref bb2), .val (.ref c2)] [(.int (((2 : Int32) * jj) + (1 : Int32))), (.ref c2)])) (fun _ k => XS.iadd X21.here hx rfl (hb hby at_259) rfl k) ?_
    refine Go.step (g' := (mkF m 261 #[.val (.int p0), .val (.int p1), .val (.int p2), .val (.int p3), .val (.int p4), .val (.int p5), .val (.int cp), .val (.int ii), .val (.int jj), .val (.ref b1), .val (.int (p5 ^^^ (21845 : Int32))), .val (.double (FP.i2d p5)), .second, .val (.double (FP.i2d (p5 ^^^ (1 : Int32)))), .second, .val (.double (FP.i2d p3)), .second, .val (.double (FP.i2d p4)), .second, .val (.ref f2), .val (.ref bb2), .val (.ref c2)] [(.double ((upd (upd (upd (upd (fun _ => (0 : UInt64)) ((2 : Int32) * jj).toNatClampNeg (FP.i2d p5)) (((2 : Int32) * jj) + (1 : Int32)).toNatClampNeg (FP.i2d (p5 ^^^ (1 : Int32)))) ((2 : Int32) * ii).toNatClampNeg (FP.i2d p3)) (((2 : Int32) * ii) + (1 : Int32)).toNatClampNeg (FP.i2d p4)) (((2 : Int32) * jj) + (1 : Int32)).toNatClampNeg))])) (fun _ k => getAD X21 hx hZ e21 Ac11 (j := (((2 : Int32) * jj) + (1 : Int32))) Djj.2.2.2.2 (gf := (mkF m 260 #[.val (.int p0), .val (.int p1), .val (.int p2), .val (.int p3), .val (.int p4), .val (.int p5), .val (.int cp), .val (.int ii), .val (.int jj), .val (.ref b1), .val (.int (p5 ^^^ (21845 : Int32))), .val (.double (FP.i2d p5)), .second, .val (.double (FP.i2d (p5 ^^^ (1 : Int32)))), .second, .val (.double (FP.i2d p3)), .second, .val (.double (FP.i2d p4)), .second, .val (.ref f2), .val (.ref bb2), .val (.ref c2)] [(.int (((2 : Int32) * jj) + (1 : Int32))), (.ref c2)])) rfl rfl (hb hby at_260) k) ?_
    refine Go.step (g' := (mkF m 263 #[.val (.int p0), .val (.int p1), .val (.int p2), .val (.int p3), .val (.int p4), .val (.int p5), .val (.int cp), .val (.int ii), .val (.int jj), .val (.ref b1), .val (.int (p5 ^^^ (21845 : Int32))), .val (.double (FP.i2d p5)), .second, .val (.double (FP.i2d (p5 ^^^ (1 : Int32)))), .second, .val (.double (FP.i2d p3)), .second, .val (.double (FP.i2d p4)), .second, .val (.ref f2), .val (.ref bb2), .val (.ref c2)] [(.double (FP.i2d (p5 ^^^ (1 : Int32)))), (.double ((upd (upd (upd (upd (fun _ => (0 : UInt64)) ((2 : Int32) * jj).toNatClampNeg (FP.i2d p5)) (((2 : Int32) * jj) + (1 : Int32)).toNatClampNeg (FP.i2d (p5 ^^^ (1 : Int32)))) ((2 : Int32) * ii).toNatClampNeg (FP.i2d p3)) (((2 : Int32) * ii) + (1 : Int32)).toNatClampNeg (FP.i2d p4)) (((2 : Int32) * jj) + (1 : Int32)).toNatClampNeg))])) (fun _ k => XS.dload X21.here hx rfl (hb hby at_261) rfl k) ?_
    refine Go.step (g' := (mkF m 264 #[.val (.int p0), .val (.int p1), .val (.int p2), .val (.int p3), .val (.int p4), .val (.int p5), .val (.int cp), .val (.int ii), .val (.int jj), .val (.ref b1), .val (.int (p5 ^^^ (21845 : Int32))), .val (.double (FP.i2d p5)), .second, .val (.double (FP.i2d (p5 ^^^ (1 : Int32)))), .second, .val (.double (FP.i2d p3)), .second, .val (.double (FP.i2d p4)), .second, .val (.ref f2), .val (.ref bb2), .val (.ref c2)] [(.int (cmpValue (FP.dcmp ((upd (upd (upd (upd (fun _ => (0 : UInt64)) ((2 : Int32) * jj).toNatClampNeg (FP.i2d p5)) (((2 : Int32) * jj) + (1 : Int32)).toNatClampNeg (FP.i2d (p5 ^^^ (1 : Int32)))) ((2 : Int32) * ii).toNatClampNeg (FP.i2d p3)) (((2 : Int32) * ii) + (1 : Int32)).toNatClampNeg (FP.i2d p4)) (((2 : Int32) * jj) + (1 : Int32)).toNatClampNeg) (FP.i2d (p5 ^^^ (1 : Int32)))) .l))])) (fun _ k => XS.dcmpS X21.here hx rfl (hb hby at_263) rfl rfl k) ?_
    refine Go.step (g' := (mkF m 269 #[.val (.int p0), .val (.int p1), .val (.int p2), .val (.int p3), .val (.int p4), .val (.int p5), .val (.int cp), .val (.int ii), .val (.int jj), .val (.ref b1), .val (.int (p5 ^^^ (21845 : Int32))), .val (.double (FP.i2d p5)), .second, .val (.double (FP.i2d (p5 ^^^ (1 : Int32)))), .second, .val (.double (FP.i2d p3)), .second, .val (.double (FP.i2d p4)), .second, .val (.ref f2), .val (.ref bb2), .val (.ref c2)] [])) (fun _ k => XS.ifYes X21.here hx rfl (pc0 := 264) (pc' := 269) rfl (hb hby at_264) rfl ((if0 _ _).trans (teq (own_cmp _ (by simp only [Dii.1, Dii.2.1, Djj.1, Djj.2.1]; exact own_c4 _ _ _ _ _ _ (own_nat hii0 hjj0 hc216)) : (cmpValue (FP.dcmp ((upd (upd (upd (upd (fun _ => (0 : UInt64)) ((2 : Int32) * jj).toNatClampNeg (FP.i2d p5)) (((2 : Int32) * jj) + (1 : Int32)).toNatClampNeg (FP.i2d (p5 ^^^ (1 : Int32)))) ((2 : Int32) * ii).toNatClampNeg (FP.i2d p3)) (((2 : Int32) * ii) + (1 : Int32)).toNatClampNeg (FP.i2d p4)) (((2 : Int32) * jj) + (1 : Int32)).toNatClampNeg) (FP.i2d (p5 ^^^ (1 : Int32)))) .l) = (0 : Int32))).1) (by decide) (by decide) k) ?_
    rw [show f0_252 = f0_269 from rfl]
    exact t269 
set_option maxRecDepth 65536 in
set_option maxHeartbeats 40000000 in
theorem comes_1 {Post : Tables → Env → Array Value → State → Outcome → State → Prop} (hpost : ∀ tb e args s v u, (limb_1_1.after args s (.returned v) u = true ∧ limb_1_2.after args s (.returned v) u = true) → FrameEnd s (.returned v) u (Jvm.fieldLocs frame_1_writes args s ++ Jvm.arrayLocs frame_1_arrays args s ++ Jvm.staticLocs frame_1_statics s) 16 128 → Post tb e args s (.returned v) u) :
    ArmFor flags0 classFile x code maxLocals ret World_1 tables_1 room_1 Calls_1 rest_1 Pre_1 Post := by
  intro l hfl _ _ p e ha hc hk s m args below hf hA hF happ hP
  obtain ⟨hcalls, hrest, hpre⟩ := hP
  obtain ⟨-, -, -, hnamed, -, -, -, hat⟩ := (Spec.applies_iff hf).mp happ
  obtain ⟨hg, hn⟩ := and_e (Cond.before_iff.mp (show (Jvm.Cond.and given_1 narrow_1).before args s = true from hpre))
  obtain ⟨gc, hg⟩ := and_e hg
  obtain ⟨g0, hg⟩ := and_e hg
  obtain ⟨g1, hg⟩ := and_e hg
  obtain ⟨g2, hg⟩ := and_e hg
  obtain ⟨g3, hg⟩ := and_e hg
  obtain ⟨g4, hg⟩ := and_e hg
  have g5 := hg
  obtain ⟨w0, w1, w2, w3, w4, w5, rfl⟩ : ∃ w0 w1 w2 w3 w4 w5 : Value, args = #[w0, w1, w2, w3, w4, w5] := by
    have hs : args.size = 6 := by simpa [Cond.value, given_1] using gc
    obtain ⟨L⟩ := args
    match L, hs with
    | [w0, w1, w2, w3, w4, w5], _ => exact ⟨w0, w1, w2, w3, w4, w5, rfl⟩
  have hw := fun d (hd : d ∈ tables_1) => atoms_spec (ws := Jvm.Cond.code x code maxLocals ret :: tables_1) hat d (List.mem_cons_of_mem _ hd)
  have hfit : Fit s := fun {y c} hc i hi => by
    obtain ⟨ha, rfl⟩ := Array.getElem?_eq_some_iff.mp hc
    have q := List.all_eq_true.mp ((Array.all_eq_true_iff_forall_mem.mp hF) _ (Array.getElem_mem ha)) i (List.mem_range.mpr hi)
    simpa [Array.getElem?_eq_getElem hi] using q
  obtain ⟨i0, ei0⟩ := is_v g0
  obtain rfl : w0 = (.int i0) := Option.some.inj ei0
  obtain ⟨i1, ei1⟩ := is_v g1
  obtain rfl : w1 = (.int i1) := Option.some.inj ei1
  obtain ⟨i2, ei2⟩ := is_v g2
  obtain rfl : w2 = (.int i2) := Option.some.inj ei2
  obtain ⟨i3, ei3⟩ := is_v g3
  obtain rfl : w3 = (.int i3) := Option.some.inj ei3
  obtain ⟨i4, ei4⟩ := is_v g4
  obtain rfl : w4 = (.int i4) := Option.some.inj ei4
  obtain ⟨i5, ei5⟩ := is_v g5
  obtain rfl : w5 = (.int i5) := Option.some.inj ei5
  obtain ⟨n, o, h1, h2, h3, v, L, rfl, hQ, hq⟩ := rm0 l s _ hw tables_1 i0 i1 i2 i3 i4 i5  s.heap s.heap.size (Nat.le_refl _)  p e ha hc hk s m _ below hf ((Spec.applies_iff_loose hf).mp happ).1 ⟨rfl, State.Warmed39.refl s, rfl⟩ trivial
  obtain ⟨rfl, N⟩ := hQ
  rw [show f0_0 = 1 from rfl] at *
  refine ⟨n, _, h1, h2, h3, hpost _ _ _ _ _ _ ⟨Cond.after_iff.mpr rfl, Cond.after_iff.mpr (eq_i res_at (Term.int_eval (1)) rfl)⟩ ⟨hq.1, hq.2.1, (hq.2.2.sift fun y hy => Or.inr (N y hy)).mono (by decide) (by decide)⟩⟩
theorem main_1_1 : Claimed_1_1 := comes_1 fun _ _ _ _ _ _ h hF => ⟨h.1, hF⟩
theorem main_1_2 : Claimed_1_2 := comes_1 fun _ _ _ _ _ _ h hF => ⟨h.2, hF⟩
end Jvm.Pilot.@@N@@
namespace Jvm.Pilot.@@N@@
open Jvm Jvm.ClassFile Sem Op Lib Jvm.Free Jvm.Stand Jvm.Pilot.@@N@@.Jvm.D
/-! MADE BY PROGRAM (witnessworld.py) out of the Statement's table words and the real class files: 9 classes; the members and pool entries that the words name. The judged class is class 1, her method 2. -/
namespace start1
open Jvm.ClassFile
def u (s : String) : CpInfo := .utf8 (stringToUtf16 s)
/-- a pool by its gaps: so many unusable entries, then the entry; so many at the end -/
def gap : Nat → List CpInfo → List CpInfo
  | 0, r => r
  | n + 1, r => .unusable :: gap n r
def poolList (es : List (Nat × CpInfo)) (last : Nat) : List CpInfo := es.foldr (fun e r => gap e.1 (e.2 :: r)) (gap last [])
def pool (es : List (Nat × CpInfo)) (last : Nat) : Array CpInfo := ⟨poolList es last⟩
def fileOf (pool : Array CpInfo) (this : Nat) (attrs : Array Attribute := #[]) (ms : Array MethodInfo := #[]) (fl : Nat := 33) (sup : Nat := 0) (ifs : Array Nat := #[]) (fds : Array FieldInfo := #[]) : ClassFile where
  minorVersion := 0
  majorVersion := 65
  constantPool := pool
  accessFlags := fl
  thisClass := this
  superClass := sup
  interfaces := ifs
  fields := fds
  methods := ms
  attributes := attrs
def plain (name : String) (sup : Option ClassId) : Class where
  name := name
  kind := .ordinary
  loader := none
  accessFlags := 33
  super := sup
  interfaces := #[]
  cf := none
  fields := #[]
  methods := #[]
  instanceTypes := #[]
  staticTypes := #[]
  resolved := #[]
  callSites := []
  init := .initialized
  statics := none
  mirror := none

def pool0 : Array CpInfo := pool [(5, u "<init>"), (0, u "()V"), (1, .class_ 10), (1, u "java/lang/Object")] 113

def k0c0 : Code := { maxStack := 0, maxLocals := 1, code := object_method_1_code, exceptionTable := #[], attributes := #[] }
def k0m0 : Method := { name := "<init>", desc := "()V", sig := { parameters := [], returnType := none }, accessFlags := 1, code := some k0c0 }
/-- java/lang/Object -/
def k0 : Class := { plain "java/lang/Object" none with
  accessFlags := 33
  interfaces := #[]
  cf := some (fileOf pool0 8 #[] #[{ accessFlags := 1, nameIndex := 5, descriptorIndex := 6, attributes := #[] }] 33 0 #[] #[])
  fields := #[]
  methods := #[k0m0]
  instanceTypes := #[]
  staticTypes := #[]
  resolved := Array.replicate 124 none
  statics := none }

def pool1 : Array CpInfo := pool [(2, .class_ 4), (1, u "java/lang/Object"), (0, u "<init>"), (0, u "()V"), (0, .class_ 8), (0, u "com/example/rhadamanthus/rhadamanthus/learn/HeldBins"), (0, .methodref 7 10), (0, .nameAndType 5 11), (0, u "(I)V"), (0, .methodref 7 13), (0, .nameAndType 14 15), (0, u "set"), (0, u "(IIIDD)V"), (0, .methodref 7 17), (0, .nameAndType 18 19), (0, u "features"), (0, u "()[I"), (0, .methodref 7 21), (0, .nameAndType 22 19), (0, u "bins"), (0, .methodref 7 24), (0, .nameAndType 25 26), (0, u "cells"), (0, u "()[D"), (0, .methodref 7 28), (0, .nameAndType 29 30), (0, u "size"), (0, u "()I"), (0, .methodref 7 32), (0, .nameAndType 33 30), (0, u "capacity"), (0, .methodref 35 36), (0, .class_ 37), (0, .nameAndType 38 39), (0, u "com/example/rhadamanthus/rhadamanthus/learn/HeldBinsSetPinLaw"), (0, u "untouched"), (0, u "([I[I[DIIII)Z"), (3, u "law"), (0, u "(IIIIII)Z")] 6

def k1m0 : Method := { name := "<init>", desc := "()V", sig := { parameters := [], returnType := none }, accessFlags := 2, code := none }
def k1c1 : Code := { maxStack := 4, maxLocals := 7, code := method_2_code, exceptionTable := #[], attributes := #[] }
def k1m1 : Method := { name := "untouched", desc := "([I[I[DIIII)Z", sig := { parameters := [(.array .int), (.array .int), (.array .double), .int, .int, .int, .int], returnType := some .boolean }, accessFlags := 10, code := some k1c1 }
def k1c2 : Code := { maxStack := 8, maxLocals := 22, code := code, exceptionTable := #[], attributes := #[] }
def k1m2 : Method := { name := "law", desc := "(IIIIII)Z", sig := { parameters := [.int, .int, .int, .int, .int, .int], returnType := some .boolean }, accessFlags := 9, code := some k1c2 }
/-- com/example/rhadamanthus/rhadamanthus/learn/HeldBinsSetPinLaw -/
def k1 : Class := { plain "com/example/rhadamanthus/rhadamanthus/learn/HeldBinsSetPinLaw" (some 0) with
  accessFlags := 49
  interfaces := #[]
  cf := some (fileOf pool1 35 #[] #[{ accessFlags := 2, nameIndex := 5, descriptorIndex := 6, attributes := #[] }, { accessFlags := 10, nameIndex := 38, descriptorIndex := 39, attributes := #[] }, { accessFlags := 9, nameIndex := 43, descriptorIndex := 44, attributes := #[] }] 49 2 #[] #[])
  fields := #[]
  methods := #[k1m0, k1m1, k1m2]
  instanceTypes := #[]
  staticTypes := #[]
  resolved := Array.replicate 51 none
  statics := none }

def pool2 : Array CpInfo := pool [(1, .methodref 2 3), (0, .class_ 4), (0, .nameAndType 5 6), (0, u "java/lang/Object"), (0, u "<init>"), (0, u "()V"), (0, .fieldref 8 9), (0, .class_ 10), (0, .nameAndType 11 12), (0, u "com/example/rhadamanthus/rhadamanthus/learn/HeldBins"), (0, u "features"), (0, u "[I"), (0, .fieldref 8 14), (0, .nameAndType 15 12), (0, u "bins"), (0, .fieldref 8 17), (0, .nameAndType 18 19), (0, u "cells"), (0, u "[D"), (0, .fieldref 8 21), (0, .nameAndType 22 23), (0, u "size"), (0, u "I"), (6, u "(I)V"), (2, u "()I"), (0, u "capacity"), (0, u "()[I"), (0, u "()[D"), (0, u "set"), (0, u "(IIIDD)V")] 7

def k2c0 : Code := { maxStack := 3, maxLocals := 2, code := prog_63_method_1_code, exceptionTable := #[], attributes := #[] }
def k2m0 : Method := { name := "<init>", desc := "(I)V", sig := { parameters := [.int], returnType := none }, accessFlags := 0, code := some k2c0 }
def k2c1 : Code := { maxStack := 1, maxLocals := 1, code := prog_63_method_2_code, exceptionTable := #[], attributes := #[] }
def k2m1 : Method := { name := "size", desc := "()I", sig := { parameters := [], returnType := some .int }, accessFlags := 0, code := some k2c1 }
def k2c2 : Code := { maxStack := 1, maxLocals := 1, code := prog_63_method_3_code, exceptionTable := #[], attributes := #[] }
def k2m2 : Method := { name := "capacity", desc := "()I", sig := { parameters := [], returnType := some .int }, accessFlags := 0, code := some k2c2 }
def k2c3 : Code := { maxStack := 1, maxLocals := 1, code := prog_63_method_4_code, exceptionTable := #[], attributes := #[] }
def k2m3 : Method := { name := "features", desc := "()[I", sig := { parameters := [], returnType := some (.array .int) }, accessFlags := 0, code := some k2c3 }
def k2c4 : Code := { maxStack := 1, maxLocals := 1, code := prog_63_method_5_code, exceptionTable := #[], attributes := #[] }
def k2m4 : Method := { name := "bins", desc := "()[I", sig := { parameters := [], returnType := some (.array .int) }, accessFlags := 0, code := some k2c4 }
def k2c5 : Code := { maxStack := 1, maxLocals := 1, code := prog_63_method_6_code, exceptionTable := #[], attributes := #[] }
def k2m5 : Method := { name := "cells", desc := "()[D", sig := { parameters := [], returnType := some (.array .double) }, accessFlags := 0, code := some k2c5 }
def k2c6 : Code := { maxStack := 4, maxLocals := 8, code := prog_63_method_7_code, exceptionTable := #[], attributes := #[] }
def k2m6 : Method := { name := "set", desc := "(IIIDD)V", sig := { parameters := [.int, .int, .int, .double, .double], returnType := none }, accessFlags := 0, code := some k2c6 }
/-- com/example/rhadamanthus/rhadamanthus/learn/HeldBins -/
def k2 : Class := { plain "com/example/rhadamanthus/rhadamanthus/learn/HeldBins" (some 0) with
  accessFlags := 32
  interfaces := #[]
  cf := some (fileOf pool2 8 #[] #[{ accessFlags := 0, nameIndex := 5, descriptorIndex := 30, attributes := #[] }, { accessFlags := 0, nameIndex := 22, descriptorIndex := 33, attributes := #[] }, { accessFlags := 0, nameIndex := 34, descriptorIndex := 33, attributes := #[] }, { accessFlags := 0, nameIndex := 11, descriptorIndex := 35, attributes := #[] }, { accessFlags := 0, nameIndex := 15, descriptorIndex := 35, attributes := #[] }, { accessFlags := 0, nameIndex := 18, descriptorIndex := 36, attributes := #[] }, { accessFlags := 0, nameIndex := 37, descriptorIndex := 38, attributes := #[] }] 32 2 #[] #[{ accessFlags := 2, nameIndex := 22, descriptorIndex := 23, attributes := #[] }, { accessFlags := 18, nameIndex := 11, descriptorIndex := 12, attributes := #[] }, { accessFlags := 18, nameIndex := 15, descriptorIndex := 12, attributes := #[] }, { accessFlags := 18, nameIndex := 18, descriptorIndex := 19, attributes := #[] }])
  fields := #[{ name := "size", type := .int, accessFlags := 2, slot := 0, constantValue := 0 }, { name := "features", type := (.array .int), accessFlags := 18, slot := 1, constantValue := 0 }, { name := "bins", type := (.array .int), accessFlags := 18, slot := 2, constantValue := 0 }, { name := "cells", type := (.array .double), accessFlags := 18, slot := 3, constantValue := 0 }]
  methods := #[k2m0, k2m1, k2m2, k2m3, k2m4, k2m5, k2m6]
  instanceTypes := #[.int, (.array .int), (.array .int), (.array .double)]
  staticTypes := #[]
  resolved := Array.replicate 46 none
  statics := none }

def pool3 : Array CpInfo := pool [(1, u "java/lang/Cloneable"), (0, .class_ 1), (0, u "java/lang/Object"), (0, .class_ 3)] 3

/-- java/lang/Cloneable -/
def k3 : Class := { plain "java/lang/Cloneable" (some 0) with
  accessFlags := 1537
  interfaces := #[]
  cf := some (fileOf pool3 2 #[] #[] 1537 4 #[] #[])
  fields := #[]
  methods := #[]
  instanceTypes := #[]
  staticTypes := #[]
  resolved := Array.replicate 8 none
  statics := none }

def pool4 : Array CpInfo := pool [(1, u "java/io/Serializable"), (0, .class_ 1), (0, u "java/lang/Object"), (0, .class_ 3)] 3

/-- java/io/Serializable -/
def k4 : Class := { plain "java/io/Serializable" (some 0) with
  accessFlags := 1537
  interfaces := #[]
  cf := some (fileOf pool4 2 #[] #[] 1537 4 #[] #[])
  fields := #[]
  methods := #[]
  instanceTypes := #[]
  staticTypes := #[]
  resolved := Array.replicate 8 none
  statics := none }

/-- the primitive byte -/
def k5 : Class := { plain "byte" none with kind := .primitive 'B', accessFlags := 0x411 }
/-- [B -/
def k6 : Class := { plain "[B" (some 0) with kind := .array 5 .byte, interfaces := #[3, 4], accessFlags := 1041 }

/-- the primitive int -/
def k7 : Class := { plain "int" none with kind := .primitive 'I', accessFlags := 0x411 }
/-- [I -/
def k8 : Class := { plain "[I" (some 0) with kind := .array 7 .int, interfaces := #[3, 4], accessFlags := 1041 }

/-- the primitive double -/
def k9 : Class := { plain "double" none with kind := .primitive 'D', accessFlags := 0x411 }
/-- [D -/
def k10 : Class := { plain "[D" (some 0) with kind := .array 9 .double, interfaces := #[3, 4], accessFlags := 1041 }

def heap : Heap := #[]
def classes : Array Class := #[k0, k1, k2, k3, k4, k5, k6, k7, k8, k9, k10]
def interned : List (Array UInt16 × Addr) := []
def slotsUsed : Nat := 0
def theMethod : MethodId := ⟨1, 2⟩
def args0 : Array Value := #[.int 37, .int 2, .int 3, .int 4, .int 5, .int 6]
def aboutOver (below : List Frame) : State where
  vm := { classes := classes, interned := interned.toArray }
  heap := heap
  slotsUsed := slotsUsed
  threads := #[{ frames := .invoking theMethod args0 :: below }]
def below0 : List Frame := [.native { method := ⟨0, 0⟩, args := #[] }]
def about1 : State := aboutOver below0
def p0 : Program := .bare "" "" ""
def e0 : Env := launch0.env 0 0 0
theorem w_frames : about1.frames = Frame.invoking theMethod args0 :: below0 := rfl
set_option maxRecDepth 65536 in
theorem w_args : argsFit about1.vm theMethod args0 = true := by decide +kernel
set_option maxRecDepth 65536 in
theorem w_heap : heapFits about1 = true := by decide +kernel
set_option maxRecDepth 65536 in
theorem w_runnable : about1.curStatus? = some .runnable := by decide +kernel
set_option maxRecDepth 65536 in
theorem w_alone : about1.alone = true := by decide +kernel
set_option maxRecDepth 65536 in
theorem w_named : about1.methodNamed? x = some theMethod := by decide +kernel
set_option maxRecDepth 65536 in
theorem w_hears : about1.hears theMethod below0 = true := by decide +kernel
set_option maxRecDepth 65536 in
theorem w_ripe : about1.ripe theMethod args0 below0 = true := by decide +kernel
theorem w_running : about1.status = .running := rfl
set_option maxRecDepth 65536 in
theorem w_room : about1.hasRoom e0.platform room_1 = true :=
  launch0.hasRoom_least _ room_1 (by decide +kernel) (by decide +kernel) (by decide +kernel) (by decide +kernel) (by decide +kernel) (by decide +kernel)
theorem allAtoms_all (ts : List Jvm.Cond) (a : Array Jvm.Value) (st : Jvm.State) : (allAtoms ts).before a st = ts.all (fun c => c.before a st) := by
  induction ts with
  | nil => rfl
  | cons c t ih =>
    show (Jvm.Cond.and c (allAtoms t)).before a st = _
    rw [Jvm.Cond.before_and, ih, List.all_cons]
def words1 : List Jvm.Cond := Jvm.Cond.code x code maxLocals ret :: tables_1
/-- a 'code' word, met by the world's own term for the bytes: nothing is compared byte by byte -/
theorem code_word {y : MethodName} {bytes : ByteArray} {mx : Nat} {rt : Option FieldType} {a : Array Value} {s : State} {m : MethodId} {meth : Method} {c : Code} (h1 : s.methodNamed? y = some m) (h2 : s.vm.method? m = some meth) (h3 : meth.code = some c) (h4 : c.code = bytes)
    (h5 : (c.maxLocals == mx && c.exceptionTable.isEmpty && decide (c.maxStack ≤ mostOperands) && decide (meth.sig.returnType = rt) && !meth.locks && decide (parseMethodDescriptor y.desc = some meth.sig)) = true) : (Jvm.Cond.code y bytes mx rt).before a s = true := by
  simp only [Bool.and_eq_true, beq_iff_eq, Bool.not_eq_true', decide_eq_true_eq] at h5
  obtain ⟨⟨⟨⟨⟨g1, g2⟩, g3⟩, g4⟩, g5⟩, g6⟩ := h5
  simp [Cond.before, Cond.holds, Cond.value, h1, h2, h3, h4, g1, g2, g3, g4, g5, g6]
def isCode : Jvm.Cond → Bool
  | .code _ _ _ _ => true
  | _ => false
theorem all_split {L : List Jvm.Cond} {P : Jvm.Cond → Bool} (h1 : L.all (fun c => isCode c || P c) = true) (h2 : ∀ c ∈ L.filter isCode, P c = true) : L.all P = true := by
  refine List.all_eq_true.mpr fun c hc => ?_
  have h := List.all_eq_true.mp h1 c hc
  rcases Bool.eq_false_or_eq_true (isCode c) with hi | hi
  · exact h2 c (List.mem_filter.mpr ⟨hc, hi⟩)
  · simpa [hi] using h
set_option maxRecDepth 65536 in
theorem w_c0 : (Jvm.Cond.code x code maxLocals ret).before args0 about1 = true := code_word (m := ⟨1, 2⟩) (meth := k1m2) (c := k1c2) (by decide +kernel) rfl rfl rfl (by decide +kernel)
set_option maxRecDepth 65536 in
theorem w_c1 : (Jvm.Cond.code ({ cls := "com/example/rhadamanthus/rhadamanthus/learn/HeldBins", name := "<init>", desc := "(I)V" } : Jvm.MethodName) prog_63_method_1_code (2 : Nat) (Option.none : Option Jvm.ClassFile.FieldType)).before args0 about1 = true := code_word (m := ⟨2, 0⟩) (meth := k2m0) (c := k2c0) (by decide +kernel) rfl rfl rfl (by decide +kernel)
set_option maxRecDepth 65536 in
theorem w_c2 : (Jvm.Cond.code ({ cls := "java/lang/Object", name := "<init>", desc := "()V" } : Jvm.MethodName) object_method_1_code (1 : Nat) (Option.none : Option Jvm.ClassFile.FieldType)).before args0 about1 = true := code_word (m := ⟨0, 0⟩) (meth := k0m0) (c := k0c0) (by decide +kernel) rfl rfl rfl (by decide +kernel)
set_option maxRecDepth 65536 in
theorem w_c3 : (Jvm.Cond.code ({ cls := "com/example/rhadamanthus/rhadamanthus/learn/HeldBins", name := "set", desc := "(IIIDD)V" } : Jvm.MethodName) prog_63_method_7_code (8 : Nat) (Option.none : Option Jvm.ClassFile.FieldType)).before args0 about1 = true := code_word (m := ⟨2, 6⟩) (meth := k2m6) (c := k2c6) (by decide +kernel) rfl rfl rfl (by decide +kernel)
set_option maxRecDepth 65536 in
theorem w_c4 : (Jvm.Cond.code ({ cls := "com/example/rhadamanthus/rhadamanthus/learn/HeldBins", name := "features", desc := "()[I" } : Jvm.MethodName) prog_63_method_4_code (1 : Nat) (Option.some (Jvm.ClassFile.FieldType.array Jvm.ClassFile.FieldType.int))).before args0 about1 = true := code_word (m := ⟨2, 3⟩) (meth := k2m3) (c := k2c3) (by decide +kernel) rfl rfl rfl (by decide +kernel)
set_option maxRecDepth 65536 in
theorem w_c5 : (Jvm.Cond.code ({ cls := "com/example/rhadamanthus/rhadamanthus/learn/HeldBins", name := "bins", desc := "()[I" } : Jvm.MethodName) prog_63_method_5_code (1 : Nat) (Option.some (Jvm.ClassFile.FieldType.array Jvm.ClassFile.FieldType.int))).before args0 about1 = true := code_word (m := ⟨2, 4⟩) (meth := k2m4) (c := k2c4) (by decide +kernel) rfl rfl rfl (by decide +kernel)
set_option maxRecDepth 65536 in
theorem w_c6 : (Jvm.Cond.code ({ cls := "com/example/rhadamanthus/rhadamanthus/learn/HeldBins", name := "cells", desc := "()[D" } : Jvm.MethodName) prog_63_method_6_code (1 : Nat) (Option.some (Jvm.ClassFile.FieldType.array Jvm.ClassFile.FieldType.double))).before args0 about1 = true := code_word (m := ⟨2, 5⟩) (meth := k2m5) (c := k2c5) (by decide +kernel) rfl rfl rfl (by decide +kernel)
set_option maxRecDepth 65536 in
theorem w_c7 : (Jvm.Cond.code ({ cls := "com/example/rhadamanthus/rhadamanthus/learn/HeldBins", name := "size", desc := "()I" } : Jvm.MethodName) prog_63_method_2_code (1 : Nat) (Option.some Jvm.ClassFile.FieldType.int)).before args0 about1 = true := code_word (m := ⟨2, 1⟩) (meth := k2m1) (c := k2c1) (by decide +kernel) rfl rfl rfl (by decide +kernel)
set_option maxRecDepth 65536 in
theorem w_c8 : (Jvm.Cond.code ({ cls := "com/example/rhadamanthus/rhadamanthus/learn/HeldBins", name := "capacity", desc := "()I" } : Jvm.MethodName) prog_63_method_3_code (1 : Nat) (Option.some Jvm.ClassFile.FieldType.int)).before args0 about1 = true := code_word (m := ⟨2, 2⟩) (meth := k2m2) (c := k2c2) (by decide +kernel) rfl rfl rfl (by decide +kernel)
set_option maxRecDepth 65536 in
theorem w_c9 : (Jvm.Cond.code ({ cls := "com/example/rhadamanthus/rhadamanthus/learn/HeldBinsSetPinLaw", name := "untouched", desc := "([I[I[DIIII)Z" } : Jvm.MethodName) method_2_code (7 : Nat) (Option.some Jvm.ClassFile.FieldType.boolean)).before args0 about1 = true := code_word (m := ⟨1, 1⟩) (meth := k1m1) (c := k1c1) (by decide +kernel) rfl rfl rfl (by decide +kernel)
def codes1 : List Jvm.Cond := [Jvm.Cond.code x code maxLocals ret, Jvm.Cond.code ({ cls := "com/example/rhadamanthus/rhadamanthus/learn/HeldBins", name := "<init>", desc := "(I)V" } : Jvm.MethodName) prog_63_method_1_code (2 : Nat) (Option.none : Option Jvm.ClassFile.FieldType), Jvm.Cond.code ({ cls := "java/lang/Object", name := "<init>", desc := "()V" } : Jvm.MethodName) object_method_1_code (1 : Nat) (Option.none : Option Jvm.ClassFile.FieldType), Jvm.Cond.code ({ cls := "com/example/rhadamanthus/rhadamanthus/learn/HeldBins", name := "set", desc := "(IIIDD)V" } : Jvm.MethodName) prog_63_method_7_code (8 : Nat) (Option.none : Option Jvm.ClassFile.FieldType), Jvm.Cond.code ({ cls := "com/example/rhadamanthus/rhadamanthus/learn/HeldBins", name := "features", desc := "()[I" } : Jvm.MethodName) prog_63_method_4_code (1 : Nat) (Option.some (Jvm.ClassFile.FieldType.array Jvm.ClassFile.FieldType.int)), Jvm.Cond.code ({ cls := "com/example/rhadamanthus/rhadamanthus/learn/HeldBins", name := "bins", desc := "()[I" } : Jvm.MethodName) prog_63_method_5_code (1 : Nat) (Option.some (Jvm.ClassFile.FieldType.array Jvm.ClassFile.FieldType.int)), Jvm.Cond.code ({ cls := "com/example/rhadamanthus/rhadamanthus/learn/HeldBins", name := "cells", desc := "()[D" } : Jvm.MethodName) prog_63_method_6_code (1 : Nat) (Option.some (Jvm.ClassFile.FieldType.array Jvm.ClassFile.FieldType.double)), Jvm.Cond.code ({ cls := "com/example/rhadamanthus/rhadamanthus/learn/HeldBins", name := "size", desc := "()I" } : Jvm.MethodName) prog_63_method_2_code (1 : Nat) (Option.some Jvm.ClassFile.FieldType.int), Jvm.Cond.code ({ cls := "com/example/rhadamanthus/rhadamanthus/learn/HeldBins", name := "capacity", desc := "()I" } : Jvm.MethodName) prog_63_method_3_code (1 : Nat) (Option.some Jvm.ClassFile.FieldType.int), Jvm.Cond.code ({ cls := "com/example/rhadamanthus/rhadamanthus/learn/HeldBinsSetPinLaw", name := "untouched", desc := "([I[I[DIIII)Z" } : Jvm.MethodName) method_2_code (7 : Nat) (Option.some Jvm.ClassFile.FieldType.boolean)]
set_option maxRecDepth 65536 in
theorem codes_eq : words1.filter isCode = codes1 := rfl
theorem w_codes : ∀ c ∈ words1.filter isCode, c.before args0 about1 = true := by
  rw [codes_eq]
  intro c hc
  simp only [codes1, List.mem_cons, List.not_mem_nil, or_false] at hc
  rcases hc with rfl | rfl | rfl | rfl | rfl | rfl | rfl | rfl | rfl | rfl
  · exact w_c0
  · exact w_c1
  · exact w_c2
  · exact w_c3
  · exact w_c4
  · exact w_c5
  · exact w_c6
  · exact w_c7
  · exact w_c8
  · exact w_c9
set_option maxRecDepth 65536 in
theorem w_t1 : (words1.take 24).all (fun c => isCode c || c.before args0 about1) = true := by decide +kernel
set_option maxRecDepth 65536 in
theorem w_t2 : ((words1.drop 24).take 24).all (fun c => isCode c || c.before args0 about1) = true := by decide +kernel
set_option maxRecDepth 65536 in
theorem w_t3 : ((words1.drop 24).drop 24).all (fun c => isCode c || c.before args0 about1) = true := by decide +kernel
theorem w_tables : (allAtoms (Jvm.Cond.code x code maxLocals ret :: tables_1)).before args0 about1 = true := by
  rw [allAtoms_all]
  show words1.all (fun c => c.before args0 about1) = true
  refine all_split ?_ w_codes
  rw [← List.take_append_drop 24 words1, List.all_append, w_t1, ← List.take_append_drop 24 (words1.drop 24), List.all_append, w_t2, w_t3]
  rfl
set_option maxRecDepth 65536 in
theorem w_case : (Jvm.Cond.and given_1 narrow_1).before args0 about1 = true := by decide +kernel
theorem w_applies : (headSpec (Jvm.Cond.code x code maxLocals ret :: tables_1) room_1).applies x e0.platform about1 = true :=
  (Spec.applies_iff w_frames).mpr ⟨w_running, w_runnable, w_alone, w_named, w_hears, w_ripe, w_room, w_tables⟩
theorem atStart : AtStart classFile x code maxLocals ret World_1 tables_1 room_1 Calls_1 rest_1 Pre_1 launch0 p0 e0 about1 theMethod args0 below0 :=
  ⟨lists_1, trivial, launch0.admits_env _ _ _, launch0.least_env, fairChoices_fair.cas, fairChoices_fair.clock, w_frames, w_args, w_heap, w_applies, trivial, trivial, w_case⟩
end start1
theorem witness_1 : WitnessClaimed_1 := ⟨start1.p0, start1.e0, start1.about1, start1.theMethod, start1.args0, start1.below0, start1.atStart⟩
end Jvm.Pilot.@@N@@
