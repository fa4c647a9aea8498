import JvmDerived
import JvmDerived.Pilot.@@N@@Statement
import JvmDerived.Pilot.@@N@@Code
set_option linter.unusedVariables false
set_option linter.unusedSimpArgs false
namespace Jvm.Pilot.@@N@@
open Jvm Jvm.ClassFile Sem Op Lib Jvm.Free Jvm.Stand Jvm.LawKit Jvm.RoadKit Bundle Jvm.Pilot.@@N@@.Jvm.D
/-! from a frame on, the body comes to its end as Q says -/
section OwnKit
variable {p : Program} {l : Launch} {e : Env} {R : Room} {s : State} {m : MethodId} {args : Array Value} {below : List Frame} {meth : Method} {c : Code} {T T' : State} {locs : List Loc} {cells slots C D : Nat} {Q Q' : Option Value → Heap → List Loc → Prop} {g g' : JFrame}
def Go (p : Program) (e : Env) (below : List Frame) (s : State) (C D : Nat) (Q : Option Value → Heap → List Loc → Prop) (T : State) (g : JFrame) : Prop :=
  ∃ u o, Steps p.tables e below (T.setTop g) u ∧ u.status = .running ∧ Ended u below o ∧ ∃ v L, o = .returned v ∧ Q v u.heap L ∧ FrameEnd s o u L C D
def PureQ (r : Value) (h0 : Heap) (v : Option Value) (h : Heap) (L : List Loc) : Prop := v = some r ∧ L = [] ∧ h = h0
theorem Go.step (k : ∀ t, Steps p.tables e below (T'.setTop g') t → Steps p.tables e below (T.setTop g) t) (h : Go p e below s C D Q T' g') : Go p e below s C D Q T g := by
  obtain ⟨u, o, h1, r⟩ := h
  exact ⟨u, o, k _ h1, r⟩
theorem Go.mono (h : Go p e below s C D Q T g) (q : ∀ v h L, Q v h L → Q' v h L) : Go p e below s C D Q' T g := by
  obtain ⟨u, o, h1, h2, h3, v, L, h4, h5, h6⟩ := h
  exact ⟨u, o, h1, h2, h3, v, L, h4, q _ _ _ h5, h6⟩
theorem Go.retN (X : Stand p l e R s m args below meth c T locs cells slots) (hx : p.tables.exec = Jvm.exec) (hlk : meth.locks = false) {pc : Nat} {Ls : Array Slot} {z : Int32} {t : FieldType} {rest : List Value} (hret : meth.sig.returnType = some t) (ht : t = .boolean ∨ t = .byte ∨ t = .char ∨ t = .short)
    (hd : decode c.code pc = .ok (.ireturn, 1)) (hC : cells ≤ C) (hD : slots ≤ D) (hq : Q (some (.int (nar t z))) T.heap locs) : Go p e below s C D Q T (mkF m pc Ls (.int z :: rest)) := by
  obtain ⟨fs, hr, hrun, hended, hW, hsame⟩ := X.leave (v := some (.int (nar t z))) (fun h => by rw [hret] at h; cases h) hlk
  exact ⟨_, _, Jvm.RoadKit.retN X hx hret ht hd hr, hrun, hended, _, _, rfl, hq, ⟨_, rfl⟩, hW, hsame.mono hC hD⟩
theorem Go.retW (X : Stand p l e R s m args below meth c T locs cells slots) (hx : p.tables.exec = Jvm.exec) (hlk : meth.locks = false) {pc : Nat} {Ls : Array Slot} {w : Value} {t : FieldType} {i : Instr} {rest : List Value} (hret : meth.sig.returnType = some t) (hn : narrow t w = w)
    (hi : (i = .ireturn ∧ (t = .int ∨ t = .boolean ∨ t = .byte ∨ t = .char ∨ t = .short) ∧ ∃ z, w = .int z) ∨ (i = .lreturn ∧ t = .long ∧ ∃ z, w = .long z) ∨ (i = .dreturn ∧ t = .double ∧ ∃ z, w = .double z) ∨ (i = .freturn ∧ t = .float ∧ ∃ z, w = .float z) ∨ (i = .areturn ∧ t.isReference = true ∧ w.isRef = true))
    (hd : decode c.code pc = .ok (i, 1)) (hC : cells ≤ C) (hD : slots ≤ D) (hq : Q (some w) T.heap locs) : Go p e below s C D Q T (mkF m pc Ls (w :: rest)) := by
  obtain ⟨fs, hr, hrun, hended, hW, hsame⟩ := X.leave (v := some w) (fun h => by rw [hret] at h; cases h) hlk
  exact ⟨_, _, retOut X hx hret hn hi hd hr, hrun, hended, _, _, rfl, hq, ⟨_, rfl⟩, hW, hsame.mono hC hD⟩
theorem Go.ret0 (X : Stand p l e R s m args below meth c T locs cells slots) (hx : p.tables.exec = Jvm.exec) (hlk : meth.locks = false) {pc : Nat} {Ls : Array Slot} (hret : meth.sig.returnType = none)
    (hd : decode c.code pc = .ok (.return_, 1)) (hC : cells ≤ C) (hD : slots ≤ D) (hq : Q none T.heap locs) : Go p e below s C D Q T (mkF m pc Ls []) := by
  obtain ⟨fs, hr, hrun, hended, hW, hsame⟩ := X.leave (v := none) (fun _ => rfl) hlk
  exact ⟨_, _, X.returnOut hx hret hd hr, hrun, hended, _, _, rfl, hq, ⟨_, rfl⟩, hW, hsame.mono hC hD⟩
end OwnKit
theorem pd_0 : parseMethodDescriptor "(C)Z" = some ⟨[.char], some .boolean⟩ := by decide +kernel
theorem pd_1 : parseMethodDescriptor "([CI)Z" = some ⟨[(.array .char), .int], some .boolean⟩ := by decide +kernel
section OwnHeap
variable {p : Program} {l : Launch} {e : Env} {R : Room} {s : State} {m : MethodId} {args : Array Value} {below : List Frame} {meth : Method} {c : Code} {T : State} {locs : List Loc} {cells slots n0 : Nat}
variable {Z : State} {h h' : Heap} {a b : Addr} {ty : FieldType} {n sl : Nat} {f : Nat → Value} {v : Value} {ws : List Addr} {j : Int32} {gf : JFrame} {rest : List Value}
def IA (Z : State) (h : Heap) (a : Addr) (ty : FieldType) (n : Nat) (f : Nat → Value) : Prop := ∃ c : Cell, Arr Z h a c ty ∧ c.slots.size = n ∧ ∀ k, k < n → c.slots[k]? = some (f k)
def upd {α : Type} (g : Nat → α) (j : Nat) (v : α) (k : Nat) : α := if k = j then v else g k
theorem IA.lt (F : IA Z h a ty n f) : a < h.size := by obtain ⟨c, A, -⟩ := F; exact A.lt
theorem IA.ext (F : IA Z h a ty n f) (E : Ext h h') : IA Z h' a ty n f := by obtain ⟨c, A, r⟩ := F; exact ⟨c, A.ext E, r⟩
theorem IA.other (F : IA Z h b ty n f) (W : Wr h h' a sl v) (q : b ≠ a) : IA Z h' b ty n f := by obtain ⟨c, A, r⟩ := F; exact ⟨c, A.other W q, r⟩
theorem IA.keep (F : IA Z h a ty n f) (K : Keep h h' ws) (q : a ∉ ws) : IA Z h' a ty n f := by obtain ⟨c, A, r⟩ := F; exact ⟨c, ⟨K.2.1 a c A.1 q, A.2⟩, r⟩
theorem IA.of_new {k : ClassId} {z : Int32} (A : Arr Z h a (newA k ty z) ty) (hn : z.toNatClampNeg = n) : IA Z h a ty n (fun _ => defaultValue ty) :=
  ⟨_, A, (sz_new _ _ _).trans hn, fun i hi => by subst hn; simp [newA, hi]⟩
theorem IA.set {c : Cell} {F : Nat → Value} (A : Arr Z h a c ty) (S : c.slots.size = n) (H : ∀ k, k < n → c.slots[k]? = some (F k)) (hj : ¬ (j < 0 ∨ n ≤ j.toNatClampNeg)) (W : Wr h h' a j.toNatClampNeg v) : IA Z h' a ty n (upd F j.toNatClampNeg v) := by
  refine ⟨_, A.same W, (sz_set _ _ _).trans S, fun k hk => ?_⟩
  by_cases q : k = j.toNatClampNeg
  · subst q; simp [Cell.setSlot, upd, S, hk]
  · simp only [Cell.setSlot, upd, if_neg q]
    rw [Array.getElem?_setIfInBounds_ne (Ne.symm q)]; exact H k hk
theorem IA.cong {f' : Nat → Value} (F : IA Z h a ty n f) (q : ∀ k, k < n → f k = f' k) : IA Z h a ty n f' := by
  obtain ⟨c, A, S, H⟩ := F; exact ⟨c, A, S, fun k hk => by rw [H k hk, q k hk]⟩
theorem own_pack (X : Stand p l e R s m args below meth c T locs cells slots) (N : Fr n0 locs) : ∃ lc, Stand p l e R s m args below meth c T lc cells slots ∧ Fr n0 lc := ⟨_, X, N⟩
theorem own_more {C D : Nat} (X : Stand p l e R s m args below meth c T locs cells slots) (hC : cells ≤ C) (hD : slots ≤ D) : Stand p l e R s m args below meth c T locs C D := X.more hC hD
theorem putAI {g : Nat → Int32} {x : Int32} (X : Stand p l e R s m args below meth c T locs cells slots) (hx : p.tables.exec = Jvm.exec) (hZ : Z.Warmed39 s.vm) (eT : T.heap = h) (F : IA Z h a .int n (fun k => .int (g k))) (hj : ¬ (j < 0 ∨ n ≤ j.toNatClampNeg)) (N : Fr n0 locs) (ha : n0 ≤ a) (hg : gf.method = m) (hs : gf.stack = .int x :: .int j :: .ref a :: rest) (hd : decode c.code gf.pc = .ok (.iastore, 1)) :
    ∃ T' h' lc, Stand p l e R s m args below meth c T' lc cells slots ∧ T'.heap = h' ∧ Wr h h' a j.toNatClampNeg (.int x) ∧ Fr n0 lc ∧ IA Z h' a .int n (fun k => .int (upd g j.toNatClampNeg x k)) ∧ ∀ target, Steps p.tables e below (T'.setTop { gf with pc := gf.pc + 1, stack := rest }) target → Steps p.tables e below (T.setTop gf) target := by
  obtain ⟨cl, A, S, H⟩ := F
  obtain ⟨T', h', X', e', W, st⟩ := stI X hx hZ eT A (j := j) (x := x) (by rw [S]; exact hj) hg hs hd
  exact ⟨T', h', _, X', e', W, Fr.snoc X' N ha, (IA.set A S H hj W).cong fun k _ => by simp only [upd]; split <;> rfl, st⟩
theorem putAJ {g : Nat → Int64} {x : Int64} (X : Stand p l e R s m args below meth c T locs cells slots) (hx : p.tables.exec = Jvm.exec) (hZ : Z.Warmed39 s.vm) (eT : T.heap = h) (F : IA Z h a .long n (fun k => .long (g k))) (hj : ¬ (j < 0 ∨ n ≤ j.toNatClampNeg)) (N : Fr n0 locs) (ha : n0 ≤ a) (hg : gf.method = m) (hs : gf.stack = .long x :: .int j :: .ref a :: rest) (hd : decode c.code gf.pc = .ok (.lastore, 1)) :
    ∃ T' h' lc, Stand p l e R s m args below meth c T' lc cells slots ∧ T'.heap = h' ∧ Wr h h' a j.toNatClampNeg (.long x) ∧ Fr n0 lc ∧ IA Z h' a .long n (fun k => .long (upd g j.toNatClampNeg x k)) ∧ ∀ target, Steps p.tables e below (T'.setTop { gf with pc := gf.pc + 1, stack := rest }) target → Steps p.tables e below (T.setTop gf) target := by
  obtain ⟨cl, A, S, H⟩ := F
  obtain ⟨T', h', X', e', W, st⟩ := stJ X hx hZ eT A (j := j) (x := x) (by rw [S]; exact hj) hg hs hd
  exact ⟨T', h', _, X', e', W, Fr.snoc X' N ha, (IA.set A S H hj W).cong fun k _ => by simp only [upd]; split <;> rfl, st⟩
theorem putAC {g : Nat → Int32} {x : Int32} (X : Stand p l e R s m args below meth c T locs cells slots) (hx : p.tables.exec = Jvm.exec) (hZ : Z.Warmed39 s.vm) (eT : T.heap = h) (F : IA Z h a .char n (fun k => .int (g k))) (hj : ¬ (j < 0 ∨ n ≤ j.toNatClampNeg)) (N : Fr n0 locs) (ha : n0 ≤ a) (hg : gf.method = m) (hs : gf.stack = .int x :: .int j :: .ref a :: rest) (hd : decode c.code gf.pc = .ok (.castore, 1)) :
    ∃ T' h' lc, Stand p l e R s m args below meth c T' lc cells slots ∧ T'.heap = h' ∧ Wr h h' a j.toNatClampNeg (.int (nar .char x)) ∧ Fr n0 lc ∧ IA Z h' a .char n (fun k => .int (upd g j.toNatClampNeg (nar .char x) k)) ∧ ∀ target, Steps p.tables e below (T'.setTop { gf with pc := gf.pc + 1, stack := rest }) target → Steps p.tables e below (T.setTop gf) target := by
  obtain ⟨cl, A, S, H⟩ := F
  obtain ⟨T', h', X', e', W, st⟩ := stC X hx hZ eT A (j := j) (x := x) (by rw [S]; exact hj) hg hs hd
  exact ⟨T', h', _, X', e', W, Fr.snoc X' N ha, (IA.set A S H hj W).cong fun k _ => by simp only [upd]; split <;> rfl, st⟩
theorem putAB {g : Nat → Int32} {x : Int32} (X : Stand p l e R s m args below meth c T locs cells slots) (hx : p.tables.exec = Jvm.exec) (hZ : Z.Warmed39 s.vm) (eT : T.heap = h) (F : IA Z h a .byte n (fun k => .int (g k))) (hj : ¬ (j < 0 ∨ n ≤ j.toNatClampNeg)) (N : Fr n0 locs) (ha : n0 ≤ a) (hg : gf.method = m) (hs : gf.stack = .int x :: .int j :: .ref a :: rest) (hd : decode c.code gf.pc = .ok (.bastore, 1)) :
    ∃ T' h' lc, Stand p l e R s m args below meth c T' lc cells slots ∧ T'.heap = h' ∧ Wr h h' a j.toNatClampNeg (.int (nar .byte x)) ∧ Fr n0 lc ∧ IA Z h' a .byte n (fun k => .int (upd g j.toNatClampNeg (nar .byte x) k)) ∧ ∀ target, Steps p.tables e below (T'.setTop { gf with pc := gf.pc + 1, stack := rest }) target → Steps p.tables e below (T.setTop gf) target := by
  obtain ⟨cl, A, S, H⟩ := F
  obtain ⟨T', h', X', e', W, st⟩ := stB X hx hZ eT A (j := j) (x := x) (by rw [S]; exact hj) hg hs hd
  exact ⟨T', h', _, X', e', W, Fr.snoc X' N ha, (IA.set A S H hj W).cong fun k _ => by simp only [upd]; split <;> rfl, st⟩
theorem putAD {g : Nat → UInt64} {x : UInt64} (X : Stand p l e R s m args below meth c T locs cells slots) (hx : p.tables.exec = Jvm.exec) (hZ : Z.Warmed39 s.vm) (eT : T.heap = h) (F : IA Z h a .double n (fun k => .double (g k))) (hj : ¬ (j < 0 ∨ n ≤ j.toNatClampNeg)) (N : Fr n0 locs) (ha : n0 ≤ a) (hg : gf.method = m) (hs : gf.stack = .double x :: .int j :: .ref a :: rest) (hd : decode c.code gf.pc = .ok (.dastore, 1)) :
    ∃ T' h' lc, Stand p l e R s m args below meth c T' lc cells slots ∧ T'.heap = h' ∧ Wr h h' a j.toNatClampNeg (.double x) ∧ Fr n0 lc ∧ IA Z h' a .double n (fun k => .double (upd g j.toNatClampNeg x k)) ∧ ∀ target, Steps p.tables e below (T'.setTop { gf with pc := gf.pc + 1, stack := rest }) target → Steps p.tables e below (T.setTop gf) target := by
  obtain ⟨cl, A, S, H⟩ := F
  have hj' : ¬ (j < 0 ∨ cl.slots.size ≤ j.toNatClampNeg) := by rw [S]; exact hj
  obtain ⟨X', st⟩ := X.dastore hx (x := x) (by rw [eT]; exact A.1) (State.isArrayOf_alike hZ.alike A.2.1) A.2.2 hj' hg hs hd
  have W : Wr h (T.setCell a (cl.setSlot j.toNatClampNeg (.double x))).heap a j.toNatClampNeg (.double x) := ⟨cl, A.1, A.plain, Nat.lt_of_not_le fun q => hj' (Or.inr q), by rw [← eT]; rfl⟩
  exact ⟨_, _, _, X', rfl, W, Fr.snoc X' N ha, (IA.set A S H hj W).cong fun k _ => by simp only [upd]; split <;> rfl, st⟩
theorem getAI {g : Nat → Int32} {t : State} (X : Stand p l e R s m args below meth c T locs cells slots) (hx : p.tables.exec = Jvm.exec) (hZ : Z.Warmed39 s.vm) (eT : T.heap = h) (F : IA Z h a .int n (fun k => .int (g k))) (hj : ¬ (j < 0 ∨ n ≤ j.toNatClampNeg)) (hg : gf.method = m) (hs : gf.stack = .int j :: .ref a :: rest) (hd : decode c.code gf.pc = .ok (.iaload, 1))
    (hr : Steps p.tables e below (T.setTop { gf with pc := gf.pc + 1, stack := .int (g j.toNatClampNeg) :: rest }) t) : Steps p.tables e below (T.setTop gf) t := by
  obtain ⟨cl, A, S, H⟩ := F
  exact X.iaload hx (by rw [eT]; exact A.1) (State.isArrayOf_alike hZ.alike A.2.1) A.2.2 (by rw [S]; exact hj) (H _ (Nat.lt_of_not_le fun q => hj (Or.inr q))) hg hs hd _ hr
theorem getAJ {g : Nat → Int64} {t : State} (X : Stand p l e R s m args below meth c T locs cells slots) (hx : p.tables.exec = Jvm.exec) (hZ : Z.Warmed39 s.vm) (eT : T.heap = h) (F : IA Z h a .long n (fun k => .long (g k))) (hj : ¬ (j < 0 ∨ n ≤ j.toNatClampNeg)) (hg : gf.method = m) (hs : gf.stack = .int j :: .ref a :: rest) (hd : decode c.code gf.pc = .ok (.laload, 1))
    (hr : Steps p.tables e below (T.setTop { gf with pc := gf.pc + 1, stack := .long (g j.toNatClampNeg) :: rest }) t) : Steps p.tables e below (T.setTop gf) t := by
  obtain ⟨cl, A, S, H⟩ := F
  exact X.laload hx (by rw [eT]; exact A.1) (State.isArrayOf_alike hZ.alike A.2.1) A.2.2 (by rw [S]; exact hj) (H _ (Nat.lt_of_not_le fun q => hj (Or.inr q))) hg hs hd _ hr
theorem getAC {g : Nat → Int32} {t : State} (X : Stand p l e R s m args below meth c T locs cells slots) (hx : p.tables.exec = Jvm.exec) (hZ : Z.Warmed39 s.vm) (eT : T.heap = h) (F : IA Z h a .char n (fun k => .int (g k))) (hj : ¬ (j < 0 ∨ n ≤ j.toNatClampNeg)) (hg : gf.method = m) (hs : gf.stack = .int j :: .ref a :: rest) (hd : decode c.code gf.pc = .ok (.caload, 1))
    (hr : Steps p.tables e below (T.setTop { gf with pc := gf.pc + 1, stack := .int (g j.toNatClampNeg) :: rest }) t) : Steps p.tables e below (T.setTop gf) t := by
  obtain ⟨cl, A, S, H⟩ := F
  exact X.caload hx (by rw [eT]; exact A.1) (State.isArrayOf_alike hZ.alike A.2.1) A.2.2 (by rw [S]; exact hj) (H _ (Nat.lt_of_not_le fun q => hj (Or.inr q))) hg hs hd _ hr
theorem getAB {g : Nat → Int32} {t : State} (X : Stand p l e R s m args below meth c T locs cells slots) (hx : p.tables.exec = Jvm.exec) (hZ : Z.Warmed39 s.vm) (eT : T.heap = h) (F : IA Z h a .byte n (fun k => .int (g k))) (hj : ¬ (j < 0 ∨ n ≤ j.toNatClampNeg)) (hg : gf.method = m) (hs : gf.stack = .int j :: .ref a :: rest) (hd : decode c.code gf.pc = .ok (.baload, 1))
    (hr : Steps p.tables e below (T.setTop { gf with pc := gf.pc + 1, stack := .int (g j.toNatClampNeg) :: rest }) t) : Steps p.tables e below (T.setTop gf) t := by
  obtain ⟨cl, A, S, H⟩ := F
  exact X.baloadBytes hx (by rw [eT]; exact A.1) (State.isArrayOf_alike hZ.alike A.2.1) A.2.2 (by rw [S]; exact hj) (H _ (Nat.lt_of_not_le fun q => hj (Or.inr q))) hg hs hd _ hr
theorem getAD {g : Nat → UInt64} {t : State} (X : Stand p l e R s m args below meth c T locs cells slots) (hx : p.tables.exec = Jvm.exec) (hZ : Z.Warmed39 s.vm) (eT : T.heap = h) (F : IA Z h a .double n (fun k => .double (g k))) (hj : ¬ (j < 0 ∨ n ≤ j.toNatClampNeg)) (hg : gf.method = m) (hs : gf.stack = .int j :: .ref a :: rest) (hd : decode c.code gf.pc = .ok (.daload, 1))
    (hr : Steps p.tables e below (T.setTop { gf with pc := gf.pc + 1, stack := .double (g j.toNatClampNeg) :: rest }) t) : Steps p.tables e below (T.setTop gf) t := by
  obtain ⟨cl, A, S, H⟩ := F
  exact X.daload hx (by rw [eT]; exact A.1) (State.isArrayOf_alike hZ.alike A.2.1) A.2.2 (by rw [S]; exact hj) (H _ (Nat.lt_of_not_le fun q => hj (Or.inr q))) hg hs hd _ hr
theorem getLen {t : State} {z : Int32} (X : Stand p l e R s m args below meth c T locs cells slots) (hx : p.tables.exec = Jvm.exec) (hZ : Z.Warmed39 s.vm) (eT : T.heap = h) (F : IA Z h a ty n f) (hz : n.toInt32 = z) (hg : gf.method = m) (hs : gf.stack = .ref a :: rest) (hd : decode c.code gf.pc = .ok (.arraylength, 1))
    (hr : Steps p.tables e below (T.setTop { gf with pc := gf.pc + 1, stack := .int z :: rest }) t) : Steps p.tables e below (T.setTop gf) t := by
  obtain ⟨cl, A, S, H⟩ := F
  exact X.arraylength hx (by rw [eT]; exact A.1) (State.isArrayOf_alike hZ.alike A.2.1) hg hs hd _ (by rw [S, hz]; exact hr)
end OwnHeap
def LawQ (r : Option Value) (n0 : Nat) (v : Option Value) (h : Heap) (L : List Loc) : Prop := v = r ∧ Fr n0 L
theorem Sta_keep0 {Z : State} {h h' : Heap} {C n d : String} {v : Value} (F : Sta Z h C n d v) (K : Keep h h' []) : Sta Z h' C n d v := by
  obtain ⟨cf, i, k, f, st, cell, h1, h2, h3, h4, h5, r⟩ := F
  exact ⟨cf, i, k, f, st, cell, h1, h2, h3, h4, K.2.1 _ _ h5 nin0, r⟩
theorem own_in256 (c : Int32) (h0 : ¬ c < 0) (h1 : c < 256) : ¬ (c < 0 ∨ 256 ≤ c.toNatClampNeg) := by
  have e := nat_of h0
  have q : (256 : Int32).toInt = 256 := by decide
  rw [Int32.lt_iff_toInt_lt, q] at h1
  intro h
  rcases h with h | h
  · exact h0 h
  · omega
theorem own_k5 (x : Int32) : ∃ k : Fin 5, (x &&& 2147483647) % 5 = Int32.ofNat k.val := by
  have e : (x &&& (2147483647 : Int32)).toInt = x.toInt % (2 ^ 31 : Nat) := c_mask x 2147483647 31 (by decide) (by decide)
  have q : (5 : Int32).toInt = 5 := by decide
  have r := (c_irem (x &&& 2147483647) 5 5 q).1 (by omega)
  have r1 : 0 ≤ ((x &&& (2147483647 : Int32)) % 5).toInt := by omega
  have r2 : ((x &&& (2147483647 : Int32)) % 5).toInt < 5 := by omega
  generalize (x &&& (2147483647 : Int32)) % 5 = z at *
  refine ⟨⟨z.toInt.toNat, by omega⟩, ?_⟩
  apply Int32.toInt_inj.mp
  rw [Int32.toInt_ofNat_of_lt (by simp only; omega)]
  simp only; omega
theorem own_len (x : Int32) : ¬ (4 : Int32) < (x &&& 2147483647) % 5 := by
  obtain ⟨k, e⟩ := own_k5 x
  rw [e]; clear e; revert k; decide
theorem own_char (x : Int32) : ¬ nar .char x < 0 ∧ nar .char (x.toUInt32.toUInt16.toUInt32.toInt32) = x.toUInt32.toUInt16.toUInt32.toInt32 := by
  have q : (0 : Int32).toInt = 0 := by decide
  constructor
  · rw [Int32.lt_iff_toInt_lt, q]; have := (c_i2c x).2.1; show ¬ (x.toUInt32.toUInt16.toUInt32.toInt32).toInt < 0; omega
  · have h1 := c_i2c x
    have h2 := c_i2c x.toUInt32.toUInt16.toUInt32.toInt32
    apply Int32.toInt_inj.mp
    show (x.toUInt32.toUInt16.toUInt32.toInt32).toUInt32.toUInt16.toUInt32.toInt32.toInt = _
    omega
theorem own_pos4 (a b c d : Int32) : ∀ k, ¬ (upd (upd (upd (upd (fun _ => (0 : Int32)) (0 : Int32).toNatClampNeg (nar .char a)) (1 : Int32).toNatClampNeg (nar .char b)) (2 : Int32).toNatClampNeg (nar .char c)) (3 : Int32).toNatClampNeg (nar .char d)) k < 0 := by
  intro k
  simp only [upd]
  have h0 : ¬ (0 : Int32) < 0 := by decide
  repeat' split
  all_goals first | exact (own_char _).1 | exact h0
theorem d1_0 : decode prog_125_method_3_code 0 = .ok (.iconst 0, 1) := by decide +kernel
theorem d1_1 : decode prog_125_method_3_code 1 = .ok (.istore_n 2, 1) := by decide +kernel
theorem d1_2 : decode prog_125_method_3_code 2 = .ok (.iload_n 2, 1) := by decide +kernel
theorem d1_3 : decode prog_125_method_3_code 3 = .ok (.iload_n 1, 1) := by decide +kernel
theorem d1_4 : decode prog_125_method_3_code 4 = .ok (.if_icmp .ge 32, 3) := by decide +kernel
theorem d1_7 : decode prog_125_method_3_code 7 = .ok (.aload_n 0, 1) := by decide +kernel
theorem d1_8 : decode prog_125_method_3_code 8 = .ok (.iload_n 2, 1) := by decide +kernel
theorem d1_9 : decode prog_125_method_3_code 9 = .ok (.caload, 1) := by decide +kernel
theorem d1_10 : decode prog_125_method_3_code 10 = .ok (.istore_n 3, 1) := by decide +kernel
theorem d1_11 : decode prog_125_method_3_code 11 = .ok (.iload_n 3, 1) := by decide +kernel
theorem d1_12 : decode prog_125_method_3_code 12 = .ok (.getstatic 29, 3) := by decide +kernel
theorem d1_15 : decode prog_125_method_3_code 15 = .ok (.arraylength, 1) := by decide +kernel
theorem d1_16 : decode prog_125_method_3_code 16 = .ok (.if_icmp .ge 12, 3) := by decide +kernel
theorem d1_19 : decode prog_125_method_3_code 19 = .ok (.getstatic 29, 3) := by decide +kernel
theorem d1_22 : decode prog_125_method_3_code 22 = .ok (.iload_n 3, 1) := by decide +kernel
theorem d1_23 : decode prog_125_method_3_code 23 = .ok (.caload, 1) := by decide +kernel
theorem d1_24 : decode prog_125_method_3_code 24 = .ok (.iload_n 3, 1) := by decide +kernel
theorem d1_25 : decode prog_125_method_3_code 25 = .ok (.if_icmp .eq 5, 3) := by decide +kernel
theorem d1_28 : decode prog_125_method_3_code 28 = .ok (.iconst 1, 1) := by decide +kernel
theorem d1_29 : decode prog_125_method_3_code 29 = .ok (.ireturn, 1) := by decide +kernel
theorem d1_30 : decode prog_125_method_3_code 30 = .ok (.iinc 2 1, 3) := by decide +kernel
theorem d1_33 : decode prog_125_method_3_code 33 = .ok (.goto (-31), 3) := by decide +kernel
theorem d1_36 : decode prog_125_method_3_code 36 = .ok (.iconst 0, 1) := by decide +kernel
theorem d1_37 : decode prog_125_method_3_code 37 = .ok (.ireturn, 1) := by decide +kernel
theorem pn_1 : plainName "com/example/zahlwerk/zahlwerk/rules/ImpayCharacters" = true := by first | (simp [plainName, overriddenIn]; done) | decide +kernel
theorem ef_1 (m : MethodId) (o0 : Addr) (p1 : Int32) : entryFrame m #[(.ref o0), (.int p1)] 4 = mkF m 0 #[.val (.ref o0), .val (.int p1), .unset, .unset] [] := by first | (simp [entryFrame, mkF, argsToLocals, Value.category]; done) | rfl
def f1_36 : Int32 := (nar .boolean (0 : Int32))
def f1_28 : Int32 := (nar .boolean (1 : Int32))
def f1_36_c1 : Int32 := (nar .boolean (0 : Int32))
def f1_28_c1 : Int32 := (nar .boolean (1 : Int32))
def f1_36_c2 : Int32 := (nar .boolean (0 : Int32))
def f1_28_c2 : Int32 := (nar .boolean (1 : Int32))
def f1_36_c3 : Int32 := (nar .boolean (0 : Int32))
def f1_28_c3 : Int32 := (nar .boolean (1 : Int32))
def f1_36_c4 : Int32 := (nar .boolean (0 : Int32))
def f1_7_c4 : Int32 := 0
def f1_2_c4 (p1 : Int32) : Int32 := if (((((0 : Int32) + (1 : Int32)) + (1 : Int32)) + (1 : Int32)) + (1 : Int32)) < p1 then f1_7_c4 else f1_36_c4
def f1_30_c3 (p1 : Int32) : Int32 := (f1_2_c4 p1)
def f1_19_c3 (p1 : Int32) (g : Nat → Int32) (fw : Nat → Int32) : Int32 := if (fw (g ((((0 : Int32) + (1 : Int32)) + (1 : Int32)) + (1 : Int32)).toNatClampNeg).toNatClampNeg) = (g ((((0 : Int32) + (1 : Int32)) + (1 : Int32)) + (1 : Int32)).toNatClampNeg) then (f1_30_c3 p1) else f1_28_c3
def f1_7_c3 (p1 : Int32) (g : Nat → Int32) (fw : Nat → Int32) : Int32 := if (g ((((0 : Int32) + (1 : Int32)) + (1 : Int32)) + (1 : Int32)).toNatClampNeg) < (256 : Int32) then (f1_19_c3 p1 g fw) else f1_28_c3
def f1_2_c3 (p1 : Int32) (g : Nat → Int32) (fw : Nat → Int32) : Int32 := if ((((0 : Int32) + (1 : Int32)) + (1 : Int32)) + (1 : Int32)) < p1 then (f1_7_c3 p1 g fw) else f1_36_c3
def f1_30_c2 (p1 : Int32) (g : Nat → Int32) (fw : Nat → Int32) : Int32 := (f1_2_c3 p1 g fw)
def f1_19_c2 (p1 : Int32) (g : Nat → Int32) (fw : Nat → Int32) : Int32 := if (fw (g (((0 : Int32) + (1 : Int32)) + (1 : Int32)).toNatClampNeg).toNatClampNeg) = (g (((0 : Int32) + (1 : Int32)) + (1 : Int32)).toNatClampNeg) then (f1_30_c2 p1 g fw) else f1_28_c2
def f1_7_c2 (p1 : Int32) (g : Nat → Int32) (fw : Nat → Int32) : Int32 := if (g (((0 : Int32) + (1 : Int32)) + (1 : Int32)).toNatClampNeg) < (256 : Int32) then (f1_19_c2 p1 g fw) else f1_28_c2
def f1_2_c2 (p1 : Int32) (g : Nat → Int32) (fw : Nat → Int32) : Int32 := if (((0 : Int32) + (1 : Int32)) + (1 : Int32)) < p1 then (f1_7_c2 p1 g fw) else f1_36_c2
def f1_30_c1 (p1 : Int32) (g : Nat → Int32) (fw : Nat → Int32) : Int32 := (f1_2_c2 p1 g fw)
def f1_19_c1 (p1 : Int32) (g : Nat → Int32) (fw : Nat → Int32) : Int32 := if (fw (g ((0 : Int32) + (1 : Int32)).toNatClampNeg).toNatClampNeg) = (g ((0 : Int32) + (1 : Int32)).toNatClampNeg) then (f1_30_c1 p1 g fw) else f1_28_c1
def f1_7_c1 (p1 : Int32) (g : Nat → Int32) (fw : Nat → Int32) : Int32 := if (g ((0 : Int32) + (1 : Int32)).toNatClampNeg) < (256 : Int32) then (f1_19_c1 p1 g fw) else f1_28_c1
def f1_2_c1 (p1 : Int32) (g : Nat → Int32) (fw : Nat → Int32) : Int32 := if ((0 : Int32) + (1 : Int32)) < p1 then (f1_7_c1 p1 g fw) else f1_36_c1
def f1_30 (p1 : Int32) (g : Nat → Int32) (fw : Nat → Int32) : Int32 := (f1_2_c1 p1 g fw)
def f1_19 (p1 : Int32) (g : Nat → Int32) (fw : Nat → Int32) : Int32 := if (fw (g (0 : Int32).toNatClampNeg).toNatClampNeg) = (g (0 : Int32).toNatClampNeg) then (f1_30 p1 g fw) else f1_28
def f1_7 (p1 : Int32) (g : Nat → Int32) (fw : Nat → Int32) : Int32 := if (g (0 : Int32).toNatClampNeg) < (256 : Int32) then (f1_19 p1 g fw) else f1_28
def f1_2 (p1 : Int32) (g : Nat → Int32) (fw : Nat → Int32) : Int32 := if (0 : Int32) < p1 then (f1_7 p1 g fw) else f1_36
def f1_0 (p1 : Int32) (g : Nat → Int32) (fw : Nat → Int32) : Int32 := (f1_2 p1 g fw)
set_option maxRecDepth 65536 in
set_option maxHeartbeats 40000000 in
theorem rm1 (l : Launch) (Z : State) (a0 : Array Value) (hw : ∀ d ∈ tables_1, d.before a0 Z = true) (ws : List Jvm.Cond) (o0 : Addr) (p1 : Int32) (wF : Addr) (g : Nat → Int32) (fw : Nat → Int32) (h0 : Heap) (S_F : Sta Z h0 "com/example/zahlwerk/zahlwerk/rules/ImpayCharacters" "FORWARDED" "[C" (.ref wF)) (A_F : IA Z h0 wF .char 256 (fun k => .int (fw k))) (A_T : IA Z h0 o0 .char 4 (fun k => .int (g k))) (hlen : ¬ (4 : Int32) < p1) (hpos : ∀ k, ¬ g k < 0) :
    MetFree l (⟨"com/example/zahlwerk/zahlwerk/rules/ImpayCharacters", "changed", "([CI)Z"⟩ : MethodName) (head1 (Jvm.Cond.code (⟨"com/example/zahlwerk/zahlwerk/rules/ImpayCharacters", "changed", "([CI)Z"⟩ : MethodName) prog_125_method_3_code 4 (some .boolean) :: ws) ({ frames := 0, cells := 0, slots := 0, locals := 0 } : Room)) (fun a U => a = #[(.ref o0), (.int p1)] ∧ Z.Warmed39 U.vm ∧ U.heap = h0) (fun _ _ _ _ _ => True) (fun _ U o U' => ∃ v L, o = .returned v ∧ (PureQ (.int (f1_0 p1 g fw)) h0) v U'.heap L ∧ FrameEnd U o U' L ({ frames := 0, cells := 0, slots := 0, locals := 0 } : Room).cells ({ frames := 0, cells := 0, slots := 0, locals := 0 } : Room).slots) := by
  refine MetFree.of_bodySF (plainFor_of_name pn_1) hisR ?_
  intro p e s m args below meth c s₁ Bd hml0 hP hK
  obtain ⟨rfl, hZ, hh⟩ := hP
  have hx := Bd.exec
  have hby := Bd.bytes
  have hlk : meth.locks = false := BodyLoose.notSynchronized Bd
  have hml : c.maxLocals = 4 := hml0
  have hown : s.vm.findClass "com/example/zahlwerk/zahlwerk/rules/ImpayCharacters" = some m.cls := findClass_of_methodNamed Bd.named
  have hnm := (name_of_methodNamed Bd.named Bd.method).1
  have X0 : Stand p l e ({ frames := 0, cells := 0, slots := 0, locals := 0 } : Room) s m #[(.ref o0), (.int p1)] below meth c s₁ ([] : List Loc) 0 0 := Stand.of_body Bd
  have e0 : s₁.heap = h0 := by rw [← hh, Bd.state]; rfl
  show Go p e below s 0 0 (PureQ (.int (f1_0 p1 g fw)) h0) s₁ (entryFrame m #[(.ref o0), (.int p1)] 4)
  rw [ef_1 m o0 p1]
  refine Go.step (g' := (mkF m 1 #[.val (.ref o0), .val (.int p1), .unset, .unset] [(.int (0 : Int32))])) (fun _ k => XS.iconst X0.here hx rfl (hb hby d1_0) k) ?_
  refine Go.step (g' := (mkF m 2 #[.val (.ref o0), .val (.int p1), .val (.int (0 : Int32)), .unset] [])) (fun _ k => XS.istoreN X0.here hx rfl (hb hby d1_1) rfl (l' := #[.val (.ref o0), .val (.int p1), .val (.int (0 : Int32)), .unset]) rfl k) ?_
  rw [show (f1_0 p1 g fw) = (f1_2 p1 g fw) from rfl]
  refine Go.step (g' := (mkF m 3 #[.val (.ref o0), .val (.int p1), .val (.int (0 : Int32)), .unset] [(.int (0 : Int32))])) (fun _ k => XS.iloadN X0.here hx rfl (hb hby d1_2) rfl  k) ?_
  refine Go.step (g' := (mkF m 4 #[.val (.ref o0), .val (.int p1), .val (.int (0 : Int32)), .unset] [(.int p1), (.int (0 : Int32))])) (fun _ k => XS.iloadN X0.here hx rfl (hb hby d1_3) rfl  k) ?_
  by_cases hc4 : (0 : Int32) < p1
  · rw [show (f1_2 p1 g fw) = (f1_7 p1 g fw) from if_pos hc4]
    refine Go.step (g' := (mkF m 7 #[.val (.ref o0), .val (.int p1), .val (.int (0 : Int32)), .unset] [])) (fun _ k => XS.icmpNo X0.here hx rfl (hb hby d1_4) rfl (tlt hc4).2.1 k) ?_
    refine Go.step (g' := (mkF m 8 #[.val (.ref o0), .val (.int p1), .val (.int (0 : Int32)), .unset] [(.ref o0)])) (fun _ k => XS.aloadN X0.here hx rfl (hb hby d1_7) rfl rfl  k) ?_
    refine Go.step (g' := (mkF m 9 #[.val (.ref o0), .val (.int p1), .val (.int (0 : Int32)), .unset] [(.int (0 : Int32)), (.ref o0)])) (fun _ k => XS.iloadN X0.here hx rfl (hb hby d1_8) rfl  k) ?_
    refine Go.step (g' := (mkF m 10 #[.val (.ref o0), .val (.int p1), .val (.int (0 : Int32)), .unset] [(.int (g (0 : Int32).toNatClampNeg))])) (fun _ k => getAC X0 hx hZ e0 A_T (j := (0 : Int32)) (by decide) (gf := (mkF m 9 #[.val (.ref o0), .val (.int p1), .val (.int (0 : Int32)), .unset] [(.int (0 : Int32)), (.ref o0)])) rfl rfl (hb hby d1_9) k) ?_
    refine Go.step (g' := (mkF m 11 #[.val (.ref o0), .val (.int p1), .val (.int (0 : Int32)), .val (.int (g (0 : Int32).toNatClampNeg))] [])) (fun _ k => XS.istoreN X0.here hx rfl (hb hby d1_10) rfl (l' := #[.val (.ref o0), .val (.int p1), .val (.int (0 : Int32)), .val (.int (g (0 : Int32).toNatClampNeg))]) rfl k) ?_
    refine Go.step (g' := (mkF m 12 #[.val (.ref o0), .val (.int p1), .val (.int (0 : Int32)), .val (.int (g (0 : Int32).toNatClampNeg))] [(.int (g (0 : Int32).toNatClampNeg))])) (fun _ k => XS.iloadN X0.here hx rfl (hb hby d1_11) rfl  k) ?_
    obtain ⟨T1, X1, e1, st1⟩ := getS2 X0 hx hZ hown (host := "") (Or.inl (hw _ (List.mem_of_getElem? (i := 10) rfl))) Via.refl e0 S_F (g := (mkF m 12 #[.val (.ref o0), .val (.int p1), .val (.int (0 : Int32)), .val (.int (g (0 : Int32).toNatClampNeg))] [(.int (g (0 : Int32).toNatClampNeg))])) rfl (hb hby d1_12)
    refine Go.step (g' := (mkF m 15 #[.val (.ref o0), .val (.int p1), .val (.int (0 : Int32)), .val (.int (g (0 : Int32).toNatClampNeg))] [(.ref wF), (.int (g (0 : Int32).toNatClampNeg))])) st1 ?_
    refine Go.step (g' := (mkF m 16 #[.val (.ref o0), .val (.int p1), .val (.int (0 : Int32)), .val (.int (g (0 : Int32).toNatClampNeg))] [(.int (256 : Int32)), (.int (g (0 : Int32).toNatClampNeg))])) (fun _ k => getLen X1 hx hZ e1 A_F rfl (gf := (mkF m 15 #[.val (.ref o0), .val (.int p1), .val (.int (0 : Int32)), .val (.int (g (0 : Int32).toNatClampNeg))] [(.ref wF), (.int (g (0 : Int32).toNatClampNeg))])) rfl rfl (hb hby d1_15) k) ?_
    have t28 : ∀ (T_28 : State) (X_28 : Stand p l e ({ frames := 0, cells := 0, slots := 0, locals := 0 } : Room) s m #[(.ref o0), (.int p1)] below meth c T_28 ([] : List Loc) 0 0) (e_28 : T_28.heap = h0), Go p e below s 0 0 (PureQ (.int f1_28) h0) T_28 (mkF m 28 #[.val (.ref o0), .val (.int p1), .val (.int (0 : Int32)), .val (.int (g (0 : Int32).toNatClampNeg))] []) := by
      intro T_28 X_28 e_28
      refine Go.step (g' := (mkF m 29 #[.val (.ref o0), .val (.int p1), .val (.int (0 : Int32)), .val (.int (g (0 : Int32).toNatClampNeg))] [(.int (1 : Int32))])) (fun _ k => XS.iconst X_28.here hx rfl (hb hby d1_28) k) ?_
      exact Go.retN X_28 hx hlk (t := .boolean) Bd.returns (by simp) (hb hby d1_29) (by decide) (by decide) ⟨rfl, rfl, e_28⟩
    by_cases hc16 : (g (0 : Int32).toNatClampNeg) < (256 : Int32)
    · rw [show (f1_7 p1 g fw) = (f1_19 p1 g fw) from if_pos hc16]
      refine Go.step (g' := (mkF m 19 #[.val (.ref o0), .val (.int p1), .val (.int (0 : Int32)), .val (.int (g (0 : Int32).toNatClampNeg))] [])) (fun _ k => XS.icmpNo X1.here hx rfl (hb hby d1_16) rfl (tlt hc16).2.1 k) ?_
      obtain ⟨T2, X2, e2, st2⟩ := getS2 X1 hx hZ hown (host := "") (Or.inl (hw _ (List.mem_of_getElem? (i := 10) rfl))) Via.refl e1 S_F (g := (mkF m 19 #[.val (.ref o0), .val (.int p1), .val (.int (0 : Int32)), .val (.int (g (0 : Int32).toNatClampNeg))] [])) rfl (hb hby d1_19)
      refine Go.step (g' := (mkF m 22 #[.val (.ref o0), .val (.int p1), .val (.int (0 : Int32)), .val (.int (g (0 : Int32).toNatClampNeg))] [(.ref wF)])) st2 ?_
      refine Go.step (g' := (mkF m 23 #[.val (.ref o0), .val (.int p1), .val (.int (0 : Int32)), .val (.int (g (0 : Int32).toNatClampNeg))] [(.int (g (0 : Int32).toNatClampNeg)), (.ref wF)])) (fun _ k => XS.iloadN X2.here hx rfl (hb hby d1_22) rfl  k) ?_
      refine Go.step (g' := (mkF m 24 #[.val (.ref o0), .val (.int p1), .val (.int (0 : Int32)), .val (.int (g (0 : Int32).toNatClampNeg))] [(.int (fw (g (0 : Int32).toNatClampNeg).toNatClampNeg))])) (fun _ k => getAC X2 hx hZ e2 A_F (j := (g (0 : Int32).toNatClampNeg)) (own_in256 _ (hpos _) hc16) (gf := (mkF m 23 #[.val (.ref o0), .val (.int p1), .val (.int (0 : Int32)), .val (.int (g (0 : Int32).toNatClampNeg))] [(.int (g (0 : Int32).toNatClampNeg)), (.ref wF)])) rfl rfl (hb hby d1_23) k) ?_
      refine Go.step (g' := (mkF m 25 #[.val (.ref o0), .val (.int p1), .val (.int (0 : Int32)), .val (.int (g (0 : Int32).toNatClampNeg))] [(.int (g (0 : Int32).toNatClampNeg)), (.int (fw (g (0 : Int32).toNatClampNeg).toNatClampNeg))])) (fun _ k => XS.iloadN X2.here hx rfl (hb hby d1_24) rfl  k) ?_
      by_cases hc25 : (fw (g (0 : Int32).toNatClampNeg).toNatClampNeg) = (g (0 : Int32).toNatClampNeg)
      · rw [show (f1_19 p1 g fw) = (f1_30 p1 g fw) from if_pos hc25]
        refine Go.step (g' := (mkF m 30 #[.val (.ref o0), .val (.int p1), .val (.int (0 : Int32)), .val (.int (g (0 : Int32).toNatClampNeg))] [])) (fun _ k => XS.icmpYes X2.here hx rfl (pc0 := 25) (pc' := 30) rfl (hb hby d1_25) rfl (teq hc25).1 (by decide) (by decide) k) ?_
        refine Go.step (g' := (mkF m 33 #[.val (.ref o0), .val (.int p1), .val (.int ((0 : Int32) + (1 : Int32))), .val (.int (g (0 : Int32).toNatClampNeg))] [])) (fun _ k => XS.iinc X2.here hx rfl (hb hby d1_30) rfl (l' := #[.val (.ref o0), .val (.int p1), .val (.int ((0 : Int32) + (1 : Int32))), .val (.int (g (0 : Int32).toNatClampNeg))]) rfl k) ?_
        refine Go.step (g' := (mkF m 2 #[.val (.ref o0), .val (.int p1), .val (.int ((0 : Int32) + (1 : Int32))), .val (.int (g (0 : Int32).toNatClampNeg))] [])) (fun _ k => XS.goto X2.here hx rfl (pc0 := 33) (pc' := 2) rfl (hb hby d1_33) (by decide) (by decide) k) ?_
        rw [show (f1_30 p1 g fw) = (f1_2_c1 p1 g fw) from rfl]
        refine Go.step (g' := (mkF m 3 #[.val (.ref o0), .val (.int p1), .val (.int ((0 : Int32) + (1 : Int32))), .val (.int (g (0 : Int32).toNatClampNeg))] [(.int ((0 : Int32) + (1 : Int32)))])) (fun _ k => XS.iloadN X2.here hx rfl (hb hby d1_2) rfl  k) ?_
        refine Go.step (g' := (mkF m 4 #[.val (.ref o0), .val (.int p1), .val (.int ((0 : Int32) + (1 : Int32))), .val (.int (g (0 : Int32).toNatClampNeg))] [(.int p1), (.int ((0 : Int32) + (1 : Int32)))])) (fun _ k => XS.iloadN X2.here hx rfl (hb hby d1_3) rfl  k) ?_
        by_cases hc4_c1 : ((0 : Int32) + (1 : Int32)) < p1
        · rw [show (f1_2_c1 p1 g fw) = (f1_7_c1 p1 g fw) from if_pos hc4_c1]
          refine Go.step (g' := (mkF m 7 #[.val (.ref o0), .val (.int p1), .val (.int ((0 : Int32) + (1 : Int32))), .val (.int (g (0 : Int32).toNatClampNeg))] [])) (fun _ k => XS.icmpNo X2.here hx rfl (hb hby d1_4) rfl (tlt hc4_c1).2.1 k) ?_
          refine Go.step (g' := (mkF m 8 #[.val (.ref o0), .val (.int p1), .val (.int ((0 : Int32) + (1 : Int32))), .val (.int (g (0 : Int32).toNatClampNeg))] [(.ref o0)])) (fun _ k => XS.aloadN X2.here hx rfl (hb hby d1_7) rfl rfl  k) ?_
          refine Go.step (g' := (mkF m 9 #[.val (.ref o0), .val (.int p1), .val (.int ((0 : Int32) + (1 : Int32))), .val (.int (g (0 : Int32).toNatClampNeg))] [(.int ((0 : Int32) + (1 : Int32))), (.ref o0)])) (fun _ k => XS.iloadN X2.here hx rfl (hb hby d1_8) rfl  k) ?_
          refine Go.step (g' := (mkF m 10 #[.val (.ref o0), .val (.int p1), .val (.int ((0 : Int32) + (1 : Int32))), .val (.int (g (0 : Int32).toNatClampNeg))] [(.int (g ((0 : Int32) + (1 : Int32)).toNatClampNeg))])) (fun _ k => getAC X2 hx hZ e2 A_T (j := ((0 : Int32) + (1 : Int32))) (by decide) (gf := (mkF m 9 #[.val (.ref o0), .val (.int p1), .val (.int ((0 : Int32) + (1 : Int32))), .val (.int (g (0 : Int32).toNatClampNeg))] [(.int ((0 : Int32) + (1 : Int32))), (.ref o0)])) rfl rfl (hb hby d1_9) k) ?_
          refine Go.step (g' := (mkF m 11 #[.val (.ref o0), .val (.int p1), .val (.int ((0 : Int32) + (1 : Int32))), .val (.int (g ((0 : Int32) + (1 : Int32)).toNatClampNeg))] [])) (fun _ k => XS.istoreN X2.here hx rfl (hb hby d1_10) rfl (l' := #[.val (.ref o0), .val (.int p1), .val (.int ((0 : Int32) + (1 : Int32))), .val (.int (g ((0 : Int32) + (1 : Int32)).toNatClampNeg))]) rfl k) ?_
          refine Go.step (g' := (mkF m 12 #[.val (.ref o0), .val (.int p1), .val (.int ((0 : Int32) + (1 : Int32))), .val (.int (g ((0 : Int32) + (1 : Int32)).toNatClampNeg))] [(.int (g ((0 : Int32) + (1 : Int32)).toNatClampNeg))])) (fun _ k => XS.iloadN X2.here hx rfl (hb hby d1_11) rfl  k) ?_
          obtain ⟨T3, X3, e3, st3⟩ := getS2 X2 hx hZ hown (host := "") (Or.inl (hw _ (List.mem_of_getElem? (i := 10) rfl))) Via.refl e2 S_F (g := (mkF m 12 #[.val (.ref o0), .val (.int p1), .val (.int ((0 : Int32) + (1 : Int32))), .val (.int (g ((0 : Int32) + (1 : Int32)).toNatClampNeg))] [(.int (g ((0 : Int32) + (1 : Int32)).toNatClampNeg))])) rfl (hb hby d1_12)
          refine Go.step (g' := (mkF m 15 #[.val (.ref o0), .val (.int p1), .val (.int ((0 : Int32) + (1 : Int32))), .val (.int (g ((0 : Int32) + (1 : Int32)).toNatClampNeg))] [(.ref wF), (.int (g ((0 : Int32) + (1 : Int32)).toNatClampNeg))])) st3 ?_
          refine Go.step (g' := (mkF m 16 #[.val (.ref o0), .val (.int p1), .val (.int ((0 : Int32) + (1 : Int32))), .val (.int (g ((0 : Int32) + (1 : Int32)).toNatClampNeg))] [(.int (256 : Int32)), (.int (g ((0 : Int32) + (1 : Int32)).toNatClampNeg))])) (fun _ k => getLen X3 hx hZ e3 A_F rfl (gf := (mkF m 15 #[.val (.ref o0), .val (.int p1), .val (.int ((0 : Int32) + (1 : Int32))), .val (.int (g ((0 : Int32) + (1 : Int32)).toNatClampNeg))] [(.ref wF), (.int (g ((0 : Int32) + (1 : Int32)).toNatClampNeg))])) rfl rfl (hb hby d1_15) k) ?_
          have t28_c1 : ∀ (T_28_c1 : State) (X_28_c1 : Stand p l e ({ frames := 0, cells := 0, slots := 0, locals := 0 } : Room) s m #[(.ref o0), (.int p1)] below meth c T_28_c1 ([] : List Loc) 0 0) (e_28_c1 : T_28_c1.heap = h0), Go p e below s 0 0 (PureQ (.int f1_28_c1) h0) T_28_c1 (mkF m 28 #[.val (.ref o0), .val (.int p1), .val (.int ((0 : Int32) + (1 : Int32))), .val (.int (g ((0 : Int32) + (1 : Int32)).toNatClampNeg))] []) := by
            intro T_28_c1 X_28_c1 e_28_c1
            refine Go.step (g' := (mkF m 29 #[.val (.ref o0), .val (.int p1), .val (.int ((0 : Int32) + (1 : Int32))), .val (.int (g ((0 : Int32) + (1 : Int32)).toNatClampNeg))] [(.int (1 : Int32))])) (fun _ k => XS.iconst X_28_c1.here hx rfl (hb hby d1_28) k) ?_
            exact Go.retN X_28_c1 hx hlk (t := .boolean) Bd.returns (by simp) (hb hby d1_29) (by decide) (by decide) ⟨rfl, rfl, e_28_c1⟩
          by_cases hc16_c1 : (g ((0 : Int32) + (1 : Int32)).toNatClampNeg) < (256 : Int32)
          · rw [show (f1_7_c1 p1 g fw) = (f1_19_c1 p1 g fw) from if_pos hc16_c1]
            refine Go.step (g' := (mkF m 19 #[.val (.ref o0), .val (.int p1), .val (.int ((0 : Int32) + (1 : Int32))), .val (.int (g ((0 : Int32) + (1 : Int32)).toNatClampNeg))] [])) (fun _ k => XS.icmpNo X3.here hx rfl (hb hby d1_16) rfl (tlt hc16_c1).2.1 k) ?_
            obtain ⟨T4, X4, e4, st4⟩ := getS2 X3 hx hZ hown (host := "") (Or.inl (hw _ (List.mem_of_getElem? (i := 10) rfl))) Via.refl e3 S_F (g := (mkF m 19 #[.val (.ref o0), .val (.int p1), .val (.int ((0 : Int32) + (1 : Int32))), .val (.int (g ((0 : Int32) + (1 : Int32)).toNatClampNeg))] [])) rfl (hb hby d1_19)
            refine Go.step (g' := (mkF m 22 #[.val (.ref o0), .val (.int p1), .val (.int ((0 : Int32) + (1 : Int32))), .val (.int (g ((0 : Int32) + (1 : Int32)).toNatClampNeg))] [(.ref wF)])) st4 ?_
            refine Go.step (g' := (mkF m 23 #[.val (.ref o0), .val (.int p1), .val (.int ((0 : Int32) + (1 : Int32))), .val (.int (g ((0 : Int32) + (1 : Int32)).toNatClampNeg))] [(.int (g ((0 : Int32) + (1 : Int32)).toNatClampNeg)), (.ref wF)])) (fun _ k => XS.iloadN X4.here hx rfl (hb hby d1_22) rfl  k) ?_
            refine Go.step (g' := (mkF m 24 #[.val (.ref o0), .val (.int p1), .val (.int ((0 : Int32) + (1 : Int32))), .val (.int (g ((0 : Int32) + (1 : Int32)).toNatClampNeg))] [(.int (fw (g ((0 : Int32) + (1 : Int32)).toNatClampNeg).toNatClampNeg))])) (fun _ k => getAC X4 hx hZ e4 A_F (j := (g ((0 : Int32) + (1 : Int32)).toNatClampNeg)) (own_in256 _ (hpos _) hc16_c1) (gf := (mkF m 23 #[.val (.ref o0), .val (.int p1), .val (.int ((0 : Int32) + (1 : Int32))), .val (.int (g ((0 : Int32) + (1 : Int32)).toNatClampNeg))] [(.int (g ((0 : Int32) + (1 : Int32)).toNatClampNeg)), (.ref wF)])) rfl rfl (hb hby d1_23) k) ?_
            refine Go.step (g' := (mkF m 25 #[.val (.ref o0), .val (.int p1), .val (.int ((0 : Int32) + (1 : Int32))), .val (.int (g ((0 : Int32) + (1 : Int32)).toNatClampNeg))] [(.int (g ((0 : Int32) + (1 : Int32)).toNatClampNeg)), (.int (fw (g ((0 : Int32) + (1 : Int32)).toNatClampNeg).toNatClampNeg))])) (fun _ k => XS.iloadN X4.here hx rfl (hb hby d1_24) rfl  k) ?_
            by_cases hc25_c1 : (fw (g ((0 : Int32) + (1 : Int32)).toNatClampNeg).toNatClampNeg) = (g ((0 : Int32) + (1 : Int32)).toNatClampNeg)
            · rw [show (f1_19_c1 p1 g fw) = (f1_30_c1 p1 g fw) from if_pos hc25_c1]
              refine Go.step (g' := (mkF m 30 #[.val (.ref o0), .val (.int p1), .val (.int ((0 : Int32) + (1 : Int32))), .val (.int (g ((0 : Int32) + (1 : Int32)).toNatClampNeg))] [])) (fun _ k => XS.icmpYes X4.here hx rfl (pc0 := 25) (pc' := 30) rfl (hb hby d1_25) rfl (teq hc25_c1).1 (by decide) (by decide) k) ?_
              refine Go.step (g' := (mkF m 33 #[.val (.ref o0), .val (.int p1), .val (.int (((0 : Int32) + (1 : Int32)) + (1 : Int32))), .val (.int (g ((0 : Int32) + (1 : Int32)).toNatClampNeg))] [])) (fun _ k => XS.iinc X4.here hx rfl (hb hby d1_30) rfl (l' := #[.val (.ref o0), .val (.int p1), .val (.int (((0 : Int32) + (1 : Int32)) + (1 : Int32))), .val (.int (g ((0 : Int32) + (1 : Int32)).toNatClampNeg))]) rfl k) ?_
              refine Go.step (g' := (mkF m 2 #[.val (.ref o0), .val (.int p1), .val (.int (((0 : Int32) + (1 : Int32)) + (1 : Int32))), .val (.int (g ((0 : Int32) + (1 : Int32)).toNatClampNeg))] [])) (fun _ k => XS.goto X4.here hx rfl (pc0 := 33) (pc' := 2) rfl (hb hby d1_33) (by decide) (by decide) k) ?_
              rw [show (f1_30_c1 p1 g fw) = (f1_2_c2 p1 g fw) from rfl]
              refine Go.step (g' := (mkF m 3 #[.val (.ref o0), .val (.int p1), .val (.int (((0 : Int32) + (1 : Int32)) + (1 : Int32))), .val (.int (g ((0 : Int32) + (1 : Int32)).toNatClampNeg))] [(.int (((0 : Int32) + (1 : Int32)) + (1 : Int32)))])) (fun _ k => XS.iloadN X4.here hx rfl (hb hby d1_2) rfl  k) ?_
              refine Go.step (g' := (mkF m 4 #[.val (.ref o0), .val (.int p1), .val (.int (((0 : Int32) + (1 : Int32)) + (1 : Int32))), .val (.int (g ((0 : Int32) + (1 : Int32)).toNatClampNeg))] [(.int p1), (.int (((0 : Int32) + (1 : Int32)) + (1 : Int32)))])) (fun _ k => XS.iloadN X4.here hx rfl (hb hby d1_3) rfl  k) ?_
              by_cases hc4_c2 : (((0 : Int32) + (1 : Int32)) + (1 : Int32)) < p1
              · rw [show (f1_2_c2 p1 g fw) = (f1_7_c2 p1 g fw) from if_pos hc4_c2]
                refine Go.step (g' := (mkF m 7 #[.val (.ref o0), .val (.int p1), .val (.int (((0 : Int32) + (1 : Int32)) + (1 : Int32))), .val (.int (g ((0 : Int32) + (1 : Int32)).toNatClampNeg))] [])) (fun _ k => XS.icmpNo X4.here hx rfl (hb hby d1_4) rfl (tlt hc4_c2).2.1 k) ?_
                refine Go.step (g' := (mkF m 8 #[.val (.ref o0), .val (.int p1), .val (.int (((0 : Int32) + (1 : Int32)) + (1 : Int32))), .val (.int (g ((0 : Int32) + (1 : Int32)).toNatClampNeg))] [(.ref o0)])) (fun _ k => XS.aloadN X4.here hx rfl (hb hby d1_7) rfl rfl  k) ?_
                refine Go.step (g' := (mkF m 9 #[.val (.ref o0), .val (.int p1), .val (.int (((0 : Int32) + (1 : Int32)) + (1 : Int32))), .val (.int (g ((0 : Int32) + (1 : Int32)).toNatClampNeg))] [(.int (((0 : Int32) + (1 : Int32)) + (1 : Int32))), (.ref o0)])) (fun _ k => XS.iloadN X4.here hx rfl (hb hby d1_8) rfl  k) ?_
                refine Go.step (g' := (mkF m 10 #[.val (.ref o0), .val (.int p1), .val (.int (((0 : Int32) + (1 : Int32)) + (1 : Int32))), .val (.int (g ((0 : Int32) + (1 : Int32)).toNatClampNeg))] [(.int (g (((0 : Int32) + (1 : Int32)) + (1 : Int32)).toNatClampNeg))])) (fun _ k => getAC X4 hx hZ e4 A_T (j := (((0 : Int32) + (1 : Int32)) + (1 : Int32))) (by decide) (gf := (mkF m 9 #[.val (.ref o0), .val (.int p1), .val (.int (((0 : Int32) + (1 : Int32)) + (1 : Int32))), .val (.int (g ((0 : Int32) + (1 : Int32)).toNatClampNeg))] [(.int (((0 : Int32) + (1 : Int32)) + (1 : Int32))), (.ref o0)])) rfl rfl (hb hby d1_9) k) ?_
                refine Go.step (g' := (mkF m 11 #[.val (.ref o0), .val (.int p1), .val (.int (((0 : Int32) + (1 : Int32)) + (1 : Int32))), .val (.int (g (((0 : Int32) + (1 : Int32)) + (1 : Int32)).toNatClampNeg))] [])) (fun _ k => XS.istoreN X4.here hx rfl (hb hby d1_10) rfl (l' := #[.val (.ref o0), .val (.int p1), .val (.int (((0 : Int32) + (1 : Int32)) + (1 : Int32))), .val (.int (g (((0 : Int32) + (1 : Int32)) + (1 : Int32)).toNatClampNeg))]) rfl k) ?_
                refine Go.step (g' := (mkF m 12 #[.val (.ref o0), .val (.int p1), .val (.int (((0 : Int32) + (1 : Int32)) + (1 : Int32))), .val (.int (g (((0 : Int32) + (1 : Int32)) + (1 : Int32)).toNatClampNeg))] [(.int (g (((0 : Int32) + (1 : Int32)) + (1 : Int32)).toNatClampNeg))])) (fun _ k => XS.iloadN X4.here hx rfl (hb hby d1_11) rfl  k) ?_
                obtain ⟨T5, X5, e5, st5⟩ := getS2 X4 hx hZ hown (host := "") (Or.inl (hw _ (List.mem_of_getElem? (i := 10) rfl))) Via.refl e4 S_F (g := (mkF m 12 #[.val (.ref o0), .val (.int p1), .val (.int (((0 : Int32) + (1 : Int32)) + (1 : Int32))), .val (.int (g (((0 : Int32) + (1 : Int32)) + (1 : Int32)).toNatClampNeg))] [(.int (g (((0 : Int32) + (1 : Int32)) + (1 : Int32)).toNatClampNeg))])) rfl (hb hby d1_12)
                refine Go.step (g' := (mkF m 15 #[.val (.ref o0), .val (.int p1), .val (.int (((0 : Int32) + (1 : Int32)) + (1 : Int32))), .val (.int (g (((0 : Int32) + (1 : Int32)) + (1 : Int32)).toNatClampNeg))] [(.ref wF), (.int (g (((0 : Int32) + (1 : Int32)) + (1 : Int32)).toNatClampNeg))])) st5 ?_
                refine Go.step (g' := (mkF m 16 #[.val (.ref o0), .val (.int p1), .val (.int (((0 : Int32) + (1 : Int32)) + (1 : Int32))), .val (.int (g (((0 : Int32) + (1 : Int32)) + (1 : Int32)).toNatClampNeg))] [(.int (256 : Int32)), (.int (g (((0 : Int32) + (1 : Int32)) + (1 : Int32)).toNatClampNeg))])) (fun _ k => getLen X5 hx hZ e5 A_F rfl (gf := (mkF m 15 #[.val (.ref o0), .val (.int p1), .val (.int (((0 : Int32) + (1 : Int32)) + (1 : Int32))), .val (.int (g (((0 : Int32) + (1 : Int32)) + (1 : Int32)).toNatClampNeg))] [(.ref wF), (.int (g (((0 : Int32) + (1 : Int32)) + (1 : Int32)).toNatClampNeg))])) rfl rfl (hb hby d1_15) k) ?_
                have t28_c2 : ∀ (T_28_c2 : State) (X_28_c2 : Stand p l e ({ frames := 0, cells := 0, slots := 0, locals := 0 } : Room) s m #[(.ref o0), (.int p1)] below meth c T_28_c2 ([] : List Loc) 0 0) (e_28_c2 : T_28_c2.heap = h0), Go p e below s 0 0 (PureQ (.int f1_28_c2) h0) T_28_c2 (mkF m 28 #[.val (.ref o0), .val (.int p1), .val (.int (((0 : Int32) + (1 : Int32)) + (1 : Int32))), .val (.int (g (((0 : Int32) + (1 : Int32)) + (1 : Int32)).toNatClampNeg))] []) := by
                  intro T_28_c2 X_28_c2 e_28_c2
                  refine Go.step (g' := (mkF m 29 #[.val (.ref o0), .val (.int p1), .val (.int (((0 : Int32) + (1 : Int32)) + (1 : Int32))), .val (.int (g (((0 : Int32) + (1 : Int32)) + (1 : Int32)).toNatClampNeg))] [(.int (1 : Int32))])) (fun _ k => XS.iconst X_28_c2.here hx rfl (hb hby d1_28) k) ?_
                  exact Go.retN X_28_c2 hx hlk (t := .boolean) Bd.returns (by simp) (hb hby d1_29) (by decide) (by decide) ⟨rfl, rfl, e_28_c2⟩
                by_cases hc16_c2 : (g (((0 : Int32) + (1 : Int32)) + (1 : Int32)).toNatClampNeg) < (256 : Int32)
                · rw [show (f1_7_c2 p1 g fw) = (f1_19_c2 p1 g fw) from if_pos hc16_c2]
                  refine Go.step (g' := (mkF m 19 #[.val (.ref o0), .val (.int p1), .val (.int (((0 : Int32) + (1 : Int32)) + (1 : Int32))), .val (.int (g (((0 : Int32) + (1 : Int32)) + (1 : Int32)).toNatClampNeg))] [])) (fun _ k => XS.icmpNo X5.here hx rfl (hb hby d1_16) rfl (tlt hc16_c2).2.1 k) ?_
                  obtain ⟨T6, X6, e6, st6⟩ := getS2 X5 hx hZ hown (host := "") (Or.inl (hw _ (List.mem_of_getElem? (i := 10) rfl))) Via.refl e5 S_F (g := (mkF m 19 #[.val (.ref o0), .val (.int p1), .val (.int (((0 : Int32) + (1 : Int32)) + (1 : Int32))), .val (.int (g (((0 : Int32) + (1 : Int32)) + (1 : Int32)).toNatClampNeg))] [])) rfl (hb hby d1_19)
                  refine Go.step (g' := (mkF m 22 #[.val (.ref o0), .val (.int p1), .val (.int (((0 : Int32) + (1 : Int32)) + (1 : Int32))), .val (.int (g (((0 : Int32) + (1 : Int32)) + (1 : Int32)).toNatClampNeg))] [(.ref wF)])) st6 ?_
                  refine Go.step (g' := (mkF m 23 #[.val (.ref o0), .val (.int p1), .val (.int (((0 : Int32) + (1 : Int32)) + (1 : Int32))), .val (.int (g (((0 : Int32) + (1 : Int32)) + (1 : Int32)).toNatClampNeg))] [(.int (g (((0 : Int32) + (1 : Int32)) + (1 : Int32)).toNatClampNeg)), (.ref wF)])) (fun _ k => XS.iloadN X6.here hx rfl (hb hby d1_22) rfl  k) ?_
                  refine Go.step (g' := (mkF m 24 #[.val (.ref o0), .val (.int p1), .val (.int (((0 : Int32) + (1 : Int32)) + (1 : Int32))), .val (.int (g (((0 : Int32) + (1 : Int32)) + (1 : Int32)).toNatClampNeg))] [(.int (fw (g (((0 : Int32) + (1 : Int32)) + (1 : Int32)).toNatClampNeg).toNatClampNeg))])) (fun _ k => getAC X6 hx hZ e6 A_F (j := (g (((0 : Int32) + (1 : Int32)) + (1 : Int32)).toNatClampNeg)) (own_in256 _ (hpos _) hc16_c2) (gf := (mkF m 23 #[.val (.ref o0), .val (.int p1), .val (.int (((0 : Int32) + (1 : Int32)) + (1 : Int32))), .val (.int (g (((0 : Int32) + (1 : Int32)) + (1 : Int32)).toNatClampNeg))] [(.int (g (((0 : Int32) + (1 : Int32)) + (1 : Int32)).toNatClampNeg)), (.ref wF)])) rfl rfl (hb hby d1_23) k) ?_
                  refine Go.step (g' := (mkF m 25 #[.val (.ref o0), .val (.int p1), .val (.int (((0 : Int32) + (1 : Int32)) + (1 : Int32))), .val (.int (g (((0 : Int32) + (1 : Int32)) + (1 : Int32)).toNatClampNeg))] [(.int (g (((0 : Int32) + (1 : Int32)) + (1 : Int32)).toNatClampNeg)), (.int (fw (g (((0 : Int32) + (1 : Int32)) + (1 : Int32)).toNatClampNeg).toNatClampNeg))])) (fun _ k => XS.iloadN X6.here hx rfl (hb hby d1_24) rfl  k) ?_
                  by_cases hc25_c2 : (fw (g (((0 : Int32) + (1 : Int32)) + (1 : Int32)).toNatClampNeg).toNatClampNeg) = (g (((0 : Int32) + (1 : Int32)) + (1 : Int32)).toNatClampNeg)
                  · rw [show (f1_19_c2 p1 g fw) = (f1_30_c2 p1 g fw) from if_pos hc25_c2]
                    refine Go.step (g' := (mkF m 30 #[.val (.ref o0), .val (.int p1), .val (.int (((0 : Int32) + (1 : Int32)) + (1 : Int32))), .val (.int (g (((0 : Int32) + (1 : Int32)) + (1 : Int32)).toNatClampNeg))] [])) (fun _ k => XS.icmpYes X6.here hx rfl (pc0 := 25) (pc' := 30) rfl (hb hby d1_25) rfl (teq hc25_c2).1 (by decide) (by decide) k) ?_
                    refine Go.step (g' := (mkF m 33 #[.val (.ref o0), .val (.int p1), .val (.int ((((0 : Int32) + (1 : Int32)) + (1 : Int32)) + (1 : Int32))), .val (.int (g (((0 : Int32) + (1 : Int32)) + (1 : Int32)).toNatClampNeg))] [])) (fun _ k => XS.iinc X6.here hx rfl (hb hby d1_30) rfl (l' := #[.val (.ref o0), .val (.int p1), .val (.int ((((0 : Int32) + (1 : Int32)) + (1 : Int32)) + (1 : Int32))), .val (.int (g (((0 : Int32) + (1 : Int32)) + (1 : Int32)).toNatClampNeg))]) rfl k) ?_
                    refine Go.step (g' := (mkF m 2 #[.val (.ref o0), .val (.int p1), .val (.int ((((0 : Int32) + (1 : Int32)) + (1 : Int32)) + (1 : Int32))), .val (.int (g (((0 : Int32) + (1 : Int32)) + (1 : Int32)).toNatClampNeg))] [])) (fun _ k => XS.goto X6.here hx rfl (pc0 := 33) (pc' := 2) rfl (hb hby d1_33) (by decide) (by decide) k) ?_
                    rw [show (f1_30_c2 p1 g fw) = (f1_2_c3 p1 g fw) from rfl]
                    refine Go.step (g' := (mkF m 3 #[.val (.ref o0), .val (.int p1), .val (.int ((((0 : Int32) + (1 : Int32)) + (1 : Int32)) + (1 : Int32))), .val (.int (g (((0 : Int32) + (1 : Int32)) + (1 : Int32)).toNatClampNeg))] [(.int ((((0 : Int32) + (1 : Int32)) + (1 : Int32)) + (1 : Int32)))])) (fun _ k => XS.iloadN X6.here hx rfl (hb hby d1_2) rfl  k) ?_
                    refine Go.step (g' := (mkF m 4 #[.val (.ref o0), .val (.int p1), .val (.int ((((0 : Int32) + (1 : Int32)) + (1 : Int32)) + (1 : Int32))), .val (.int (g (((0 : Int32) + (1 : Int32)) + (1 : Int32)).toNatClampNeg))] [(.int p1), (.int ((((0 : Int32) + (1 : Int32)) + (1 : Int32)) + (1 : Int32)))])) (fun _ k => XS.iloadN X6.here hx rfl (hb hby d1_3) rfl  k) ?_
                    by_cases hc4_c3 : ((((0 : Int32) + (1 : Int32)) + (1 : Int32)) + (1 : Int32)) < p1
                    · rw [show (f1_2_c3 p1 g fw) = (f1_7_c3 p1 g fw) from if_pos hc4_c3]
                      refine Go.step (g' := (mkF m 7 #[.val (.ref o0), .val (.int p1), .val (.int ((((0 : Int32) + (1 : Int32)) + (1 : Int32)) + (1 : Int32))), .val (.int (g (((0 : Int32) + (1 : Int32)) + (1 : Int32)).toNatClampNeg))] [])) (fun _ k => XS.icmpNo X6.here hx rfl (hb hby d1_4) rfl (tlt hc4_c3).2.1 k) ?_
                      refine Go.step (g' := (mkF m 8 #[.val (.ref o0), .val (.int p1), .val (.int ((((0 : Int32) + (1 : Int32)) + (1 : Int32)) + (1 : Int32))), .val (.int (g (((0 : Int32) + (1 : Int32)) + (1 : Int32)).toNatClampNeg))] [(.ref o0)])) (fun _ k => XS.aloadN X6.here hx rfl (hb hby d1_7) rfl rfl  k) ?_
                      refine Go.step (g' := (mkF m 9 #[.val (.ref o0), .val (.int p1), .val (.int ((((0 : Int32) + (1 : Int32)) + (1 : Int32)) + (1 : Int32))), .val (.int (g (((0 : Int32) + (1 : Int32)) + (1 : Int32)).toNatClampNeg))] [(.int ((((0 : Int32) + (1 : Int32)) + (1 : Int32)) + (1 : Int32))), (.ref o0)])) (fun _ k => XS.iloadN X6.here hx rfl (hb hby d1_8) rfl  k) ?_
                      refine Go.step (g' := (mkF m 10 #[.val (.ref o0), .val (.int p1), .val (.int ((((0 : Int32) + (1 : Int32)) + (1 : Int32)) + (1 : Int32))), .val (.int (g (((0 : Int32) + (1 : Int32)) + (1 : Int32)).toNatClampNeg))] [(.int (g ((((0 : Int32) + (1 : Int32)) + (1 : Int32)) + (1 : Int32)).toNatClampNeg))])) (fun _ k => getAC X6 hx hZ e6 A_T (j := ((((0 : Int32) + (1 : Int32)) + (1 : Int32)) + (1 : Int32))) (by decide) (gf := (mkF m 9 #[.val (.ref o0), .val (.int p1), .val (.int ((((0 : Int32) + (1 : Int32)) + (1 : Int32)) + (1 : Int32))), .val (.int (g (((0 : Int32) + (1 : Int32)) + (1 : Int32)).toNatClampNeg))] [(.int ((((0 : Int32) + (1 : Int32)) + (1 : Int32)) + (1 : Int32))), (.ref o0)])) rfl rfl (hb hby d1_9) k) ?_
                      refine Go.step (g' := (mkF m 11 #[.val (.ref o0), .val (.int p1), .val (.int ((((0 : Int32) + (1 : Int32)) + (1 : Int32)) + (1 : Int32))), .val (.int (g ((((0 : Int32) + (1 : Int32)) + (1 : Int32)) + (1 : Int32)).toNatClampNeg))] [])) (fun _ k => XS.istoreN X6.here hx rfl (hb hby d1_10) rfl (l' := #[.val (.ref o0), .val (.int p1), .val (.int ((((0 : Int32) + (1 : Int32)) + (1 : Int32)) + (1 : Int32))), .val (.int (g ((((0 : Int32) + (1 : Int32)) + (1 : Int32)) + (1 : Int32)).toNatClampNeg))]) rfl k) ?_
                      refine Go.step (g' := (mkF m 12 #[.val (.ref o0), .val (.int p1), .val (.int ((((0 : Int32) + (1 : Int32)) + (1 : Int32)) + (1 : Int32))), .val (.int (g ((((0 : Int32) + (1 : Int32)) + (1 : Int32)) + (1 : Int32)).toNatClampNeg))] [(.int (g ((((0 : Int32) + (1 : Int32)) + (1 : Int32)) + (1 : Int32)).toNatClampNeg))])) (fun _ k => XS.iloadN X6.here hx rfl (hb hby d1_11) rfl  k) ?_
                      obtain ⟨T7, X7, e7, st7⟩ := getS2 X6 hx hZ hown (host := "") (Or.inl (hw _ (List.mem_of_getElem? (i := 10) rfl))) Via.refl e6 S_F (g := (mkF m 12 #[.val (.ref o0), .val (.int p1), .val (.int ((((0 : Int32) + (1 : Int32)) + (1 : Int32)) + (1 : Int32))), .val (.int (g ((((0 : Int32) + (1 : Int32)) + (1 : Int32)) + (1 : Int32)).toNatClampNeg))] [(.int (g ((((0 : Int32) + (1 : Int32)) + (1 : Int32)) + (1 : Int32)).toNatClampNeg))])) rfl (hb hby d1_12)
                      refine Go.step (g' := (mkF m 15 #[.val (.ref o0), .val (.int p1), .val (.int ((((0 : Int32) + (1 : Int32)) + (1 : Int32)) + (1 : Int32))), .val (.int (g ((((0 : Int32) + (1 : Int32)) + (1 : Int32)) + (1 : Int32)).toNatClampNeg))] [(.ref wF), (.int (g ((((0 : Int32) + (1 : Int32)) + (1 : Int32)) + (1 : Int32)).toNatClampNeg))])) st7 ?_
                      refine Go.step (g' := (mkF m 16 #[.val (.ref o0), .val (.int p1), .val (.int ((((0 : Int32) + (1 : Int32)) + (1 : Int32)) + (1 : Int32))), .val (.int (g ((((0 : Int32) + (1 : Int32)) + (1 : Int32)) + (1 : Int32)).toNatClampNeg))] [(.int (256 : Int32)), (.int (g ((((0 : Int32) + (1 : Int32)) + (1 : Int32)) + (1 : Int32)).toNatClampNeg))])) (fun _ k => getLen X7 hx hZ e7 A_F rfl (gf := (mkF m 15 #[.val (.ref o0), .val (.int p1), .val (.int ((((0 : Int32) + (1 : Int32)) + (1 : Int32)) + (1 : Int32))), .val (.int (g ((((0 : Int32) + (1 : Int32)) + (1 : Int32)) + (1 : Int32)).toNatClampNeg))] [(.ref wF), (.int (g ((((0 : Int32) + (1 : Int32)) + (1 : Int32)) + (1 : Int32)).toNatClampNeg))])) rfl rfl (hb hby d1_15) k) ?_
                      have t28_c3 : ∀ (T_28_c3 : State) (X_28_c3 : Stand p l e ({ frames := 0, cells := 0, slots := 0, locals := 0 } : Room) s m #[(.ref o0), (.int p1)] below meth c T_28_c3 ([] : List Loc) 0 0) (e_28_c3 : T_28_c3.heap = h0), Go p e below s 0 0 (PureQ (.int f1_28_c3) h0) T_28_c3 (mkF m 28 #[.val (.ref o0), .val (.int p1), .val (.int ((((0 : Int32) + (1 : Int32)) + (1 : Int32)) + (1 : Int32))), .val (.int (g ((((0 : Int32) + (1 : Int32)) + (1 : Int32)) + (1 : Int32)).toNatClampNeg))] []) := by
                        intro T_28_c3 X_28_c3 e_28_c3
                        refine Go.step (g' := (mkF m 29 #[.val (.ref o0), .val (.int p1), .val (.int ((((0 : Int32) + (1 : Int32)) + (1 : Int32)) + (1 : Int32))), .val (.int (g ((((0 : Int32) + (1 : Int32)) + (1 : Int32)) + (1 : Int32)).toNatClampNeg))] [(.int (1 : Int32))])) (fun _ k => XS.iconst X_28_c3.here hx rfl (hb hby d1_28) k) ?_
                        exact Go.retN X_28_c3 hx hlk (t := .boolean) Bd.returns (by simp) (hb hby d1_29) (by decide) (by decide) ⟨rfl, rfl, e_28_c3⟩
                      by_cases hc16_c3 : (g ((((0 : Int32) + (1 : Int32)) + (1 : Int32)) + (1 : Int32)).toNatClampNeg) < (256 : Int32)
                      · rw [show (f1_7_c3 p1 g fw) = (f1_19_c3 p1 g fw) from if_pos hc16_c3]
                        refine Go.step (g' := (mkF m 19 #[.val (.ref o0), .val (.int p1), .val (.int ((((0 : Int32) + (1 : Int32)) + (1 : Int32)) + (1 : Int32))), .val (.int (g ((((0 : Int32) + (1 : Int32)) + (1 : Int32)) + (1 : Int32)).toNatClampNeg))] [])) (fun _ k => XS.icmpNo X7.here hx rfl (hb hby d1_16) rfl (tlt hc16_c3).2.1 k) ?_
                        obtain ⟨T8, X8, e8, st8⟩ := getS2 X7 hx hZ hown (host := "") (Or.inl (hw _ (List.mem_of_getElem? (i := 10) rfl))) Via.refl e7 S_F (g := (mkF m 19 #[.val (.ref o0), .val (.int p1), .val (.int ((((0 : Int32) + (1 : Int32)) + (1 : Int32)) + (1 : Int32))), .val (.int (g ((((0 : Int32) + (1 : Int32)) + (1 : Int32)) + (1 : Int32)).toNatClampNeg))] [])) rfl (hb hby d1_19)
                        refine Go.step (g' := (mkF m 22 #[.val (.ref o0), .val (.int p1), .val (.int ((((0 : Int32) + (1 : Int32)) + (1 : Int32)) + (1 : Int32))), .val (.int (g ((((0 : Int32) + (1 : Int32)) + (1 : Int32)) + (1 : Int32)).toNatClampNeg))] [(.ref wF)])) st8 ?_
                        refine Go.step (g' := (mkF m 23 #[.val (.ref o0), .val (.int p1), .val (.int ((((0 : Int32) + (1 : Int32)) + (1 : Int32)) + (1 : Int32))), .val (.int (g ((((0 : Int32) + (1 : Int32)) + (1 : Int32)) + (1 : Int32)).toNatClampNeg))] [(.int (g ((((0 : Int32) + (1 : Int32)) + (1 : Int32)) + (1 : Int32)).toNatClampNeg)), (.ref wF)])) (fun _ k => XS.iloadN X8.here hx rfl (hb hby d1_22) rfl  k) ?_
                        refine Go.step (g' := (mkF m 24 #[.val (.ref o0), .val (.int p1), .val (.int ((((0 : Int32) + (1 : Int32)) + (1 : Int32)) + (1 : Int32))), .val (.int (g ((((0 : Int32) + (1 : Int32)) + (1 : Int32)) + (1 : Int32)).toNatClampNeg))] [(.int (fw (g ((((0 : Int32) + (1 : Int32)) + (1 : Int32)) + (1 : Int32)).toNatClampNeg).toNatClampNeg))])) (fun _ k => getAC X8 hx hZ e8 A_F (j := (g ((((0 : Int32) + (1 : Int32)) + (1 : Int32)) + (1 : Int32)).toNatClampNeg)) (own_in256 _ (hpos _) hc16_c3) (gf := (mkF m 23 #[.val (.ref o0), .val (.int p1), .val (.int ((((0 : Int32) + (1 : Int32)) + (1 : Int32)) + (1 : Int32))), .val (.int (g ((((0 : Int32) + (1 : Int32)) + (1 : Int32)) + (1 : Int32)).toNatClampNeg))] [(.int (g ((((0 : Int32) + (1 : Int32)) + (1 : Int32)) + (1 : Int32)).toNatClampNeg)), (.ref wF)])) rfl rfl (hb hby d1_23) k) ?_
                        refine Go.step (g' := (mkF m 25 #[.val (.ref o0), .val (.int p1), .val (.int ((((0 : Int32) + (1 : Int32)) + (1 : Int32)) + (1 : Int32))), .val (.int (g ((((0 : Int32) + (1 : Int32)) + (1 : Int32)) + (1 : Int32)).toNatClampNeg))] [(.int (g ((((0 : Int32) + (1 : Int32)) + (1 : Int32)) + (1 : Int32)).toNatClampNeg)), (.int (fw (g ((((0 : Int32) + (1 : Int32)) + (1 : Int32)) + (1 : Int32)).toNatClampNeg).toNatClampNeg))])) (fun _ k => XS.iloadN X8.here hx rfl (hb hby d1_24) rfl  k) ?_
                        by_cases hc25_c3 : (fw (g ((((0 : Int32) + (1 : Int32)) + (1 : Int32)) + (1 : Int32)).toNatClampNeg).toNatClampNeg) = (g ((((0 : Int32) + (1 : Int32)) + (1 : Int32)) + (1 : Int32)).toNatClampNeg)
                        · rw [show (f1_19_c3 p1 g fw) = (f1_30_c3 p1) from if_pos hc25_c3]
                          refine Go.step (g' := (mkF m 30 #[.val (.ref o0), .val (.int p1), .val (.int ((((0 : Int32) + (1 : Int32)) + (1 : Int32)) + (1 : Int32))), .val (.int (g ((((0 : Int32) + (1 : Int32)) + (1 : Int32)) + (1 : Int32)).toNatClampNeg))] [])) (fun _ k => XS.icmpYes X8.here hx rfl (pc0 := 25) (pc' := 30) rfl (hb hby d1_25) rfl (teq hc25_c3).1 (by decide) (by decide) k) ?_
                          refine Go.step (g' := (mkF m 33 #[.val (.ref o0), .val (.int p1), .val (.int (((((0 : Int32) + (1 : Int32)) + (1 : Int32)) + (1 : Int32)) + (1 : Int32))), .val (.int (g ((((0 : Int32) + (1 : Int32)) + (1 : Int32)) + (1 : Int32)).toNatClampNeg))] [])) (fun _ k => XS.iinc X8.here hx rfl (hb hby d1_30) rfl (l' := #[.val (.ref o0), .val (.int p1), .val (.int (((((0 : Int32) + (1 : Int32)) + (1 : Int32)) + (1 : Int32)) + (1 : Int32))), .val (.int (g ((((0 : Int32) + (1 : Int32)) + (1 : Int32)) + (1 : Int32)).toNatClampNeg))]) rfl k) ?_
                          refine Go.step (g' := (mkF m 2 #[.val (.ref o0), .val (.int p1), .val (.int (((((0 : Int32) + (1 : Int32)) + (1 : Int32)) + (1 : Int32)) + (1 : Int32))), .val (.int (g ((((0 : Int32) + (1 : Int32)) + (1 : Int32)) + (1 : Int32)).toNatClampNeg))] [])) (fun _ k => XS.goto X8.here hx rfl (pc0 := 33) (pc' := 2) rfl (hb hby d1_33) (by decide) (by decide) k) ?_
                          rw [show (f1_30_c3 p1) = (f1_2_c4 p1) from rfl]
                          refine Go.step (g' := (mkF m 3 #[.val (.ref o0), .val (.int p1), .val (.int (((((0 : Int32) + (1 : Int32)) + (1 : Int32)) + (1 : Int32)) + (1 : Int32))), .val (.int (g ((((0 : Int32) + (1 : Int32)) + (1 : Int32)) + (1 : Int32)).toNatClampNeg))] [(.int (((((0 : Int32) + (1 : Int32)) + (1 : Int32)) + (1 : Int32)) + (1 : Int32)))])) (fun _ k => XS.iloadN X8.here hx rfl (hb hby d1_2) rfl  k) ?_
                          refine Go.step (g' := (mkF m 4 #[.val (.ref o0), .val (.int p1), .val (.int (((((0 : Int32) + (1 : Int32)) + (1 : Int32)) + (1 : Int32)) + (1 : Int32))), .val (.int (g ((((0 : Int32) + (1 : Int32)) + (1 : Int32)) + (1 : Int32)).toNatClampNeg))] [(.int p1), (.int (((((0 : Int32) + (1 : Int32)) + (1 : Int32)) + (1 : Int32)) + (1 : Int32)))])) (fun _ k => XS.iloadN X8.here hx rfl (hb hby d1_3) rfl  k) ?_
                          by_cases hc4_c4 : (((((0 : Int32) + (1 : Int32)) + (1 : Int32)) + (1 : Int32)) + (1 : Int32)) < p1
                          · rw [show (f1_2_c4 p1) = f1_7_c4 from if_pos hc4_c4]
                            refine Go.step (g' := (mkF m 7 #[.val (.ref o0), .val (.int p1), .val (.int (((((0 : Int32) + (1 : Int32)) + (1 : Int32)) + (1 : Int32)) + (1 : Int32))), .val (.int (g ((((0 : Int32) + (1 : Int32)) + (1 : Int32)) + (1 : Int32)).toNatClampNeg))] [])) (fun _ k => XS.icmpNo X8.here hx rfl (hb hby d1_4) rfl (tlt hc4_c4).2.1 k) ?_
                            exact absurd hc4_c4 (by exact hlen)
                          · rw [show (f1_2_c4 p1) = f1_36_c4 from if_neg hc4_c4]
                            refine Go.step (g' := (mkF m 36 #[.val (.ref o0), .val (.int p1), .val (.int (((((0 : Int32) + (1 : Int32)) + (1 : Int32)) + (1 : Int32)) + (1 : Int32))), .val (.int (g ((((0 : Int32) + (1 : Int32)) + (1 : Int32)) + (1 : Int32)).toNatClampNeg))] [])) (fun _ k => XS.icmpYes X8.here hx rfl (pc0 := 4) (pc' := 36) rfl (hb hby d1_4) rfl (flt hc4_c4).2.1 (by decide) (by decide) k) ?_
                            refine Go.step (g' := (mkF m 37 #[.val (.ref o0), .val (.int p1), .val (.int (((((0 : Int32) + (1 : Int32)) + (1 : Int32)) + (1 : Int32)) + (1 : Int32))), .val (.int (g ((((0 : Int32) + (1 : Int32)) + (1 : Int32)) + (1 : Int32)).toNatClampNeg))] [(.int (0 : Int32))])) (fun _ k => XS.iconst X8.here hx rfl (hb hby d1_36) k) ?_
                            exact Go.retN X8 hx hlk (t := .boolean) Bd.returns (by simp) (hb hby d1_37) (by decide) (by decide) ⟨rfl, rfl, e8⟩
                        · rw [show (f1_19_c3 p1 g fw) = f1_28_c3 from if_neg hc25_c3]
                          refine Go.step (g' := (mkF m 28 #[.val (.ref o0), .val (.int p1), .val (.int ((((0 : Int32) + (1 : Int32)) + (1 : Int32)) + (1 : Int32))), .val (.int (g ((((0 : Int32) + (1 : Int32)) + (1 : Int32)) + (1 : Int32)).toNatClampNeg))] [])) (fun _ k => XS.icmpNo X8.here hx rfl (hb hby d1_25) rfl (feq hc25_c3).1 k) ?_
                          exact t28_c3 T8 X8 e8
                      · rw [show (f1_7_c3 p1 g fw) = f1_28_c3 from if_neg hc16_c3]
                        refine Go.step (g' := (mkF m 28 #[.val (.ref o0), .val (.int p1), .val (.int ((((0 : Int32) + (1 : Int32)) + (1 : Int32)) + (1 : Int32))), .val (.int (g ((((0 : Int32) + (1 : Int32)) + (1 : Int32)) + (1 : Int32)).toNatClampNeg))] [])) (fun _ k => XS.icmpYes X7.here hx rfl (pc0 := 16) (pc' := 28) rfl (hb hby d1_16) rfl (flt hc16_c3).2.1 (by decide) (by decide) k) ?_
                        exact t28_c3 T7 X7 e7
                    · rw [show (f1_2_c3 p1 g fw) = f1_36_c3 from if_neg hc4_c3]
                      refine Go.step (g' := (mkF m 36 #[.val (.ref o0), .val (.int p1), .val (.int ((((0 : Int32) + (1 : Int32)) + (1 : Int32)) + (1 : Int32))), .val (.int (g (((0 : Int32) + (1 : Int32)) + (1 : Int32)).toNatClampNeg))] [])) (fun _ k => XS.icmpYes X6.here hx rfl (pc0 := 4) (pc' := 36) rfl (hb hby d1_4) rfl (flt hc4_c3).2.1 (by decide) (by decide) k) ?_
                      refine Go.step (g' := (mkF m 37 #[.val (.ref o0), .val (.int p1), .val (.int ((((0 : Int32) + (1 : Int32)) + (1 : Int32)) + (1 : Int32))), .val (.int (g (((0 : Int32) + (1 : Int32)) + (1 : Int32)).toNatClampNeg))] [(.int (0 : Int32))])) (fun _ k => XS.iconst X6.here hx rfl (hb hby d1_36) k) ?_
                      exact Go.retN X6 hx hlk (t := .boolean) Bd.returns (by simp) (hb hby d1_37) (by decide) (by decide) ⟨rfl, rfl, e6⟩
                  · rw [show (f1_19_c2 p1 g fw) = f1_28_c2 from if_neg hc25_c2]
                    refine Go.step (g' := (mkF m 28 #[.val (.ref o0), .val (.int p1), .val (.int (((0 : Int32) + (1 : Int32)) + (1 : Int32))), .val (.int (g (((0 : Int32) + (1 : Int32)) + (1 : Int32)).toNatClampNeg))] [])) (fun _ k => XS.icmpNo X6.here hx rfl (hb hby d1_25) rfl (feq hc25_c2).1 k) ?_
                    exact t28_c2 T6 X6 e6
                · rw [show (f1_7_c2 p1 g fw) = f1_28_c2 from if_neg hc16_c2]
                  refine Go.step (g' := (mkF m 28 #[.val (.ref o0), .val (.int p1), .val (.int (((0 : Int32) + (1 : Int32)) + (1 : Int32))), .val (.int (g (((0 : Int32) + (1 : Int32)) + (1 : Int32)).toNatClampNeg))] [])) (fun _ k => XS.icmpYes X5.here hx rfl (pc0 := 16) (pc' := 28) rfl (hb hby d1_16) rfl (flt hc16_c2).2.1 (by decide) (by decide) k) ?_
                  exact t28_c2 T5 X5 e5
              · rw [show (f1_2_c2 p1 g fw) = f1_36_c2 from if_neg hc4_c2]
                refine Go.step (g' := (mkF m 36 #[.val (.ref o0), .val (.int p1), .val (.int (((0 : Int32) + (1 : Int32)) + (1 : Int32))), .val (.int (g ((0 : Int32) + (1 : Int32)).toNatClampNeg))] [])) (fun _ k => XS.icmpYes X4.here hx rfl (pc0 := 4) (pc' := 36) rfl (hb hby d1_4) rfl (flt hc4_c2).2.1 (by decide) (by decide) k) ?_
                refine Go.step (g' := (mkF m 37 #[.val (.ref o0), .val (.int p1), .val (.int (((0 : Int32) + (1 : Int32)) + (1 : Int32))), .val (.int (g ((0 : Int32) + (1 : Int32)).toNatClampNeg))] [(.int (0 : Int32))])) (fun _ k => XS.iconst X4.here hx rfl (hb hby d1_36) k) ?_
                exact Go.retN X4 hx hlk (t := .boolean) Bd.returns (by simp) (hb hby d1_37) (by decide) (by decide) ⟨rfl, rfl, e4⟩
            · rw [show (f1_19_c1 p1 g fw) = f1_28_c1 from if_neg hc25_c1]
              refine Go.step (g' := (mkF m 28 #[.val (.ref o0), .val (.int p1), .val (.int ((0 : Int32) + (1 : Int32))), .val (.int (g ((0 : Int32) + (1 : Int32)).toNatClampNeg))] [])) (fun _ k => XS.icmpNo X4.here hx rfl (hb hby d1_25) rfl (feq hc25_c1).1 k) ?_
              exact t28_c1 T4 X4 e4
          · rw [show (f1_7_c1 p1 g fw) = f1_28_c1 from if_neg hc16_c1]
            refine Go.step (g' := (mkF m 28 #[.val (.ref o0), .val (.int p1), .val (.int ((0 : Int32) + (1 : Int32))), .val (.int (g ((0 : Int32) + (1 : Int32)).toNatClampNeg))] [])) (fun _ k => XS.icmpYes X3.here hx rfl (pc0 := 16) (pc' := 28) rfl (hb hby d1_16) rfl (flt hc16_c1).2.1 (by decide) (by decide) k) ?_
            exact t28_c1 T3 X3 e3
        · rw [show (f1_2_c1 p1 g fw) = f1_36_c1 from if_neg hc4_c1]
          refine Go.step (g' := (mkF m 36 #[.val (.ref o0), .val (.int p1), .val (.int ((0 : Int32) + (1 : Int32))), .val (.int (g (0 : Int32).toNatClampNeg))] [])) (fun _ k => XS.icmpYes X2.here hx rfl (pc0 := 4) (pc' := 36) rfl (hb hby d1_4) rfl (flt hc4_c1).2.1 (by decide) (by decide) k) ?_
          refine Go.step (g' := (mkF m 37 #[.val (.ref o0), .val (.int p1), .val (.int ((0 : Int32) + (1 : Int32))), .val (.int (g (0 : Int32).toNatClampNeg))] [(.int (0 : Int32))])) (fun _ k => XS.iconst X2.here hx rfl (hb hby d1_36) k) ?_
          exact Go.retN X2 hx hlk (t := .boolean) Bd.returns (by simp) (hb hby d1_37) (by decide) (by decide) ⟨rfl, rfl, e2⟩
      · rw [show (f1_19 p1 g fw) = f1_28 from if_neg hc25]
        refine Go.step (g' := (mkF m 28 #[.val (.ref o0), .val (.int p1), .val (.int (0 : Int32)), .val (.int (g (0 : Int32).toNatClampNeg))] [])) (fun _ k => XS.icmpNo X2.here hx rfl (hb hby d1_25) rfl (feq hc25).1 k) ?_
        exact t28 T2 X2 e2
    · rw [show (f1_7 p1 g fw) = f1_28 from if_neg hc16]
      refine Go.step (g' := (mkF m 28 #[.val (.ref o0), .val (.int p1), .val (.int (0 : Int32)), .val (.int (g (0 : Int32).toNatClampNeg))] [])) (fun _ k => XS.icmpYes X1.here hx rfl (pc0 := 16) (pc' := 28) rfl (hb hby d1_16) rfl (flt hc16).2.1 (by decide) (by decide) k) ?_
      exact t28 T1 X1 e1
  · rw [show (f1_2 p1 g fw) = f1_36 from if_neg hc4]
    refine Go.step (g' := (mkF m 36 #[.val (.ref o0), .val (.int p1), .val (.int (0 : Int32)), .unset] [])) (fun _ k => XS.icmpYes X0.here hx rfl (pc0 := 4) (pc' := 36) rfl (hb hby d1_4) rfl (flt hc4).2.1 (by decide) (by decide) k) ?_
    refine Go.step (g' := (mkF m 37 #[.val (.ref o0), .val (.int p1), .val (.int (0 : Int32)), .unset] [(.int (0 : Int32))])) (fun _ k => XS.iconst X0.here hx rfl (hb hby d1_36) k) ?_
    exact Go.retN X0 hx hlk (t := .boolean) Bd.returns (by simp) (hb hby d1_37) (by decide) (by decide) ⟨rfl, rfl, e0⟩
theorem d2_0 : decode method_2_code 0 = .ok (.iload_n 0, 1) := by decide +kernel
theorem d2_1 : decode method_2_code 1 = .ok (.bipush 97, 2) := by decide +kernel
theorem d2_3 : decode method_2_code 3 = .ok (.if_icmp .lt 11, 3) := by decide +kernel
theorem d2_6 : decode method_2_code 6 = .ok (.iload_n 0, 1) := by decide +kernel
theorem d2_7 : decode method_2_code 7 = .ok (.bipush 122, 2) := by decide +kernel
theorem d2_9 : decode method_2_code 9 = .ok (.if_icmp .gt 5, 3) := by decide +kernel
theorem d2_12 : decode method_2_code 12 = .ok (.iconst 1, 1) := by decide +kernel
theorem d2_13 : decode method_2_code 13 = .ok (.ireturn, 1) := by decide +kernel
theorem d2_14 : decode method_2_code 14 = .ok (.iload_n 0, 1) := by decide +kernel
theorem d2_15 : decode method_2_code 15 = .ok (.bipush 65, 2) := by decide +kernel
theorem d2_17 : decode method_2_code 17 = .ok (.if_icmp .lt 11, 3) := by decide +kernel
theorem d2_20 : decode method_2_code 20 = .ok (.iload_n 0, 1) := by decide +kernel
theorem d2_21 : decode method_2_code 21 = .ok (.bipush 90, 2) := by decide +kernel
theorem d2_23 : decode method_2_code 23 = .ok (.if_icmp .gt 5, 3) := by decide +kernel
theorem d2_26 : decode method_2_code 26 = .ok (.iconst 1, 1) := by decide +kernel
theorem d2_27 : decode method_2_code 27 = .ok (.ireturn, 1) := by decide +kernel
theorem d2_28 : decode method_2_code 28 = .ok (.iload_n 0, 1) := by decide +kernel
theorem d2_29 : decode method_2_code 29 = .ok (.bipush 48, 2) := by decide +kernel
theorem d2_31 : decode method_2_code 31 = .ok (.if_icmp .lt 11, 3) := by decide +kernel
theorem d2_34 : decode method_2_code 34 = .ok (.iload_n 0, 1) := by decide +kernel
theorem d2_35 : decode method_2_code 35 = .ok (.bipush 57, 2) := by decide +kernel
theorem d2_37 : decode method_2_code 37 = .ok (.if_icmp .gt 5, 3) := by decide +kernel
theorem d2_40 : decode method_2_code 40 = .ok (.iconst 1, 1) := by decide +kernel
theorem d2_41 : decode method_2_code 41 = .ok (.ireturn, 1) := by decide +kernel
theorem d2_42 : decode method_2_code 42 = .ok (.iload_n 0, 1) := by decide +kernel
theorem d2_43 : decode method_2_code 43 = .ok (.bipush 32, 2) := by decide +kernel
theorem d2_45 : decode method_2_code 45 = .ok (.if_icmp .eq 63, 3) := by decide +kernel
theorem d2_48 : decode method_2_code 48 = .ok (.iload_n 0, 1) := by decide +kernel
theorem d2_49 : decode method_2_code 49 = .ok (.bipush 46, 2) := by decide +kernel
theorem d2_51 : decode method_2_code 51 = .ok (.if_icmp .eq 57, 3) := by decide +kernel
theorem d2_54 : decode method_2_code 54 = .ok (.iload_n 0, 1) := by decide +kernel
theorem d2_55 : decode method_2_code 55 = .ok (.bipush 44, 2) := by decide +kernel
theorem d2_57 : decode method_2_code 57 = .ok (.if_icmp .eq 51, 3) := by decide +kernel
theorem d2_60 : decode method_2_code 60 = .ok (.iload_n 0, 1) := by decide +kernel
theorem d2_61 : decode method_2_code 61 = .ok (.bipush 45, 2) := by decide +kernel
theorem d2_63 : decode method_2_code 63 = .ok (.if_icmp .eq 45, 3) := by decide +kernel
theorem d2_66 : decode method_2_code 66 = .ok (.iload_n 0, 1) := by decide +kernel
theorem d2_67 : decode method_2_code 67 = .ok (.bipush 47, 2) := by decide +kernel
theorem d2_69 : decode method_2_code 69 = .ok (.if_icmp .eq 39, 3) := by decide +kernel
theorem d2_72 : decode method_2_code 72 = .ok (.iload_n 0, 1) := by decide +kernel
theorem d2_73 : decode method_2_code 73 = .ok (.bipush 43, 2) := by decide +kernel
theorem d2_75 : decode method_2_code 75 = .ok (.if_icmp .eq 33, 3) := by decide +kernel
theorem d2_78 : decode method_2_code 78 = .ok (.iload_n 0, 1) := by decide +kernel
theorem d2_79 : decode method_2_code 79 = .ok (.bipush 63, 2) := by decide +kernel
theorem d2_81 : decode method_2_code 81 = .ok (.if_icmp .eq 27, 3) := by decide +kernel
theorem d2_84 : decode method_2_code 84 = .ok (.iload_n 0, 1) := by decide +kernel
theorem d2_85 : decode method_2_code 85 = .ok (.bipush 58, 2) := by decide +kernel
theorem d2_87 : decode method_2_code 87 = .ok (.if_icmp .eq 21, 3) := by decide +kernel
theorem d2_90 : decode method_2_code 90 = .ok (.iload_n 0, 1) := by decide +kernel
theorem d2_91 : decode method_2_code 91 = .ok (.bipush 40, 2) := by decide +kernel
theorem d2_93 : decode method_2_code 93 = .ok (.if_icmp .eq 15, 3) := by decide +kernel
theorem d2_96 : decode method_2_code 96 = .ok (.iload_n 0, 1) := by decide +kernel
theorem d2_97 : decode method_2_code 97 = .ok (.bipush 41, 2) := by decide +kernel
theorem d2_99 : decode method_2_code 99 = .ok (.if_icmp .eq 9, 3) := by decide +kernel
theorem d2_102 : decode method_2_code 102 = .ok (.iload_n 0, 1) := by decide +kernel
theorem d2_103 : decode method_2_code 103 = .ok (.bipush 39, 2) := by decide +kernel
theorem d2_105 : decode method_2_code 105 = .ok (.if_icmp .ne 7, 3) := by decide +kernel
theorem d2_108 : decode method_2_code 108 = .ok (.iconst 1, 1) := by decide +kernel
theorem d2_109 : decode method_2_code 109 = .ok (.goto 4, 3) := by decide +kernel
theorem d2_112 : decode method_2_code 112 = .ok (.iconst 0, 1) := by decide +kernel
theorem d2_113 : decode method_2_code 113 = .ok (.ireturn, 1) := by decide +kernel
theorem pn_2 : plainName "com/example/zahlwerk/zahlwerk/rules/ImpayCharactersChangedPinLaw" = true := by first | (simp [plainName, overriddenIn]; done) | decide +kernel
theorem ef_2 (m : MethodId) (p0 : Int32) : entryFrame m #[(.int p0)] 1 = mkF m 0 #[.val (.int p0)] [] := by first | (simp [entryFrame, mkF, argsToLocals, Value.category]; done) | rfl
def f2_113 (v113_s0 : Int32) : Int32 := (nar .boolean v113_s0)
def f2_108 : Int32 := (f2_113 (1 : Int32))
def f2_112 : Int32 := (f2_113 (0 : Int32))
def f2_102 (p0 : Int32) : Int32 := if p0 = (39 : Int32) then f2_108 else f2_112
def f2_96 (p0 : Int32) : Int32 := if p0 = (41 : Int32) then f2_108 else (f2_102 p0)
def f2_90 (p0 : Int32) : Int32 := if p0 = (40 : Int32) then f2_108 else (f2_96 p0)
def f2_84 (p0 : Int32) : Int32 := if p0 = (58 : Int32) then f2_108 else (f2_90 p0)
def f2_78 (p0 : Int32) : Int32 := if p0 = (63 : Int32) then f2_108 else (f2_84 p0)
def f2_72 (p0 : Int32) : Int32 := if p0 = (43 : Int32) then f2_108 else (f2_78 p0)
def f2_66 (p0 : Int32) : Int32 := if p0 = (47 : Int32) then f2_108 else (f2_72 p0)
def f2_60 (p0 : Int32) : Int32 := if p0 = (45 : Int32) then f2_108 else (f2_66 p0)
def f2_54 (p0 : Int32) : Int32 := if p0 = (44 : Int32) then f2_108 else (f2_60 p0)
def f2_48 (p0 : Int32) : Int32 := if p0 = (46 : Int32) then f2_108 else (f2_54 p0)
def f2_42 (p0 : Int32) : Int32 := if p0 = (32 : Int32) then f2_108 else (f2_48 p0)
def f2_40 : Int32 := (nar .boolean (1 : Int32))
def f2_34 (p0 : Int32) : Int32 := if (57 : Int32) < p0 then (f2_42 p0) else f2_40
def f2_28 (p0 : Int32) : Int32 := if p0 < (48 : Int32) then (f2_42 p0) else (f2_34 p0)
def f2_26 : Int32 := (nar .boolean (1 : Int32))
def f2_20 (p0 : Int32) : Int32 := if (90 : Int32) < p0 then (f2_28 p0) else f2_26
def f2_14 (p0 : Int32) : Int32 := if p0 < (65 : Int32) then (f2_28 p0) else (f2_20 p0)
def f2_12 : Int32 := (nar .boolean (1 : Int32))
def f2_6 (p0 : Int32) : Int32 := if (122 : Int32) < p0 then (f2_14 p0) else f2_12
def f2_0 (p0 : Int32) : Int32 := if p0 < (97 : Int32) then (f2_14 p0) else (f2_6 p0)
set_option maxRecDepth 65536 in
set_option maxHeartbeats 40000000 in
theorem rm2 (l : Launch) (Z : State) (a0 : Array Value) (hw : ∀ d ∈ tables_1, d.before a0 Z = true) (ws : List Jvm.Cond) (p0 : Int32)  (h0 : Heap) :
    MetFree l (⟨"com/example/zahlwerk/zahlwerk/rules/ImpayCharactersChangedPinLaw", "kept", "(C)Z"⟩ : MethodName) (head1 (Jvm.Cond.code (⟨"com/example/zahlwerk/zahlwerk/rules/ImpayCharactersChangedPinLaw", "kept", "(C)Z"⟩ : MethodName) method_2_code 1 (some .boolean) :: ws) ({ frames := 0, cells := 0, slots := 0, locals := 0 } : Room)) (fun a U => a = #[(.int p0)] ∧ Z.Warmed39 U.vm ∧ U.heap = h0) (fun _ _ _ _ _ => True) (fun _ U o U' => ∃ v L, o = .returned v ∧ (PureQ (.int (f2_0 p0)) h0) v U'.heap L ∧ FrameEnd U o U' L ({ frames := 0, cells := 0, slots := 0, locals := 0 } : Room).cells ({ frames := 0, cells := 0, slots := 0, locals := 0 } : Room).slots) := by
  refine MetFree.of_bodySF (plainFor_of_name pn_2) hisR ?_
  intro p e s m args below meth c s₁ Bd hml0 hP hK
  obtain ⟨rfl, hZ, hh⟩ := hP
  have hx := Bd.exec
  have hby := Bd.bytes
  have hlk : meth.locks = false := BodyLoose.notSynchronized Bd
  have hml : c.maxLocals = 1 := hml0
  have hown : s.vm.findClass "com/example/zahlwerk/zahlwerk/rules/ImpayCharactersChangedPinLaw" = some m.cls := findClass_of_methodNamed Bd.named
  have hnm := (name_of_methodNamed Bd.named Bd.method).1
  have X0 : Stand p l e ({ frames := 0, cells := 0, slots := 0, locals := 0 } : Room) s m #[(.int p0)] below meth c s₁ ([] : List Loc) 0 0 := Stand.of_body Bd
  have e0 : s₁.heap = h0 := by rw [← hh, Bd.state]; rfl
  show Go p e below s 0 0 (PureQ (.int (f2_0 p0)) h0) s₁ (entryFrame m #[(.int p0)] 1)
  rw [ef_2 m p0]
  refine Go.step (g' := (mkF m 1 #[.val (.int p0)] [(.int p0)])) (fun _ k => XS.iloadN X0.here hx rfl (hb hby d2_0) rfl  k) ?_
  refine Go.step (g' := (mkF m 3 #[.val (.int p0)] [(.int (97 : Int32)), (.int p0)])) (fun _ k => XS.bipush X0.here hx rfl (hb hby d2_1) k) ?_
  have t14 : Go p e below s 0 0 (PureQ (.int (f2_14 p0)) h0) s₁ (mkF m 14 #[.val (.int p0)] []) := by
    refine Go.step (g' := (mkF m 15 #[.val (.int p0)] [(.int p0)])) (fun _ k => XS.iloadN X0.here hx rfl (hb hby d2_14) rfl  k) ?_
    refine Go.step (g' := (mkF m 17 #[.val (.int p0)] [(.int (65 : Int32)), (.int p0)])) (fun _ k => XS.bipush X0.here hx rfl (hb hby d2_15) k) ?_
    have t28 : Go p e below s 0 0 (PureQ (.int (f2_28 p0)) h0) s₁ (mkF m 28 #[.val (.int p0)] []) := by
      refine Go.step (g' := (mkF m 29 #[.val (.int p0)] [(.int p0)])) (fun _ k => XS.iloadN X0.here hx rfl (hb hby d2_28) rfl  k) ?_
      refine Go.step (g' := (mkF m 31 #[.val (.int p0)] [(.int (48 : Int32)), (.int p0)])) (fun _ k => XS.bipush X0.here hx rfl (hb hby d2_29) k) ?_
      have t42 : Go p e below s 0 0 (PureQ (.int (f2_42 p0)) h0) s₁ (mkF m 42 #[.val (.int p0)] []) := by
        refine Go.step (g' := (mkF m 43 #[.val (.int p0)] [(.int p0)])) (fun _ k => XS.iloadN X0.here hx rfl (hb hby d2_42) rfl  k) ?_
        refine Go.step (g' := (mkF m 45 #[.val (.int p0)] [(.int (32 : Int32)), (.int p0)])) (fun _ k => XS.bipush X0.here hx rfl (hb hby d2_43) k) ?_
        have t113 : ∀ (v113_s0 : Int32), Go p e below s 0 0 (PureQ (.int (f2_113 v113_s0)) h0) s₁ (mkF m 113 #[.val (.int p0)] [(.int v113_s0)]) := by
          intro v113_s0
          exact Go.retN X0 hx hlk (t := .boolean) Bd.returns (by simp) (hb hby d2_113) (by decide) (by decide) ⟨rfl, rfl, e0⟩
        have t108 : Go p e below s 0 0 (PureQ (.int f2_108) h0) s₁ (mkF m 108 #[.val (.int p0)] []) := by
          refine Go.step (g' := (mkF m 109 #[.val (.int p0)] [(.int (1 : Int32))])) (fun _ k => XS.iconst X0.here hx rfl (hb hby d2_108) k) ?_
          refine Go.step (g' := (mkF m 113 #[.val (.int p0)] [(.int (1 : Int32))])) (fun _ k => XS.goto X0.here hx rfl (pc0 := 109) (pc' := 113) rfl (hb hby d2_109) (by decide) (by decide) k) ?_
          rw [show f2_108 = (f2_113 (1 : Int32)) from rfl]
          exact t113 (1 : Int32)
        by_cases hc45 : p0 = (32 : Int32)
        · rw [show (f2_42 p0) = f2_108 from if_pos hc45]
          refine Go.step (g' := (mkF m 108 #[.val (.int p0)] [])) (fun _ k => XS.icmpYes X0.here hx rfl (pc0 := 45) (pc' := 108) rfl (hb hby d2_45) rfl (teq hc45).1 (by decide) (by decide) k) ?_
          exact t108 
        · rw [show (f2_42 p0) = (f2_48 p0) from if_neg hc45]
          refine Go.step (g' := (mkF m 48 #[.val (.int p0)] [])) (fun _ k => XS.icmpNo X0.here hx rfl (hb hby d2_45) rfl (feq hc45).1 k) ?_
          refine Go.step (g' := (mkF m 49 #[.val (.int p0)] [(.int p0)])) (fun _ k => XS.iloadN X0.here hx rfl (hb hby d2_48) rfl  k) ?_
          refine Go.step (g' := (mkF m 51 #[.val (.int p0)] [(.int (46 : Int32)), (.int p0)])) (fun _ k => XS.bipush X0.here hx rfl (hb hby d2_49) k) ?_
          by_cases hc51 : p0 = (46 : Int32)
          · rw [show (f2_48 p0) = f2_108 from if_pos hc51]
            refine Go.step (g' := (mkF m 108 #[.val (.int p0)] [])) (fun _ k => XS.icmpYes X0.here hx rfl (pc0 := 51) (pc' := 108) rfl (hb hby d2_51) rfl (teq hc51).1 (by decide) (by decide) k) ?_
            exact t108 
          · rw [show (f2_48 p0) = (f2_54 p0) from if_neg hc51]
            refine Go.step (g' := (mkF m 54 #[.val (.int p0)] [])) (fun _ k => XS.icmpNo X0.here hx rfl (hb hby d2_51) rfl (feq hc51).1 k) ?_
            refine Go.step (g' := (mkF m 55 #[.val (.int p0)] [(.int p0)])) (fun _ k => XS.iloadN X0.here hx rfl (hb hby d2_54) rfl  k) ?_
            refine Go.step (g' := (mkF m 57 #[.val (.int p0)] [(.int (44 : Int32)), (.int p0)])) (fun _ k => XS.bipush X0.here hx rfl (hb hby d2_55) k) ?_
            by_cases hc57 : p0 = (44 : Int32)
            · rw [show (f2_54 p0) = f2_108 from if_pos hc57]
              refine Go.step (g' := (mkF m 108 #[.val (.int p0)] [])) (fun _ k => XS.icmpYes X0.here hx rfl (pc0 := 57) (pc' := 108) rfl (hb hby d2_57) rfl (teq hc57).1 (by decide) (by decide) k) ?_
              exact t108 
            · rw [show (f2_54 p0) = (f2_60 p0) from if_neg hc57]
              refine Go.step (g' := (mkF m 60 #[.val (.int p0)] [])) (fun _ k => XS.icmpNo X0.here hx rfl (hb hby d2_57) rfl (feq hc57).1 k) ?_
              refine Go.step (g' := (mkF m 61 #[.val (.int p0)] [(.int p0)])) (fun _ k => XS.iloadN X0.here hx rfl (hb hby d2_60) rfl  k) ?_
              refine Go.step (g' := (mkF m 63 #[.val (.int p0)] [(.int (45 : Int32)), (.int p0)])) (fun _ k => XS.bipush X0.here hx rfl (hb hby d2_61) k) ?_
              by_cases hc63 : p0 = (45 : Int32)
              · rw [show (f2_60 p0) = f2_108 from if_pos hc63]
                refine Go.step (g' := (mkF m 108 #[.val (.int p0)] [])) (fun _ k => XS.icmpYes X0.here hx rfl (pc0 := 63) (pc' := 108) rfl (hb hby d2_63) rfl (teq hc63).1 (by decide) (by decide) k) ?_
                exact t108 
              · rw [show (f2_60 p0) = (f2_66 p0) from if_neg hc63]
                refine Go.step (g' := (mkF m 66 #[.val (.int p0)] [])) (fun _ k => XS.icmpNo X0.here hx rfl (hb hby d2_63) rfl (feq hc63).1 k) ?_
                refine Go.step (g' := (mkF m 67 #[.val (.int p0)] [(.int p0)])) (fun _ k => XS.iloadN X0.here hx rfl (hb hby d2_66) rfl  k) ?_
                refine Go.step (g' := (mkF m 69 #[.val (.int p0)] [(.int (47 : Int32)), (.int p0)])) (fun _ k => XS.bipush X0.here hx rfl (hb hby d2_67) k) ?_
                by_cases hc69 : p0 = (47 : Int32)
                · rw [show (f2_66 p0) = f2_108 from if_pos hc69]
                  refine Go.step (g' := (mkF m 108 #[.val (.int p0)] [])) (fun _ k => XS.icmpYes X0.here hx rfl (pc0 := 69) (pc' := 108) rfl (hb hby d2_69) rfl (teq hc69).1 (by decide) (by decide) k) ?_
                  exact t108 
                · rw [show (f2_66 p0) = (f2_72 p0) from if_neg hc69]
                  refine Go.step (g' := (mkF m 72 #[.val (.int p0)] [])) (fun _ k => XS.icmpNo X0.here hx rfl (hb hby d2_69) rfl (feq hc69).1 k) ?_
                  refine Go.step (g' := (mkF m 73 #[.val (.int p0)] [(.int p0)])) (fun _ k => XS.iloadN X0.here hx rfl (hb hby d2_72) rfl  k) ?_
                  refine Go.step (g' := (mkF m 75 #[.val (.int p0)] [(.int (43 : Int32)), (.int p0)])) (fun _ k => XS.bipush X0.here hx rfl (hb hby d2_73) k) ?_
                  by_cases hc75 : p0 = (43 : Int32)
                  · rw [show (f2_72 p0) = f2_108 from if_pos hc75]
                    refine Go.step (g' := (mkF m 108 #[.val (.int p0)] [])) (fun _ k => XS.icmpYes X0.here hx rfl (pc0 := 75) (pc' := 108) rfl (hb hby d2_75) rfl (teq hc75).1 (by decide) (by decide) k) ?_
                    exact t108 
                  · rw [show (f2_72 p0) = (f2_78 p0) from if_neg hc75]
                    refine Go.step (g' := (mkF m 78 #[.val (.int p0)] [])) (fun _ k => XS.icmpNo X0.here hx rfl (hb hby d2_75) rfl (feq hc75).1 k) ?_
                    refine Go.step (g' := (mkF m 79 #[.val (.int p0)] [(.int p0)])) (fun _ k => XS.iloadN X0.here hx rfl (hb hby d2_78) rfl  k) ?_
                    refine Go.step (g' := (mkF m 81 #[.val (.int p0)] [(.int (63 : Int32)), (.int p0)])) (fun _ k => XS.bipush X0.here hx rfl (hb hby d2_79) k) ?_
                    by_cases hc81 : p0 = (63 : Int32)
                    · rw [show (f2_78 p0) = f2_108 from if_pos hc81]
                      refine Go.step (g' := (mkF m 108 #[.val (.int p0)] [])) (fun _ k => XS.icmpYes X0.here hx rfl (pc0 := 81) (pc' := 108) rfl (hb hby d2_81) rfl (teq hc81).1 (by decide) (by decide) k) ?_
                      exact t108 
                    · rw [show (f2_78 p0) = (f2_84 p0) from if_neg hc81]
                      refine Go.step (g' := (mkF m 84 #[.val (.int p0)] [])) (fun _ k => XS.icmpNo X0.here hx rfl (hb hby d2_81) rfl (feq hc81).1 k) ?_
                      refine Go.step (g' := (mkF m 85 #[.val (.int p0)] [(.int p0)])) (fun _ k => XS.iloadN X0.here hx rfl (hb hby d2_84) rfl  k) ?_
                      refine Go.step (g' := (mkF m 87 #[.val (.int p0)] [(.int (58 : Int32)), (.int p0)])) (fun _ k => XS.bipush X0.here hx rfl (hb hby d2_85) k) ?_
                      by_cases hc87 : p0 = (58 : Int32)
                      · rw [show (f2_84 p0) = f2_108 from if_pos hc87]
                        refine Go.step (g' := (mkF m 108 #[.val (.int p0)] [])) (fun _ k => XS.icmpYes X0.here hx rfl (pc0 := 87) (pc' := 108) rfl (hb hby d2_87) rfl (teq hc87).1 (by decide) (by decide) k) ?_
                        exact t108 
                      · rw [show (f2_84 p0) = (f2_90 p0) from if_neg hc87]
                        refine Go.step (g' := (mkF m 90 #[.val (.int p0)] [])) (fun _ k => XS.icmpNo X0.here hx rfl (hb hby d2_87) rfl (feq hc87).1 k) ?_
                        refine Go.step (g' := (mkF m 91 #[.val (.int p0)] [(.int p0)])) (fun _ k => XS.iloadN X0.here hx rfl (hb hby d2_90) rfl  k) ?_
                        refine Go.step (g' := (mkF m 93 #[.val (.int p0)] [(.int (40 : Int32)), (.int p0)])) (fun _ k => XS.bipush X0.here hx rfl (hb hby d2_91) k) ?_
                        by_cases hc93 : p0 = (40 : Int32)
                        · rw [show (f2_90 p0) = f2_108 from if_pos hc93]
                          refine Go.step (g' := (mkF m 108 #[.val (.int p0)] [])) (fun _ k => XS.icmpYes X0.here hx rfl (pc0 := 93) (pc' := 108) rfl (hb hby d2_93) rfl (teq hc93).1 (by decide) (by decide) k) ?_
                          exact t108 
                        · rw [show (f2_90 p0) = (f2_96 p0) from if_neg hc93]
                          refine Go.step (g' := (mkF m 96 #[.val (.int p0)] [])) (fun _ k => XS.icmpNo X0.here hx rfl (hb hby d2_93) rfl (feq hc93).1 k) ?_
                          refine Go.step (g' := (mkF m 97 #[.val (.int p0)] [(.int p0)])) (fun _ k => XS.iloadN X0.here hx rfl (hb hby d2_96) rfl  k) ?_
                          refine Go.step (g' := (mkF m 99 #[.val (.int p0)] [(.int (41 : Int32)), (.int p0)])) (fun _ k => XS.bipush X0.here hx rfl (hb hby d2_97) k) ?_
                          by_cases hc99 : p0 = (41 : Int32)
                          · rw [show (f2_96 p0) = f2_108 from if_pos hc99]
                            refine Go.step (g' := (mkF m 108 #[.val (.int p0)] [])) (fun _ k => XS.icmpYes X0.here hx rfl (pc0 := 99) (pc' := 108) rfl (hb hby d2_99) rfl (teq hc99).1 (by decide) (by decide) k) ?_
                            exact t108 
                          · rw [show (f2_96 p0) = (f2_102 p0) from if_neg hc99]
                            refine Go.step (g' := (mkF m 102 #[.val (.int p0)] [])) (fun _ k => XS.icmpNo X0.here hx rfl (hb hby d2_99) rfl (feq hc99).1 k) ?_
                            refine Go.step (g' := (mkF m 103 #[.val (.int p0)] [(.int p0)])) (fun _ k => XS.iloadN X0.here hx rfl (hb hby d2_102) rfl  k) ?_
                            refine Go.step (g' := (mkF m 105 #[.val (.int p0)] [(.int (39 : Int32)), (.int p0)])) (fun _ k => XS.bipush X0.here hx rfl (hb hby d2_103) k) ?_
                            by_cases hc105 : p0 = (39 : Int32)
                            · rw [show (f2_102 p0) = f2_108 from if_pos hc105]
                              refine Go.step (g' := (mkF m 108 #[.val (.int p0)] [])) (fun _ k => XS.icmpNo X0.here hx rfl (hb hby d2_105) rfl (teq hc105).2 k) ?_
                              exact t108 
                            · rw [show (f2_102 p0) = f2_112 from if_neg hc105]
                              refine Go.step (g' := (mkF m 112 #[.val (.int p0)] [])) (fun _ k => XS.icmpYes X0.here hx rfl (pc0 := 105) (pc' := 112) rfl (hb hby d2_105) rfl (feq hc105).2 (by decide) (by decide) k) ?_
                              refine Go.step (g' := (mkF m 113 #[.val (.int p0)] [(.int (0 : Int32))])) (fun _ k => XS.iconst X0.here hx rfl (hb hby d2_112) k) ?_
                              rw [show f2_112 = (f2_113 (0 : Int32)) from rfl]
                              exact t113 (0 : Int32)
      by_cases hc31 : p0 < (48 : Int32)
      · rw [show (f2_28 p0) = (f2_42 p0) from if_pos hc31]
        refine Go.step (g' := (mkF m 42 #[.val (.int p0)] [])) (fun _ k => XS.icmpYes X0.here hx rfl (pc0 := 31) (pc' := 42) rfl (hb hby d2_31) rfl (tlt hc31).1 (by decide) (by decide) k) ?_
        exact t42 
      · rw [show (f2_28 p0) = (f2_34 p0) from if_neg hc31]
        refine Go.step (g' := (mkF m 34 #[.val (.int p0)] [])) (fun _ k => XS.icmpNo X0.here hx rfl (hb hby d2_31) rfl (flt hc31).1 k) ?_
        refine Go.step (g' := (mkF m 35 #[.val (.int p0)] [(.int p0)])) (fun _ k => XS.iloadN X0.here hx rfl (hb hby d2_34) rfl  k) ?_
        refine Go.step (g' := (mkF m 37 #[.val (.int p0)] [(.int (57 : Int32)), (.int p0)])) (fun _ k => XS.bipush X0.here hx rfl (hb hby d2_35) k) ?_
        by_cases hc37 : (57 : Int32) < p0
        · rw [show (f2_34 p0) = (f2_42 p0) from if_pos hc37]
          refine Go.step (g' := (mkF m 42 #[.val (.int p0)] [])) (fun _ k => XS.icmpYes X0.here hx rfl (pc0 := 37) (pc' := 42) rfl (hb hby d2_37) rfl (tlt hc37).2.2.1 (by decide) (by decide) k) ?_
          exact t42 
        · rw [show (f2_34 p0) = f2_40 from if_neg hc37]
          refine Go.step (g' := (mkF m 40 #[.val (.int p0)] [])) (fun _ k => XS.icmpNo X0.here hx rfl (hb hby d2_37) rfl (flt hc37).2.2.1 k) ?_
          refine Go.step (g' := (mkF m 41 #[.val (.int p0)] [(.int (1 : Int32))])) (fun _ k => XS.iconst X0.here hx rfl (hb hby d2_40) k) ?_
          exact Go.retN X0 hx hlk (t := .boolean) Bd.returns (by simp) (hb hby d2_41) (by decide) (by decide) ⟨rfl, rfl, e0⟩
    by_cases hc17 : p0 < (65 : Int32)
    · rw [show (f2_14 p0) = (f2_28 p0) from if_pos hc17]
      refine Go.step (g' := (mkF m 28 #[.val (.int p0)] [])) (fun _ k => XS.icmpYes X0.here hx rfl (pc0 := 17) (pc' := 28) rfl (hb hby d2_17) rfl (tlt hc17).1 (by decide) (by decide) k) ?_
      exact t28 
    · rw [show (f2_14 p0) = (f2_20 p0) from if_neg hc17]
      refine Go.step (g' := (mkF m 20 #[.val (.int p0)] [])) (fun _ k => XS.icmpNo X0.here hx rfl (hb hby d2_17) rfl (flt hc17).1 k) ?_
      refine Go.step (g' := (mkF m 21 #[.val (.int p0)] [(.int p0)])) (fun _ k => XS.iloadN X0.here hx rfl (hb hby d2_20) rfl  k) ?_
      refine Go.step (g' := (mkF m 23 #[.val (.int p0)] [(.int (90 : Int32)), (.int p0)])) (fun _ k => XS.bipush X0.here hx rfl (hb hby d2_21) k) ?_
      by_cases hc23 : (90 : Int32) < p0
      · rw [show (f2_20 p0) = (f2_28 p0) from if_pos hc23]
        refine Go.step (g' := (mkF m 28 #[.val (.int p0)] [])) (fun _ k => XS.icmpYes X0.here hx rfl (pc0 := 23) (pc' := 28) rfl (hb hby d2_23) rfl (tlt hc23).2.2.1 (by decide) (by decide) k) ?_
        exact t28 
      · rw [show (f2_20 p0) = f2_26 from if_neg hc23]
        refine Go.step (g' := (mkF m 26 #[.val (.int p0)] [])) (fun _ k => XS.icmpNo X0.here hx rfl (hb hby d2_23) rfl (flt hc23).2.2.1 k) ?_
        refine Go.step (g' := (mkF m 27 #[.val (.int p0)] [(.int (1 : Int32))])) (fun _ k => XS.iconst X0.here hx rfl (hb hby d2_26) k) ?_
        exact Go.retN X0 hx hlk (t := .boolean) Bd.returns (by simp) (hb hby d2_27) (by decide) (by decide) ⟨rfl, rfl, e0⟩
  by_cases hc3 : p0 < (97 : Int32)
  · rw [show (f2_0 p0) = (f2_14 p0) from if_pos hc3]
    refine Go.step (g' := (mkF m 14 #[.val (.int p0)] [])) (fun _ k => XS.icmpYes X0.here hx rfl (pc0 := 3) (pc' := 14) rfl (hb hby d2_3) rfl (tlt hc3).1 (by decide) (by decide) k) ?_
    exact t14 
  · rw [show (f2_0 p0) = (f2_6 p0) from if_neg hc3]
    refine Go.step (g' := (mkF m 6 #[.val (.int p0)] [])) (fun _ k => XS.icmpNo X0.here hx rfl (hb hby d2_3) rfl (flt hc3).1 k) ?_
    refine Go.step (g' := (mkF m 7 #[.val (.int p0)] [(.int p0)])) (fun _ k => XS.iloadN X0.here hx rfl (hb hby d2_6) rfl  k) ?_
    refine Go.step (g' := (mkF m 9 #[.val (.int p0)] [(.int (122 : Int32)), (.int p0)])) (fun _ k => XS.bipush X0.here hx rfl (hb hby d2_7) k) ?_
    by_cases hc9 : (122 : Int32) < p0
    · rw [show (f2_6 p0) = (f2_14 p0) from if_pos hc9]
      refine Go.step (g' := (mkF m 14 #[.val (.int p0)] [])) (fun _ k => XS.icmpYes X0.here hx rfl (pc0 := 9) (pc' := 14) rfl (hb hby d2_9) rfl (tlt hc9).2.2.1 (by decide) (by decide) k) ?_
      exact t14 
    · rw [show (f2_6 p0) = f2_12 from if_neg hc9]
      refine Go.step (g' := (mkF m 12 #[.val (.int p0)] [])) (fun _ k => XS.icmpNo X0.here hx rfl (hb hby d2_9) rfl (flt hc9).2.2.1 k) ?_
      refine Go.step (g' := (mkF m 13 #[.val (.int p0)] [(.int (1 : Int32))])) (fun _ k => XS.iconst X0.here hx rfl (hb hby d2_12) k) ?_
      exact Go.retN X0 hx hlk (t := .boolean) Bd.returns (by simp) (hb hby d2_13) (by decide) (by decide) ⟨rfl, rfl, e0⟩
def own_T (k : Nat) : Int32 := if k < 32 then 46 else if k < 33 then 32 else if k < 38 then 46 else if k < 39 then 43 else if k < 40 then 39 else if k < 41 then 40 else if k < 42 then 41 else if k < 43 then 46 else if k < 59 then Int32.ofNat k else if k < 63 then 46 else if k < 64 then 63 else if k < 65 then 46 else if k < 91 then Int32.ofNat k else if k < 97 then 46 else if k < 123 then Int32.ofNat k else if k < 196 then 46 else if k < 197 then 65 else if k < 214 then 46 else if k < 215 then 79 else if k < 220 then 46 else if k < 221 then 85 else if k < 222 then 46 else if k < 223 then 46 else if k < 224 then 115 else if k < 228 then 46 else if k < 229 then 97 else if k < 246 then 46 else if k < 247 then 111 else if k < 252 then 46 else if k < 253 then 117 else if k < 254 then 46 else if k < 255 then 46 else if k < 256 then 46 else 0
def own_fw (cl : Cell) (k : Nat) : Int32 := match cl.slots[k]? with | some (.int z) => z | _ => 0
theorem own_kept : ∀ k : Fin 256, (own_T k.val = Int32.ofNat k.val ↔ f2_0 (Int32.ofNat k.val) = 1) ∧ (f2_0 (Int32.ofNat k.val) = 0 ∨ f2_0 (Int32.ofNat k.val) = 1) := by decide +kernel
theorem own_far (z : Int32) (h : ¬ z < 256) : f2_0 z = 0 := by
  have n0 : nar .boolean 0 = 0 := by decide
  have q0 : (0 : Int32).toInt = 0 := by decide
  have q1 : (1 : Int32).toInt = 1 := by decide
  have q32 : (32 : Int32).toInt = 32 := by decide
  have q39 : (39 : Int32).toInt = 39 := by decide
  have q40 : (40 : Int32).toInt = 40 := by decide
  have q41 : (41 : Int32).toInt = 41 := by decide
  have q43 : (43 : Int32).toInt = 43 := by decide
  have q44 : (44 : Int32).toInt = 44 := by decide
  have q45 : (45 : Int32).toInt = 45 := by decide
  have q46 : (46 : Int32).toInt = 46 := by decide
  have q47 : (47 : Int32).toInt = 47 := by decide
  have q48 : (48 : Int32).toInt = 48 := by decide
  have q57 : (57 : Int32).toInt = 57 := by decide
  have q58 : (58 : Int32).toInt = 58 := by decide
  have q63 : (63 : Int32).toInt = 63 := by decide
  have q65 : (65 : Int32).toInt = 65 := by decide
  have q90 : (90 : Int32).toInt = 90 := by decide
  have q97 : (97 : Int32).toInt = 97 := by decide
  have q122 : (122 : Int32).toInt = 122 := by decide
  have q256 : (256 : Int32).toInt = 256 := by decide
  rw [Int32.lt_iff_toInt_lt, q256] at h
  simp only [f2_113, f2_108, f2_112, f2_102, f2_96, f2_90, f2_84, f2_78, f2_72, f2_66, f2_60, f2_54, f2_48, f2_42, f2_40, f2_34, f2_28, f2_26, f2_20, f2_14, f2_12, f2_6, f2_0, Int32.lt_iff_toInt_lt, ← Int32.toInt_inj, q0, q1, q32, q39, q40, q41, q43, q44, q45, q46, q47, q48, q57, q58, q63, q65, q90, q97, q122, q256]
  simp [show ¬ z.toInt = 39 by omega, show ¬ z.toInt = 41 by omega, show ¬ z.toInt = 40 by omega, show ¬ z.toInt = 58 by omega, show ¬ z.toInt = 63 by omega, show ¬ z.toInt = 43 by omega, show ¬ z.toInt = 47 by omega, show ¬ z.toInt = 45 by omega, show ¬ z.toInt = 44 by omega, show ¬ z.toInt = 46 by omega, show ¬ z.toInt = 32 by omega, show ¬ z.toInt < 48 by omega, show ¬ z.toInt < 65 by omega, show ¬ z.toInt < 97 by omega, show (57 : Int) < z.toInt by omega, show (90 : Int) < z.toInt by omega, show (122 : Int) < z.toInt by omega, n0]
theorem own_tab (fw : Nat → Int32) (hT : ∀ k, k < 256 → fw k = own_T k) (z : Int32) (hz : ¬ z < 0) : ((z < 256 ∧ fw z.toNatClampNeg = z) ↔ f2_0 z = 1) ∧ (f2_0 z = 0 ∨ f2_0 z = 1) := by
  by_cases h : z < 256
  · have e := nat_of hz
    have q : (256 : Int32).toInt = 256 := by decide
    have h' := h
    rw [Int32.lt_iff_toInt_lt, q] at h'
    have hk : z.toNatClampNeg < 256 := by omega
    have ez : Int32.ofNat z.toNatClampNeg = z := by
      apply Int32.toInt_inj.mp
      rw [Int32.toInt_ofNat_of_lt (by omega)]; omega
    have k := own_kept ⟨z.toNatClampNeg, hk⟩
    simp only [ez] at k
    rw [hT _ hk]
    exact ⟨⟨fun q => k.1.mp q.2, fun q => ⟨h, k.1.mpr q⟩⟩, k.2⟩
  · rw [own_far z h]
    exact ⟨⟨fun q => absurd q.1 h, fun q => absurd q (by decide)⟩, Or.inl rfl⟩
theorem own_step (fw : Nat → Int32) (hT : ∀ k, k < 256 → fw k = own_T k) (z : Int32) (hz : ¬ z < 0) (x y : Int32) : (if z < 256 then (if fw z.toNatClampNeg = z then x else y) else y) = if f2_0 z = 0 then y else x := by
  obtain ⟨h1, h2⟩ := own_tab fw hT z hz
  rcases h2 with h2 | h2
  · rw [h2] at h1 ⊢
    have h3 : ¬ (z < 256 ∧ fw z.toNatClampNeg = z) := fun q => absurd (h1.mp q) (by decide)
    rw [if_pos rfl]
    by_cases a : z < 256
    · rw [if_pos a, if_neg fun b => h3 ⟨a, b⟩]
    · rw [if_neg a]
  · obtain ⟨a, b⟩ := h1.mpr h2
    rw [h2, if_pos a, if_pos b, if_neg (by decide)]
theorem own_lenOf {args : Array Value} {s : State} {t : Term} {a : Addr} {cl : Cell} (ev : t.eval args s none [] s = some (.ref a)) (hA : s.arrayAt? a = some cl) (h : (Jvm.Cond.eq (.length t) (.int 256)).value args s none s [] = some true) : cl.slots.size = 256 := by
  by_cases hl : cl.slots.size < 2 ^ 31
  · have e := len_f ev hA hl
    have e2 : cl.slots.size.toInt32 = 256 := by simpa [Cond.value, e, Term.int_eval] using h
    have e3 := congrArg Int32.toInt e2
    rw [show cl.slots.size.toInt32.toInt = cl.slots.size from Int32.toInt_ofNat_of_lt (by omega)] at e3
    have q : (256 : Int32).toInt = 256 := by decide
    omega
  · have e : (Jvm.Term.length t).eval args s none [] s = none := by simp [Term.eval, ev, hA, hl]
    simp [Cond.value, e] at h
theorem own_or {args : Array Value} {s : State} {idx : List Nat} {G Y : Jvm.Cond} {P : Prop} [Decidable P] (hG : G.value args s none s idx = some (decide P)) (h : (Jvm.Cond.or G Y).value args s none s idx = some true) : P ∨ Y.value args s none s idx = some true := by
  by_cases p : P
  · exact Or.inl p
  · right; simpa [Cond.value, hG, p] using h
theorem own_elem {args : Array Value} {s : State} {idx : List Nat} {t u v : Term} {a : Addr} {cl : Cell} {j z : Int32} (ht : t.eval args s none idx s = some (.ref a)) (hu : u.eval args s none idx s = some (.int j)) (hv : v.eval args s none idx s = some (.int z)) (ha : s.arrayAt? a = some cl) (hj : ¬ j < 0)
    (h : (Jvm.Cond.eq (.elem t u) v).value args s none s idx = some true) : own_fw cl j.toNatClampNeg = z := by
  have e := elem_f ht hu ha hj
  cases hf : cl.slots[j.toNatClampNeg]? with
  | none => rw [hf] at e; simp [Cond.value, e] at h
  | some w => rw [hf] at e; cases w <;> simp [Cond.value, e, hv] at h; simp [own_fw, hf, h]
theorem own_idx {args : Array Value} {s : State} (k : Nat) : (Jvm.Term.index 0).eval args s none [k] s = some (.int k.toInt32) := Term.index_eval _
theorem own_n32 {k : Nat} (h : k < 256) : k.toInt32.toInt = k ∧ k.toInt32.toNatClampNeg = k ∧ ¬ k.toInt32 < 0 := by
  have q : (0 : Int32).toInt = 0 := by decide
  have e : k.toInt32.toInt = k := Int32.toInt_ofNat_of_lt (by omega)
  have hn : ¬ k.toInt32 < 0 := by rw [Int32.lt_iff_toInt_lt, q, e]; omega
  have := nat_of hn
  exact ⟨e, by omega, hn⟩
theorem own_ofn {k : Nat} (z : Int32) (e : k.toInt32 = z) : Int32.ofNat k = z := e
theorem pn_0 : plainName "com/example/zahlwerk/zahlwerk/rules/ImpayCharactersChangedPinLaw" = true := by first | (simp [plainName, overriddenIn]; done) | decide +kernel
theorem ef_0 (m : MethodId) (p0 : Int32) (p1 : Int32) (p2 : Int32) (p3 : Int32) (p4 : Int32) : entryFrame m #[(.int p0), (.int p1), (.int p2), (.int p3), (.int p4)] maxLocals = mkF m 0 #[.val (.int p0), .val (.int p1), .val (.int p2), .val (.int p3), .val (.int p4), .unset, .unset, .unset, .unset, .unset, .unset, .unset, .unset] [] := by first | (simp [entryFrame, mkF, argsToLocals, Value.category, maxLocals]; done) | rfl
def f0_133 (v133_s0 : Int32) : Int32 := (nar .boolean v133_s0)
def f0_132 : Int32 := (f0_133 (0 : Int32))
def f0_128 : Int32 := (f0_133 (1 : Int32))
def f0_110 (p0 : Int32) (p1 : Int32) (p2 : Int32) (p3 : Int32) (p4 : Int32) (fw : Nat → Int32) (v110_s0 : Int32) : Int32 := if (f1_0 ((p4 &&& (2147483647 : Int32)) % (5 : Int32)) (upd (upd (upd (upd (fun _ => (0 : Int32)) (0 : Int32).toNatClampNeg (nar .char (p0.toUInt32.toUInt16.toUInt32.toInt32))) (1 : Int32).toNatClampNeg (nar .char (p1.toUInt32.toUInt16.toUInt32.toInt32))) (2 : Int32).toNatClampNeg (nar .char (p2.toUInt32.toUInt16.toUInt32.toInt32))) (3 : Int32).toNatClampNeg (nar .char (p3.toUInt32.toUInt16.toUInt32.toInt32))) fw) = v110_s0 then f0_128 else f0_132
def f0_109 (p0 : Int32) (p1 : Int32) (p2 : Int32) (p3 : Int32) (p4 : Int32) (fw : Nat → Int32) : Int32 := (f0_110 p0 p1 p2 p3 p4 fw (0 : Int32))
def f0_105 (p0 : Int32) (p1 : Int32) (p2 : Int32) (p3 : Int32) (p4 : Int32) (fw : Nat → Int32) : Int32 := (f0_110 p0 p1 p2 p3 p4 fw (1 : Int32))
def f0_97 (p0 : Int32) (p1 : Int32) (p2 : Int32) (p3 : Int32) (p4 : Int32) (fw : Nat → Int32) : Int32 := if (f2_0 (p3.toUInt32.toUInt16.toUInt32.toInt32)) = (0 : Int32) then (f0_105 p0 p1 p2 p3 p4 fw) else (f0_109 p0 p1 p2 p3 p4 fw)
def f0_91 (p0 : Int32) (p1 : Int32) (p2 : Int32) (p3 : Int32) (p4 : Int32) (fw : Nat → Int32) : Int32 := if (3 : Int32) < ((p4 &&& (2147483647 : Int32)) % (5 : Int32)) then (f0_97 p0 p1 p2 p3 p4 fw) else (f0_109 p0 p1 p2 p3 p4 fw)
def f0_83 (p0 : Int32) (p1 : Int32) (p2 : Int32) (p3 : Int32) (p4 : Int32) (fw : Nat → Int32) : Int32 := if (f2_0 (p2.toUInt32.toUInt16.toUInt32.toInt32)) = (0 : Int32) then (f0_105 p0 p1 p2 p3 p4 fw) else (f0_91 p0 p1 p2 p3 p4 fw)
def f0_77 (p0 : Int32) (p1 : Int32) (p2 : Int32) (p3 : Int32) (p4 : Int32) (fw : Nat → Int32) : Int32 := if (2 : Int32) < ((p4 &&& (2147483647 : Int32)) % (5 : Int32)) then (f0_83 p0 p1 p2 p3 p4 fw) else (f0_91 p0 p1 p2 p3 p4 fw)
def f0_69 (p0 : Int32) (p1 : Int32) (p2 : Int32) (p3 : Int32) (p4 : Int32) (fw : Nat → Int32) : Int32 := if (f2_0 (p1.toUInt32.toUInt16.toUInt32.toInt32)) = (0 : Int32) then (f0_105 p0 p1 p2 p3 p4 fw) else (f0_77 p0 p1 p2 p3 p4 fw)
def f0_63 (p0 : Int32) (p1 : Int32) (p2 : Int32) (p3 : Int32) (p4 : Int32) (fw : Nat → Int32) : Int32 := if (1 : Int32) < ((p4 &&& (2147483647 : Int32)) % (5 : Int32)) then (f0_69 p0 p1 p2 p3 p4 fw) else (f0_77 p0 p1 p2 p3 p4 fw)
def f0_55 (p0 : Int32) (p1 : Int32) (p2 : Int32) (p3 : Int32) (p4 : Int32) (fw : Nat → Int32) : Int32 := if (f2_0 (p0.toUInt32.toUInt16.toUInt32.toInt32)) = (0 : Int32) then (f0_105 p0 p1 p2 p3 p4 fw) else (f0_63 p0 p1 p2 p3 p4 fw)
def f0_0 (p0 : Int32) (p1 : Int32) (p2 : Int32) (p3 : Int32) (p4 : Int32) (fw : Nat → Int32) : Int32 := if (0 : Int32) < ((p4 &&& (2147483647 : Int32)) % (5 : Int32)) then (f0_55 p0 p1 p2 p3 p4 fw) else (f0_63 p0 p1 p2 p3 p4 fw)
theorem law_eq (p0 p1 p2 p3 p4 : Int32) (fw : Nat → Int32) (hT : ∀ k, k < 256 → fw k = own_T k) : f0_0 p0 p1 p2 p3 p4 fw = 1 := by
  have n1 : nar .boolean 1 = 1 := by decide
  have n0 : nar .boolean 0 = 0 := by decide
  obtain ⟨k, hk⟩ := own_k5 p4
  have c0 := (own_char p0).2
  have c1 := (own_char p1).2
  have c2 := (own_char p2).2
  have c3 := (own_char p3).2
  have d0 : ¬ p0.toUInt32.toUInt16.toUInt32.toInt32 < 0 := (own_char p0).1
  have d1 : ¬ p1.toUInt32.toUInt16.toUInt32.toInt32 < 0 := (own_char p1).1
  have d2 : ¬ p2.toUInt32.toUInt16.toUInt32.toInt32 < 0 := (own_char p2).1
  have d3 : ¬ p3.toUInt32.toUInt16.toUInt32.toInt32 < 0 := (own_char p3).1
  simp only [f0_133, f0_132, f0_128, f0_110, f0_109, f0_105, f0_97, f0_91, f0_83, f0_77, f0_69, f0_63, f0_55, f0_0, hk, c0, c1, c2, c3]
  generalize p0.toUInt32.toUInt16.toUInt32.toInt32 = z0 at *
  generalize p1.toUInt32.toUInt16.toUInt32.toInt32 = z1 at *
  generalize p2.toUInt32.toUInt16.toUInt32.toInt32 = z2 at *
  generalize p3.toUInt32.toUInt16.toUInt32.toInt32 = z3 at *
  have g0 : (upd (upd (upd (upd (fun _ => (0 : Int32)) (0 : Int32).toNatClampNeg z0) (1 : Int32).toNatClampNeg z1) (2 : Int32).toNatClampNeg z2) (3 : Int32).toNatClampNeg z3) (0 : Int32).toNatClampNeg = z0 := rfl
  have g1 : (upd (upd (upd (upd (fun _ => (0 : Int32)) (0 : Int32).toNatClampNeg z0) (1 : Int32).toNatClampNeg z1) (2 : Int32).toNatClampNeg z2) (3 : Int32).toNatClampNeg z3) ((0 : Int32) + 1).toNatClampNeg = z1 := rfl
  have g2 : (upd (upd (upd (upd (fun _ => (0 : Int32)) (0 : Int32).toNatClampNeg z0) (1 : Int32).toNatClampNeg z1) (2 : Int32).toNatClampNeg z2) (3 : Int32).toNatClampNeg z3) ((0 : Int32) + 1 + 1).toNatClampNeg = z2 := rfl
  have g3 : (upd (upd (upd (upd (fun _ => (0 : Int32)) (0 : Int32).toNatClampNeg z0) (1 : Int32).toNatClampNeg z1) (2 : Int32).toNatClampNeg z2) (3 : Int32).toNatClampNeg z3) ((0 : Int32) + 1 + 1 + 1).toNatClampNeg = z3 := rfl
  simp only [f1_0, f1_36, f1_28, f1_36_c1, f1_28_c1, f1_36_c2, f1_28_c2, f1_36_c3, f1_28_c3, f1_36_c4, f1_7_c4, f1_2_c4, f1_30_c3, f1_19_c3, f1_7_c3, f1_2_c3, f1_30_c2, f1_19_c2, f1_7_c2, f1_2_c2, f1_30_c1, f1_19_c1, f1_7_c1, f1_2_c1, f1_30, f1_19, f1_7, f1_2, f1_0, g0, g1, g2, g3]
  simp only [own_step fw hT _ d0, own_step fw hT _ d1, own_step fw hT _ d2, own_step fw hT _ d3]
  clear hk
  by_cases e0 : f2_0 z0 = 0 <;> by_cases e1 : f2_0 z1 = 0 <;> by_cases e2 : f2_0 z2 = 0 <;> by_cases e3 : f2_0 z3 = 0 <;> simp only [e0, e1, e2, e3, if_true, if_false] <;> (revert k; decide)
set_option maxRecDepth 65536 in
set_option maxHeartbeats 40000000 in
theorem rm0 (l : Launch) (Z : State) (a0 : Array Value) (hw : ∀ d ∈ tables_1, d.before a0 Z = true) (ws : List Jvm.Cond) (p0 : Int32) (p1 : Int32) (p2 : Int32) (p3 : Int32) (p4 : Int32) (wF : Addr) (fw : Nat → Int32) (h0 : Heap) (n0 : Nat) (Z0 : n0 ≤ h0.size) (S_F : Sta Z h0 "com/example/zahlwerk/zahlwerk/rules/ImpayCharacters" "FORWARDED" "[C" (.ref wF)) (A_F : IA Z h0 wF .char 256 (fun k => .int (fw k))) :
    MetFree l x (head1 (Jvm.Cond.code x code maxLocals ret :: ws) room_1) (fun a U => a = #[(.int p0), (.int p1), (.int p2), (.int p3), (.int p4)] ∧ Z.Warmed39 U.vm ∧ U.heap = h0) (fun _ _ _ _ _ => True) (fun _ U o U' => ∃ v L, o = .returned v ∧ (LawQ (some (.int (f0_0 p0 p1 p2 p3 p4 fw))) n0) v U'.heap L ∧ FrameEnd U o U' L room_1.cells room_1.slots) := by
  refine MetFree.of_bodySF (plainFor_of_name pn_0) hisR ?_
  intro p e s m args below meth c s₁ Bd hml0 hP hK
  obtain ⟨rfl, hZ, hh⟩ := hP
  have hx := Bd.exec
  have hby := Bd.bytes
  have hlk : meth.locks = false := BodyLoose.notSynchronized Bd
  have hml : c.maxLocals = 13 := hml0
  have hown : s.vm.findClass "com/example/zahlwerk/zahlwerk/rules/ImpayCharactersChangedPinLaw" = some m.cls := findClass_of_methodNamed Bd.named
  have hnm := (name_of_methodNamed Bd.named Bd.method).1
  have X0 : Stand p l e room_1 s m #[(.int p0), (.int p1), (.int p2), (.int p3), (.int p4)] below meth c s₁ ([] : List Loc) 0 0 := Stand.of_body Bd
  have e0 : s₁.heap = h0 := by rw [← hh, Bd.state]; rfl
  show Go p e below s room_1.cells room_1.slots (LawQ (some (.int (f0_0 p0 p1 p2 p3 p4 fw))) n0) s₁ (entryFrame m #[(.int p0), (.int p1), (.int p2), (.int p3), (.int p4)] maxLocals)
  rw [ef_0 m p0 p1 p2 p3 p4]
  have N0 := Fr.nil n0
  refine Go.step (g' := (mkF m 1 #[.val (.int p0), .val (.int p1), .val (.int p2), .val (.int p3), .val (.int p4), .unset, .unset, .unset, .unset, .unset, .unset, .unset, .unset] [(.int p0)])) (fun _ k => XS.iloadN X0.here hx rfl (hb hby at_0) rfl  k) ?_
  refine Go.step (g' := (mkF m 2 #[.val (.int p0), .val (.int p1), .val (.int p2), .val (.int p3), .val (.int p4), .unset, .unset, .unset, .unset, .unset, .unset, .unset, .unset] [(.int (p0.toUInt32.toUInt16.toUInt32.toInt32))])) (fun _ k => XS.i2c X0.here hx rfl (hb hby at_1) rfl k) ?_
  refine Go.step (g' := (mkF m 4 #[.val (.int p0), .val (.int p1), .val (.int p2), .val (.int p3), .val (.int p4), .val (.int (p0.toUInt32.toUInt16.toUInt32.toInt32)), .unset, .unset, .unset, .unset, .unset, .unset, .unset] [])) (fun _ k => XS.istore X0.here hx rfl (hb hby at_2) rfl (l' := #[.val (.int p0), .val (.int p1), .val (.int p2), .val (.int p3), .val (.int p4), .val (.int (p0.toUInt32.toUInt16.toUInt32.toInt32)), .unset, .unset, .unset, .unset, .unset, .unset, .unset]) rfl k) ?_
  refine Go.step (g' := (mkF m 5 #[.val (.int p0), .val (.int p1), .val (.int p2), .val (.int p3), .val (.int p4), .val (.int (p0.toUInt32.toUInt16.toUInt32.toInt32)), .unset, .unset, .unset, .unset, .unset, .unset, .unset] [(.int p1)])) (fun _ k => XS.iloadN X0.here hx rfl (hb hby at_4) rfl  k) ?_
  refine Go.step (g' := (mkF m 6 #[.val (.int p0), .val (.int p1), .val (.int p2), .val (.int p3), .val (.int p4), .val (.int (p0.toUInt32.toUInt16.toUInt32.toInt32)), .unset, .unset, .unset, .unset, .unset, .unset, .unset] [(.int (p1.toUInt32.toUInt16.toUInt32.toInt32))])) (fun _ k => XS.i2c X0.here hx rfl (hb hby at_5) rfl k) ?_
  refine Go.step (g' := (mkF m 8 #[.val (.int p0), .val (.int p1), .val (.int p2), .val (.int p3), .val (.int p4), .val (.int (p0.toUInt32.toUInt16.toUInt32.toInt32)), .val (.int (p1.toUInt32.toUInt16.toUInt32.toInt32)), .unset, .unset, .unset, .unset, .unset, .unset] [])) (fun _ k => XS.istore X0.here hx rfl (hb hby at_6) rfl (l' := #[.val (.int p0), .val (.int p1), .val (.int p2), .val (.int p3), .val (.int p4), .val (.int (p0.toUInt32.toUInt16.toUInt32.toInt32)), .val (.int (p1.toUInt32.toUInt16.toUInt32.toInt32)), .unset, .unset, .unset, .unset, .unset, .unset]) rfl k) ?_
  refine Go.step (g' := (mkF m 9 #[.val (.int p0), .val (.int p1), .val (.int p2), .val (.int p3), .val (.int p4), .val (.int (p0.toUInt32.toUInt16.toUInt32.toInt32)), .val (.int (p1.toUInt32.toUInt16.toUInt32.toInt32)), .unset, .unset, .unset, .unset, .unset, .unset] [(.int p2)])) (fun _ k => XS.iloadN X0.here hx rfl (hb hby at_8) rfl  k) ?_
  refine Go.step (g' := (mkF m 10 #[.val (.int p0), .val (.int p1), .val (.int p2), .val (.int p3), .val (.int p4), .val (.int (p0.toUInt32.toUInt16.toUInt32.toInt32)), .val (.int (p1.toUInt32.toUInt16.toUInt32.toInt32)), .unset, .unset, .unset, .unset, .unset, .unset] [(.int (p2.toUInt32.toUInt16.toUInt32.toInt32))])) (fun _ k => XS.i2c X0.here hx rfl (hb hby at_9) rfl k) ?_
  refine Go.step (g' := (mkF m 12 #[.val (.int p0), .val (.int p1), .val (.int p2), .val (.int p3), .val (.int p4), .val (.int (p0.toUInt32.toUInt16.toUInt32.toInt32)), .val (.int (p1.toUInt32.toUInt16.toUInt32.toInt32)), .val (.int (p2.toUInt32.toUInt16.toUInt32.toInt32)), .unset, .unset, .unset, .unset, .unset] [])) (fun _ k => XS.istore X0.here hx rfl (hb hby at_10) rfl (l' := #[.val (.int p0), .val (.int p1), .val (.int p2), .val (.int p3), .val (.int p4), .val (.int (p0.toUInt32.toUInt16.toUInt32.toInt32)), .val (.int (p1.toUInt32.toUInt16.toUInt32.toInt32)), .val (.int (p2.toUInt32.toUInt16.toUInt32.toInt32)), .unset, .unset, .unset, .unset, .unset]) rfl k) ?_
  refine Go.step (g' := (mkF m 13 #[.val (.int p0), .val (.int p1), .val (.int p2), .val (.int p3), .val (.int p4), .val (.int (p0.toUInt32.toUInt16.toUInt32.toInt32)), .val (.int (p1.toUInt32.toUInt16.toUInt32.toInt32)), .val (.int (p2.toUInt32.toUInt16.toUInt32.toInt32)), .unset, .unset, .unset, .unset, .unset] [(.int p3)])) (fun _ k => XS.iloadN X0.here hx rfl (hb hby at_12) rfl  k) ?_
  refine Go.step (g' := (mkF m 14 #[.val (.int p0), .val (.int p1), .val (.int p2), .val (.int p3), .val (.int p4), .val (.int (p0.toUInt32.toUInt16.toUInt32.toInt32)), .val (.int (p1.toUInt32.toUInt16.toUInt32.toInt32)), .val (.int (p2.toUInt32.toUInt16.toUInt32.toInt32)), .unset, .unset, .unset, .unset, .unset] [(.int (p3.toUInt32.toUInt16.toUInt32.toInt32))])) (fun _ k => XS.i2c X0.here hx rfl (hb hby at_13) rfl k) ?_
  refine Go.step (g' := (mkF m 16 #[.val (.int p0), .val (.int p1), .val (.int p2), .val (.int p3), .val (.int p4), .val (.int (p0.toUInt32.toUInt16.toUInt32.toInt32)), .val (.int (p1.toUInt32.toUInt16.toUInt32.toInt32)), .val (.int (p2.toUInt32.toUInt16.toUInt32.toInt32)), .val (.int (p3.toUInt32.toUInt16.toUInt32.toInt32)), .unset, .unset, .unset, .unset] [])) (fun _ k => XS.istore X0.here hx rfl (hb hby at_14) rfl (l' := #[.val (.int p0), .val (.int p1), .val (.int p2), .val (.int p3), .val (.int p4), .val (.int (p0.toUInt32.toUInt16.toUInt32.toInt32)), .val (.int (p1.toUInt32.toUInt16.toUInt32.toInt32)), .val (.int (p2.toUInt32.toUInt16.toUInt32.toInt32)), .val (.int (p3.toUInt32.toUInt16.toUInt32.toInt32)), .unset, .unset, .unset, .unset]) rfl k) ?_
  refine Go.step (g' := (mkF m 17 #[.val (.int p0), .val (.int p1), .val (.int p2), .val (.int p3), .val (.int p4), .val (.int (p0.toUInt32.toUInt16.toUInt32.toInt32)), .val (.int (p1.toUInt32.toUInt16.toUInt32.toInt32)), .val (.int (p2.toUInt32.toUInt16.toUInt32.toInt32)), .val (.int (p3.toUInt32.toUInt16.toUInt32.toInt32)), .unset, .unset, .unset, .unset] [(.int (4 : Int32))])) (fun _ k => XS.iconst X0.here hx rfl (hb hby at_16) k) ?_
  obtain ⟨T1, h1, k1, X1, e1, E1, A1, st1⟩ := newP X0 hx hZ (hw _ (List.mem_of_getElem? (i := 0) rfl)) e0 (g := (mkF m 17 #[.val (.int p0), .val (.int p1), .val (.int p2), .val (.int p3), .val (.int p4), .val (.int (p0.toUInt32.toUInt16.toUInt32.toInt32)), .val (.int (p1.toUInt32.toUInt16.toUInt32.toInt32)), .val (.int (p2.toUInt32.toUInt16.toUInt32.toInt32)), .val (.int (p3.toUInt32.toUInt16.toUInt32.toInt32)), .unset, .unset, .unset, .unset] [(.int (4 : Int32))])) rfl (hb hby at_17) rfl (by decide) (cap := 4) (by decide) (by decide) (by decide) (by decide)
  obtain ⟨b1, g1⟩ : ∃ z, z = h0.size := ⟨_, rfl⟩
  rw [← g1] at A1 st1
  have ne_wF_b1 : wF ≠ b1 := Nat.ne_of_lt (Nat.lt_of_lt_of_le A_F.lt (Nat.le_of_eq g1.symm))
  have g_b1 : n0 ≤ b1 := Nat.le_trans Z0 (Nat.le_of_eq g1.symm)
  have sz_b1 : h0.size ≤ b1 := Nat.le_trans (Keep.refl h0 []).1 (Nat.le_of_eq g1.symm)
  have V1 : IA Z h1 b1 .char 4 (fun k => .int ((fun _ => (0 : Int32)) k)) := IA.of_new A1 (by decide)
  refine Go.step (g' := (mkF m 19 #[.val (.int p0), .val (.int p1), .val (.int p2), .val (.int p3), .val (.int p4), .val (.int (p0.toUInt32.toUInt16.toUInt32.toInt32)), .val (.int (p1.toUInt32.toUInt16.toUInt32.toInt32)), .val (.int (p2.toUInt32.toUInt16.toUInt32.toInt32)), .val (.int (p3.toUInt32.toUInt16.toUInt32.toInt32)), .unset, .unset, .unset, .unset] [(.ref b1)])) st1 ?_
  refine Go.step (g' := (mkF m 20 #[.val (.int p0), .val (.int p1), .val (.int p2), .val (.int p3), .val (.int p4), .val (.int (p0.toUInt32.toUInt16.toUInt32.toInt32)), .val (.int (p1.toUInt32.toUInt16.toUInt32.toInt32)), .val (.int (p2.toUInt32.toUInt16.toUInt32.toInt32)), .val (.int (p3.toUInt32.toUInt16.toUInt32.toInt32)), .unset, .unset, .unset, .unset] [(.ref b1), (.ref b1)])) (fun _ k => XS.dup X1.here hx rfl (hb hby at_19) rfl rfl k) ?_
  refine Go.step (g' := (mkF m 21 #[.val (.int p0), .val (.int p1), .val (.int p2), .val (.int p3), .val (.int p4), .val (.int (p0.toUInt32.toUInt16.toUInt32.toInt32)), .val (.int (p1.toUInt32.toUInt16.toUInt32.toInt32)), .val (.int (p2.toUInt32.toUInt16.toUInt32.toInt32)), .val (.int (p3.toUInt32.toUInt16.toUInt32.toInt32)), .unset, .unset, .unset, .unset] [(.int (0 : Int32)), (.ref b1), (.ref b1)])) (fun _ k => XS.iconst X1.here hx rfl (hb hby at_20) k) ?_
  refine Go.step (g' := (mkF m 23 #[.val (.int p0), .val (.int p1), .val (.int p2), .val (.int p3), .val (.int p4), .val (.int (p0.toUInt32.toUInt16.toUInt32.toInt32)), .val (.int (p1.toUInt32.toUInt16.toUInt32.toInt32)), .val (.int (p2.toUInt32.toUInt16.toUInt32.toInt32)), .val (.int (p3.toUInt32.toUInt16.toUInt32.toInt32)), .unset, .unset, .unset, .unset] [(.int (p0.toUInt32.toUInt16.toUInt32.toInt32)), (.int (0 : Int32)), (.ref b1), (.ref b1)])) (fun _ k => XS.iload X1.here hx rfl (hb hby at_21) rfl  k) ?_
  obtain ⟨T2, h2, lc2, X2, e2, W2, N2, V2, st2⟩ := putAC X1 hx hZ e1 V1 (j := (0 : Int32)) (by decide) N0 g_b1 (gf := (mkF m 23 #[.val (.int p0), .val (.int p1), .val (.int p2), .val (.int p3), .val (.int p4), .val (.int (p0.toUInt32.toUInt16.toUInt32.toInt32)), .val (.int (p1.toUInt32.toUInt16.toUInt32.toInt32)), .val (.int (p2.toUInt32.toUInt16.toUInt32.toInt32)), .val (.int (p3.toUInt32.toUInt16.toUInt32.toInt32)), .unset, .unset, .unset, .unset] [(.int (p0.toUInt32.toUInt16.toUInt32.toInt32)), (.int (0 : Int32)), (.ref b1), (.ref b1)])) rfl rfl (hb hby at_23)
  refine Go.step (g' := (mkF m 24 #[.val (.int p0), .val (.int p1), .val (.int p2), .val (.int p3), .val (.int p4), .val (.int (p0.toUInt32.toUInt16.toUInt32.toInt32)), .val (.int (p1.toUInt32.toUInt16.toUInt32.toInt32)), .val (.int (p2.toUInt32.toUInt16.toUInt32.toInt32)), .val (.int (p3.toUInt32.toUInt16.toUInt32.toInt32)), .unset, .unset, .unset, .unset] [(.ref b1)])) st2 ?_
  refine Go.step (g' := (mkF m 25 #[.val (.int p0), .val (.int p1), .val (.int p2), .val (.int p3), .val (.int p4), .val (.int (p0.toUInt32.toUInt16.toUInt32.toInt32)), .val (.int (p1.toUInt32.toUInt16.toUInt32.toInt32)), .val (.int (p2.toUInt32.toUInt16.toUInt32.toInt32)), .val (.int (p3.toUInt32.toUInt16.toUInt32.toInt32)), .unset, .unset, .unset, .unset] [(.ref b1), (.ref b1)])) (fun _ k => XS.dup X2.here hx rfl (hb hby at_24) rfl rfl k) ?_
  refine Go.step (g' := (mkF m 26 #[.val (.int p0), .val (.int p1), .val (.int p2), .val (.int p3), .val (.int p4), .val (.int (p0.toUInt32.toUInt16.toUInt32.toInt32)), .val (.int (p1.toUInt32.toUInt16.toUInt32.toInt32)), .val (.int (p2.toUInt32.toUInt16.toUInt32.toInt32)), .val (.int (p3.toUInt32.toUInt16.toUInt32.toInt32)), .unset, .unset, .unset, .unset] [(.int (1 : Int32)), (.ref b1), (.ref b1)])) (fun _ k => XS.iconst X2.here hx rfl (hb hby at_25) k) ?_
  refine Go.step (g' := (mkF m 28 #[.val (.int p0), .val (.int p1), .val (.int p2), .val (.int p3), .val (.int p4), .val (.int (p0.toUInt32.toUInt16.toUInt32.toInt32)), .val (.int (p1.toUInt32.toUInt16.toUInt32.toInt32)), .val (.int (p2.toUInt32.toUInt16.toUInt32.toInt32)), .val (.int (p3.toUInt32.toUInt16.toUInt32.toInt32)), .unset, .unset, .unset, .unset] [(.int (p1.toUInt32.toUInt16.toUInt32.toInt32)), (.int (1 : Int32)), (.ref b1), (.ref b1)])) (fun _ k => XS.iload X2.here hx rfl (hb hby at_26) rfl  k) ?_
  obtain ⟨T3, h3, lc3, X3, e3, W3, N3, V3, st3⟩ := putAC X2 hx hZ e2 V2 (j := (1 : Int32)) (by decide) N2 g_b1 (gf := (mkF m 28 #[.val (.int p0), .val (.int p1), .val (.int p2), .val (.int p3), .val (.int p4), .val (.int (p0.toUInt32.toUInt16.toUInt32.toInt32)), .val (.int (p1.toUInt32.toUInt16.toUInt32.toInt32)), .val (.int (p2.toUInt32.toUInt16.toUInt32.toInt32)), .val (.int (p3.toUInt32.toUInt16.toUInt32.toInt32)), .unset, .unset, .unset, .unset] [(.int (p1.toUInt32.toUInt16.toUInt32.toInt32)), (.int (1 : Int32)), (.ref b1), (.ref b1)])) rfl rfl (hb hby at_28)
  refine Go.step (g' := (mkF m 29 #[.val (.int p0), .val (.int p1), .val (.int p2), .val (.int p3), .val (.int p4), .val (.int (p0.toUInt32.toUInt16.toUInt32.toInt32)), .val (.int (p1.toUInt32.toUInt16.toUInt32.toInt32)), .val (.int (p2.toUInt32.toUInt16.toUInt32.toInt32)), .val (.int (p3.toUInt32.toUInt16.toUInt32.toInt32)), .unset, .unset, .unset, .unset] [(.ref b1)])) st3 ?_
  have Q4 := (Nat.le_trans (Nat.le_trans (Nat.le_trans Z0 E1.1) (Keep.of_wr W2).1) (Keep.of_wr W3).1)
  have Q5 := ((((Keep.refl h0 []).ext E1).wr W2 (Or.inr sz_b1)).wr W3 (Or.inr sz_b1))
  refine Go.step (g' := (mkF m 30 #[.val (.int p0), .val (.int p1), .val (.int p2), .val (.int p3), .val (.int p4), .val (.int (p0.toUInt32.toUInt16.toUInt32.toInt32)), .val (.int (p1.toUInt32.toUInt16.toUInt32.toInt32)), .val (.int (p2.toUInt32.toUInt16.toUInt32.toInt32)), .val (.int (p3.toUInt32.toUInt16.toUInt32.toInt32)), .unset, .unset, .unset, .unset] [(.ref b1), (.ref b1)])) (fun _ k => XS.dup X3.here hx rfl (hb hby at_29) rfl rfl k) ?_
  refine Go.step (g' := (mkF m 31 #[.val (.int p0), .val (.int p1), .val (.int p2), .val (.int p3), .val (.int p4), .val (.int (p0.toUInt32.toUInt16.toUInt32.toInt32)), .val (.int (p1.toUInt32.toUInt16.toUInt32.toInt32)), .val (.int (p2.toUInt32.toUInt16.toUInt32.toInt32)), .val (.int (p3.toUInt32.toUInt16.toUInt32.toInt32)), .unset, .unset, .unset, .unset] [(.int (2 : Int32)), (.ref b1), (.ref b1)])) (fun _ k => XS.iconst X3.here hx rfl (hb hby at_30) k) ?_
  refine Go.step (g' := (mkF m 33 #[.val (.int p0), .val (.int p1), .val (.int p2), .val (.int p3), .val (.int p4), .val (.int (p0.toUInt32.toUInt16.toUInt32.toInt32)), .val (.int (p1.toUInt32.toUInt16.toUInt32.toInt32)), .val (.int (p2.toUInt32.toUInt16.toUInt32.toInt32)), .val (.int (p3.toUInt32.toUInt16.toUInt32.toInt32)), .unset, .unset, .unset, .unset] [(.int (p2.toUInt32.toUInt16.toUInt32.toInt32)), (.int (2 : Int32)), (.ref b1), (.ref b1)])) (fun _ k => XS.iload X3.here hx rfl (hb hby at_31) rfl  k) ?_
  obtain ⟨T6, h6, lc6, X6, e6, W6, N6, V6, st6⟩ := putAC X3 hx hZ e3 V3 (j := (2 : Int32)) (by decide) N3 g_b1 (gf := (mkF m 33 #[.val (.int p0), .val (.int p1), .val (.int p2), .val (.int p3), .val (.int p4), .val (.int (p0.toUInt32.toUInt16.toUInt32.toInt32)), .val (.int (p1.toUInt32.toUInt16.toUInt32.toInt32)), .val (.int (p2.toUInt32.toUInt16.toUInt32.toInt32)), .val (.int (p3.toUInt32.toUInt16.toUInt32.toInt32)), .unset, .unset, .unset, .unset] [(.int (p2.toUInt32.toUInt16.toUInt32.toInt32)), (.int (2 : Int32)), (.ref b1), (.ref b1)])) rfl rfl (hb hby at_33)
  refine Go.step (g' := (mkF m 34 #[.val (.int p0), .val (.int p1), .val (.int p2), .val (.int p3), .val (.int p4), .val (.int (p0.toUInt32.toUInt16.toUInt32.toInt32)), .val (.int (p1.toUInt32.toUInt16.toUInt32.toInt32)), .val (.int (p2.toUInt32.toUInt16.toUInt32.toInt32)), .val (.int (p3.toUInt32.toUInt16.toUInt32.toInt32)), .unset, .unset, .unset, .unset] [(.ref b1)])) st6 ?_
  have Q7 := ((((A_F.ext E1).other W2 ne_wF_b1).other W3 ne_wF_b1).other W6 ne_wF_b1)
  refine Go.step (g' := (mkF m 35 #[.val (.int p0), .val (.int p1), .val (.int p2), .val (.int p3), .val (.int p4), .val (.int (p0.toUInt32.toUInt16.toUInt32.toInt32)), .val (.int (p1.toUInt32.toUInt16.toUInt32.toInt32)), .val (.int (p2.toUInt32.toUInt16.toUInt32.toInt32)), .val (.int (p3.toUInt32.toUInt16.toUInt32.toInt32)), .unset, .unset, .unset, .unset] [(.ref b1), (.ref b1)])) (fun _ k => XS.dup X6.here hx rfl (hb hby at_34) rfl rfl k) ?_
  refine Go.step (g' := (mkF m 36 #[.val (.int p0), .val (.int p1), .val (.int p2), .val (.int p3), .val (.int p4), .val (.int (p0.toUInt32.toUInt16.toUInt32.toInt32)), .val (.int (p1.toUInt32.toUInt16.toUInt32.toInt32)), .val (.int (p2.toUInt32.toUInt16.toUInt32.toInt32)), .val (.int (p3.toUInt32.toUInt16.toUInt32.toInt32)), .unset, .unset, .unset, .unset] [(.int (3 : Int32)), (.ref b1), (.ref b1)])) (fun _ k => XS.iconst X6.here hx rfl (hb hby at_35) k) ?_
  refine Go.step (g' := (mkF m 38 #[.val (.int p0), .val (.int p1), .val (.int p2), .val (.int p3), .val (.int p4), .val (.int (p0.toUInt32.toUInt16.toUInt32.toInt32)), .val (.int (p1.toUInt32.toUInt16.toUInt32.toInt32)), .val (.int (p2.toUInt32.toUInt16.toUInt32.toInt32)), .val (.int (p3.toUInt32.toUInt16.toUInt32.toInt32)), .unset, .unset, .unset, .unset] [(.int (p3.toUInt32.toUInt16.toUInt32.toInt32)), (.int (3 : Int32)), (.ref b1), (.ref b1)])) (fun _ k => XS.iload X6.here hx rfl (hb hby at_36) rfl  k) ?_
  obtain ⟨T8, h8, lc8, X8, e8, W8, N8, V8, st8⟩ := putAC X6 hx hZ e6 V6 (j := (3 : Int32)) (by decide) N6 g_b1 (gf := (mkF m 38 #[.val (.int p0), .val (.int p1), .val (.int p2), .val (.int p3), .val (.int p4), .val (.int (p0.toUInt32.toUInt16.toUInt32.toInt32)), .val (.int (p1.toUInt32.toUInt16.toUInt32.toInt32)), .val (.int (p2.toUInt32.toUInt16.toUInt32.toInt32)), .val (.int (p3.toUInt32.toUInt16.toUInt32.toInt32)), .unset, .unset, .unset, .unset] [(.int (p3.toUInt32.toUInt16.toUInt32.toInt32)), (.int (3 : Int32)), (.ref b1), (.ref b1)])) rfl rfl (hb hby at_38)
  refine Go.step (g' := (mkF m 39 #[.val (.int p0), .val (.int p1), .val (.int p2), .val (.int p3), .val (.int p4), .val (.int (p0.toUInt32.toUInt16.toUInt32.toInt32)), .val (.int (p1.toUInt32.toUInt16.toUInt32.toInt32)), .val (.int (p2.toUInt32.toUInt16.toUInt32.toInt32)), .val (.int (p3.toUInt32.toUInt16.toUInt32.toInt32)), .unset, .unset, .unset, .unset] [(.ref b1)])) st8 ?_
  have Q9 := (Nat.le_trans (Nat.le_trans Q4 (Keep.of_wr W6).1) (Keep.of_wr W8).1)
  refine Go.step (g' := (mkF m 41 #[.val (.int p0), .val (.int p1), .val (.int p2), .val (.int p3), .val (.int p4), .val (.int (p0.toUInt32.toUInt16.toUInt32.toInt32)), .val (.int (p1.toUInt32.toUInt16.toUInt32.toInt32)), .val (.int (p2.toUInt32.toUInt16.toUInt32.toInt32)), .val (.int (p3.toUInt32.toUInt16.toUInt32.toInt32)), .val (.ref b1), .unset, .unset, .unset] [])) (fun _ k => XS.astore X8.here hx rfl (hb hby at_39) rfl rfl (l' := #[.val (.int p0), .val (.int p1), .val (.int p2), .val (.int p3), .val (.int p4), .val (.int (p0.toUInt32.toUInt16.toUInt32.toInt32)), .val (.int (p1.toUInt32.toUInt16.toUInt32.toInt32)), .val (.int (p2.toUInt32.toUInt16.toUInt32.toInt32)), .val (.int (p3.toUInt32.toUInt16.toUInt32.toInt32)), .val (.ref b1), .unset, .unset, .unset]) rfl k) ?_
  refine Go.step (g' := (mkF m 43 #[.val (.int p0), .val (.int p1), .val (.int p2), .val (.int p3), .val (.int p4), .val (.int (p0.toUInt32.toUInt16.toUInt32.toInt32)), .val (.int (p1.toUInt32.toUInt16.toUInt32.toInt32)), .val (.int (p2.toUInt32.toUInt16.toUInt32.toInt32)), .val (.int (p3.toUInt32.toUInt16.toUInt32.toInt32)), .val (.ref b1), .unset, .unset, .unset] [(.int p4)])) (fun _ k => XS.iload X8.here hx rfl (hb hby at_41) rfl  k) ?_
  refine Go.step (g' := (mkF m 45 #[.val (.int p0), .val (.int p1), .val (.int p2), .val (.int p3), .val (.int p4), .val (.int (p0.toUInt32.toUInt16.toUInt32.toInt32)), .val (.int (p1.toUInt32.toUInt16.toUInt32.toInt32)), .val (.int (p2.toUInt32.toUInt16.toUInt32.toInt32)), .val (.int (p3.toUInt32.toUInt16.toUInt32.toInt32)), .val (.ref b1), .unset, .unset, .unset] [(.int (2147483647 : Int32)), (.int p4)])) (fun _ k => X8.ldcI hx hown (mvT hZ (hw _ (List.mem_of_getElem? (i := 1) rfl))) rfl (hb hby at_43) k) ?_
  refine Go.step (g' := (mkF m 46 #[.val (.int p0), .val (.int p1), .val (.int p2), .val (.int p3), .val (.int p4), .val (.int (p0.toUInt32.toUInt16.toUInt32.toInt32)), .val (.int (p1.toUInt32.toUInt16.toUInt32.toInt32)), .val (.int (p2.toUInt32.toUInt16.toUInt32.toInt32)), .val (.int (p3.toUInt32.toUInt16.toUInt32.toInt32)), .val (.ref b1), .unset, .unset, .unset] [(.int (p4 &&& (2147483647 : Int32)))])) (fun _ k => XS.iand X8.here hx rfl (hb hby at_45) rfl k) ?_
  refine Go.step (g' := (mkF m 47 #[.val (.int p0), .val (.int p1), .val (.int p2), .val (.int p3), .val (.int p4), .val (.int (p0.toUInt32.toUInt16.toUInt32.toInt32)), .val (.int (p1.toUInt32.toUInt16.toUInt32.toInt32)), .val (.int (p2.toUInt32.toUInt16.toUInt32.toInt32)), .val (.int (p3.toUInt32.toUInt16.toUInt32.toInt32)), .val (.ref b1), .unset, .unset, .unset] [(.int (5 : Int32)), (.int (p4 &&& (2147483647 : Int32)))])) (fun _ k => XS.iconst X8.here hx rfl (hb hby at_46) k) ?_
  refine Go.step (g' := (mkF m 48 #[.val (.int p0), .val (.int p1), .val (.int p2), .val (.int p3), .val (.int p4), .val (.int (p0.toUInt32.toUInt16.toUInt32.toInt32)), .val (.int (p1.toUInt32.toUInt16.toUInt32.toInt32)), .val (.int (p2.toUInt32.toUInt16.toUInt32.toInt32)), .val (.int (p3.toUInt32.toUInt16.toUInt32.toInt32)), .val (.ref b1), .unset, .unset, .unset] [(.int ((p4 &&& (2147483647 : Int32)) % (5 : Int32)))])) (fun _ k => Jvm.RoadKit.iremM X8 hx rfl (hb hby at_47) rfl (by decide) k) ?_
  refine Go.step (g' := (mkF m 50 #[.val (.int p0), .val (.int p1), .val (.int p2), .val (.int p3), .val (.int p4), .val (.int (p0.toUInt32.toUInt16.toUInt32.toInt32)), .val (.int (p1.toUInt32.toUInt16.toUInt32.toInt32)), .val (.int (p2.toUInt32.toUInt16.toUInt32.toInt32)), .val (.int (p3.toUInt32.toUInt16.toUInt32.toInt32)), .val (.ref b1), .val (.int ((p4 &&& (2147483647 : Int32)) % (5 : Int32))), .unset, .unset] [])) (fun _ k => XS.istore X8.here hx rfl (hb hby at_48) rfl (l' := #[.val (.int p0), .val (.int p1), .val (.int p2), .val (.int p3), .val (.int p4), .val (.int (p0.toUInt32.toUInt16.toUInt32.toInt32)), .val (.int (p1.toUInt32.toUInt16.toUInt32.toInt32)), .val (.int (p2.toUInt32.toUInt16.toUInt32.toInt32)), .val (.int (p3.toUInt32.toUInt16.toUInt32.toInt32)), .val (.ref b1), .val (.int ((p4 &&& (2147483647 : Int32)) % (5 : Int32))), .unset, .unset]) rfl k) ?_
  refine Go.step (g' := (mkF m 52 #[.val (.int p0), .val (.int p1), .val (.int p2), .val (.int p3), .val (.int p4), .val (.int (p0.toUInt32.toUInt16.toUInt32.toInt32)), .val (.int (p1.toUInt32.toUInt16.toUInt32.toInt32)), .val (.int (p2.toUInt32.toUInt16.toUInt32.toInt32)), .val (.int (p3.toUInt32.toUInt16.toUInt32.toInt32)), .val (.ref b1), .val (.int ((p4 &&& (2147483647 : Int32)) % (5 : Int32))), .unset, .unset] [(.int ((p4 &&& (2147483647 : Int32)) % (5 : Int32)))])) (fun _ k => XS.iload X8.here hx rfl (hb hby at_50) rfl  k) ?_
  have t110 : ∀ (T_110 : State) (X_110 : Stand p l e room_1 s m #[(.int p0), (.int p1), (.int p2), (.int p3), (.int p4)] below meth c T_110 lc8 (0 + 1) (0 + 4)) (e_110 : T_110.heap = h8) (v110_s0 : Int32), Go p e below s room_1.cells room_1.slots (LawQ (some (.int (f0_110 p0 p1 p2 p3 p4 fw v110_s0))) n0) T_110 (mkF m 110 #[.val (.int p0), .val (.int p1), .val (.int p2), .val (.int p3), .val (.int p4), .val (.int (p0.toUInt32.toUInt16.toUInt32.toInt32)), .val (.int (p1.toUInt32.toUInt16.toUInt32.toInt32)), .val (.int (p2.toUInt32.toUInt16.toUInt32.toInt32)), .val (.int (p3.toUInt32.toUInt16.toUInt32.toInt32)), .val (.ref b1), .val (.int ((p4 &&& (2147483647 : Int32)) % (5 : Int32))), .unset, .unset] [(.int v110_s0)]) := by
    intro T_110 X_110 e_110 v110_s0
    refine Go.step (g' := (mkF m 112 #[.val (.int p0), .val (.int p1), .val (.int p2), .val (.int p3), .val (.int p4), .val (.int (p0.toUInt32.toUInt16.toUInt32.toInt32)), .val (.int (p1.toUInt32.toUInt16.toUInt32.toInt32)), .val (.int (p2.toUInt32.toUInt16.toUInt32.toInt32)), .val (.int (p3.toUInt32.toUInt16.toUInt32.toInt32)), .val (.ref b1), .val (.int ((p4 &&& (2147483647 : Int32)) % (5 : Int32))), .val (.int v110_s0), .unset] [])) (fun _ k => XS.istore X_110.here hx rfl (hb hby at_110) rfl (l' := #[.val (.int p0), .val (.int p1), .val (.int p2), .val (.int p3), .val (.int p4), .val (.int (p0.toUInt32.toUInt16.toUInt32.toInt32)), .val (.int (p1.toUInt32.toUInt16.toUInt32.toInt32)), .val (.int (p2.toUInt32.toUInt16.toUInt32.toInt32)), .val (.int (p3.toUInt32.toUInt16.toUInt32.toInt32)), .val (.ref b1), .val (.int ((p4 &&& (2147483647 : Int32)) % (5 : Int32))), .val (.int v110_s0), .unset]) rfl k) ?_
    refine Go.step (g' := (mkF m 114 #[.val (.int p0), .val (.int p1), .val (.int p2), .val (.int p3), .val (.int p4), .val (.int (p0.toUInt32.toUInt16.toUInt32.toInt32)), .val (.int (p1.toUInt32.toUInt16.toUInt32.toInt32)), .val (.int (p2.toUInt32.toUInt16.toUInt32.toInt32)), .val (.int (p3.toUInt32.toUInt16.toUInt32.toInt32)), .val (.ref b1), .val (.int ((p4 &&& (2147483647 : Int32)) % (5 : Int32))), .val (.int v110_s0), .unset] [(.ref b1)])) (fun _ k => XS.aload X_110.here hx rfl (hb hby at_112) rfl rfl  k) ?_
    refine Go.step (g' := (mkF m 116 #[.val (.int p0), .val (.int p1), .val (.int p2), .val (.int p3), .val (.int p4), .val (.int (p0.toUInt32.toUInt16.toUInt32.toInt32)), .val (.int (p1.toUInt32.toUInt16.toUInt32.toInt32)), .val (.int (p2.toUInt32.toUInt16.toUInt32.toInt32)), .val (.int (p3.toUInt32.toUInt16.toUInt32.toInt32)), .val (.ref b1), .val (.int ((p4 &&& (2147483647 : Int32)) % (5 : Int32))), .val (.int v110_s0), .unset] [(.int ((p4 &&& (2147483647 : Int32)) % (5 : Int32))), (.ref b1)])) (fun _ k => XS.iload X_110.here hx rfl (hb hby at_114) rfl  k) ?_
    obtain ⟨_, _, ⟨T14, L14, k14, n14⟩, -, X14, ⟨Lc14, hQ14, l14, y14, z14⟩, st14⟩ := Jvm.LawKit.callS X_110 hx (y := (⟨"com/example/zahlwerk/zahlwerk/rules/ImpayCharacters", "changed", "([CI)Z"⟩ : MethodName)) hown (mvT hZ (hw _ (List.mem_of_getElem? (i := 2) rfl))) (mvT hZ (hw _ (List.mem_of_getElem? (i := 3) rfl))) (mvT hZ (hw _ (List.mem_of_getElem? (i := 4) rfl))) (mvT hZ (hw _ (List.mem_of_getElem? (i := 5) rfl))) (by decide) (backOf (W := 0) (rm1 l Z a0 hw [] b1 ((p4 &&& (2147483647 : Int32)) % (5 : Int32)) wF (upd (upd (upd (upd (fun _ => (0 : Int32)) (0 : Int32).toNatClampNeg (nar .char (p0.toUInt32.toUInt16.toUInt32.toInt32))) (1 : Int32).toNatClampNeg (nar .char (p1.toUInt32.toUInt16.toUInt32.toInt32))) (2 : Int32).toNatClampNeg (nar .char (p2.toUInt32.toUInt16.toUInt32.toInt32))) (3 : Int32).toNatClampNeg (nar .char (p3.toUInt32.toUInt16.toUInt32.toInt32))) fw h8 (((((S_F.ext E1).wr W2).wr W3).wr W6).wr W8) (Q7.other W8 ne_wF_b1) V8 (own_len _) (own_pos4 _ _ _ _)) hZ (hw _ (List.mem_of_getElem? (i := 5) rfl)) (hw _ (List.mem_of_getElem? (i := 4) rfl)) (by decide) (by decide)) (g := (mkF m 116 #[.val (.int p0), .val (.int p1), .val (.int p2), .val (.int p3), .val (.int p4), .val (.int (p0.toUInt32.toUInt16.toUInt32.toInt32)), .val (.int (p1.toUInt32.toUInt16.toUInt32.toInt32)), .val (.int (p2.toUInt32.toUInt16.toUInt32.toInt32)), .val (.int (p3.toUInt32.toUInt16.toUInt32.toInt32)), .val (.ref b1), .val (.int ((p4 &&& (2147483647 : Int32)) % (5 : Int32))), .val (.int v110_s0), .unset] [(.int ((p4 &&& (2147483647 : Int32)) % (5 : Int32))), (.ref b1)])) rfl (by rw [hml]; rfl) (argsL := [(.ref b1), (.int ((p4 &&& (2147483647 : Int32)) % (5 : Int32)))]) (rest := []) (lenOf pd_1 rfl) rfl (by show 2 * 0 + _ ≤ _; exact Nat.le_of_eq rfl) (hb hby at_116) (fun _ _ => ⟨rfl, e_110, (by decide : (0 + 1) + 0 ≤ _), (by decide : (0 + 4) + 0 ≤ _)⟩)
    dsimp only [Pt.U, Pt.locs, Pt.cells, Pt.slots] at X14 l14 y14 z14 st14 hQ14
    subst l14 y14 z14
    obtain ⟨rfl, rfl, e14⟩ := hQ14
    try rw [List.append_nil] at X14
    refine Go.step (g' := (mkF m 119 #[.val (.int p0), .val (.int p1), .val (.int p2), .val (.int p3), .val (.int p4), .val (.int (p0.toUInt32.toUInt16.toUInt32.toInt32)), .val (.int (p1.toUInt32.toUInt16.toUInt32.toInt32)), .val (.int (p2.toUInt32.toUInt16.toUInt32.toInt32)), .val (.int (p3.toUInt32.toUInt16.toUInt32.toInt32)), .val (.ref b1), .val (.int ((p4 &&& (2147483647 : Int32)) % (5 : Int32))), .val (.int v110_s0), .unset] [(.int (f1_0 ((p4 &&& (2147483647 : Int32)) % (5 : Int32)) (upd (upd (upd (upd (fun _ => (0 : Int32)) (0 : Int32).toNatClampNeg (nar .char (p0.toUInt32.toUInt16.toUInt32.toInt32))) (1 : Int32).toNatClampNeg (nar .char (p1.toUInt32.toUInt16.toUInt32.toInt32))) (2 : Int32).toNatClampNeg (nar .char (p2.toUInt32.toUInt16.toUInt32.toInt32))) (3 : Int32).toNatClampNeg (nar .char (p3.toUInt32.toUInt16.toUInt32.toInt32))) fw))])) st14 ?_
    refine Go.step (g' := (mkF m 121 #[.val (.int p0), .val (.int p1), .val (.int p2), .val (.int p3), .val (.int p4), .val (.int (p0.toUInt32.toUInt16.toUInt32.toInt32)), .val (.int (p1.toUInt32.toUInt16.toUInt32.toInt32)), .val (.int (p2.toUInt32.toUInt16.toUInt32.toInt32)), .val (.int (p3.toUInt32.toUInt16.toUInt32.toInt32)), .val (.ref b1), .val (.int ((p4 &&& (2147483647 : Int32)) % (5 : Int32))), .val (.int v110_s0), .val (.int (f1_0 ((p4 &&& (2147483647 : Int32)) % (5 : Int32)) (upd (upd (upd (upd (fun _ => (0 : Int32)) (0 : Int32).toNatClampNeg (nar .char (p0.toUInt32.toUInt16.toUInt32.toInt32))) (1 : Int32).toNatClampNeg (nar .char (p1.toUInt32.toUInt16.toUInt32.toInt32))) (2 : Int32).toNatClampNeg (nar .char (p2.toUInt32.toUInt16.toUInt32.toInt32))) (3 : Int32).toNatClampNeg (nar .char (p3.toUInt32.toUInt16.toUInt32.toInt32))) fw))] [])) (fun _ k => XS.istore X14.here hx rfl (hb hby at_119) rfl (l' := #[.val (.int p0), .val (.int p1), .val (.int p2), .val (.int p3), .val (.int p4), .val (.int (p0.toUInt32.toUInt16.toUInt32.toInt32)), .val (.int (p1.toUInt32.toUInt16.toUInt32.toInt32)), .val (.int (p2.toUInt32.toUInt16.toUInt32.toInt32)), .val (.int (p3.toUInt32.toUInt16.toUInt32.toInt32)), .val (.ref b1), .val (.int ((p4 &&& (2147483647 : Int32)) % (5 : Int32))), .val (.int v110_s0), .val (.int (f1_0 ((p4 &&& (2147483647 : Int32)) % (5 : Int32)) (upd (upd (upd (upd (fun _ => (0 : Int32)) (0 : Int32).toNatClampNeg (nar .char (p0.toUInt32.toUInt16.toUInt32.toInt32))) (1 : Int32).toNatClampNeg (nar .char (p1.toUInt32.toUInt16.toUInt32.toInt32))) (2 : Int32).toNatClampNeg (nar .char (p2.toUInt32.toUInt16.toUInt32.toInt32))) (3 : Int32).toNatClampNeg (nar .char (p3.toUInt32.toUInt16.toUInt32.toInt32))) fw))]) rfl k) ?_
    refine Go.step (g' := (mkF m 123 #[.val (.int p0), .val (.int p1), .val (.int p2), .val (.int p3), .val (.int p4), .val (.int (p0.toUInt32.toUInt16.toUInt32.toInt32)), .val (.int (p1.toUInt32.toUInt16.toUInt32.toInt32)), .val (.int (p2.toUInt32.toUInt16.toUInt32.toInt32)), .val (.int (p3.toUInt32.toUInt16.toUInt32.toInt32)), .val (.ref b1), .val (.int ((p4 &&& (2147483647 : Int32)) % (5 : Int32))), .val (.int v110_s0), .val (.int (f1_0 ((p4 &&& (2147483647 : Int32)) % (5 : Int32)) (upd (upd (upd (upd (fun _ => (0 : Int32)) (0 : Int32).toNatClampNeg (nar .char (p0.toUInt32.toUInt16.toUInt32.toInt32))) (1 : Int32).toNatClampNeg (nar .char (p1.toUInt32.toUInt16.toUInt32.toInt32))) (2 : Int32).toNatClampNeg (nar .char (p2.toUInt32.toUInt16.toUInt32.toInt32))) (3 : Int32).toNatClampNeg (nar .char (p3.toUInt32.toUInt16.toUInt32.toInt32))) fw))] [(.int (f1_0 ((p4 &&& (2147483647 : Int32)) % (5 : Int32)) (upd (upd (upd (upd (fun _ => (0 : Int32)) (0 : Int32).toNatClampNeg (nar .char (p0.toUInt32.toUInt16.toUInt32.toInt32))) (1 : Int32).toNatClampNeg (nar .char (p1.toUInt32.toUInt16.toUInt32.toInt32))) (2 : Int32).toNatClampNeg (nar .char (p2.toUInt32.toUInt16.toUInt32.toInt32))) (3 : Int32).toNatClampNeg (nar .char (p3.toUInt32.toUInt16.toUInt32.toInt32))) fw))])) (fun _ k => XS.iload X14.here hx rfl (hb hby at_121) rfl  k) ?_
    refine Go.step (g' := (mkF m 125 #[.val (.int p0), .val (.int p1), .val (.int p2), .val (.int p3), .val (.int p4), .val (.int (p0.toUInt32.toUInt16.toUInt32.toInt32)), .val (.int (p1.toUInt32.toUInt16.toUInt32.toInt32)), .val (.int (p2.toUInt32.toUInt16.toUInt32.toInt32)), .val (.int (p3.toUInt32.toUInt16.toUInt32.toInt32)), .val (.ref b1), .val (.int ((p4 &&& (2147483647 : Int32)) % (5 : Int32))), .val (.int v110_s0), .val (.int (f1_0 ((p4 &&& (2147483647 : Int32)) % (5 : Int32)) (upd (upd (upd (upd (fun _ => (0 : Int32)) (0 : Int32).toNatClampNeg (nar .char (p0.toUInt32.toUInt16.toUInt32.toInt32))) (1 : Int32).toNatClampNeg (nar .char (p1.toUInt32.toUInt16.toUInt32.toInt32))) (2 : Int32).toNatClampNeg (nar .char (p2.toUInt32.toUInt16.toUInt32.toInt32))) (3 : Int32).toNatClampNeg (nar .char (p3.toUInt32.toUInt16.toUInt32.toInt32))) fw))] [(.int v110_s0), (.int (f1_0 ((p4 &&& (2147483647 : Int32)) % (5 : Int32)) (upd (upd (upd (upd (fun _ => (0 : Int32)) (0 : Int32).toNatClampNeg (nar .char (p0.toUInt32.toUInt16.toUInt32.toInt32))) (1 : Int32).toNatClampNeg (nar .char (p1.toUInt32.toUInt16.toUInt32.toInt32))) (2 : Int32).toNatClampNeg (nar .char (p2.toUInt32.toUInt16.toUInt32.toInt32))) (3 : Int32).toNatClampNeg (nar .char (p3.toUInt32.toUInt16.toUInt32.toInt32))) fw))])) (fun _ k => XS.iload X14.here hx rfl (hb hby at_123) rfl  k) ?_
    have t133 : ∀ (v133_s0 : Int32), Go p e below s room_1.cells room_1.slots (LawQ (some (.int (f0_133 v133_s0))) n0) T14 (mkF m 133 #[.val (.int p0), .val (.int p1), .val (.int p2), .val (.int p3), .val (.int p4), .val (.int (p0.toUInt32.toUInt16.toUInt32.toInt32)), .val (.int (p1.toUInt32.toUInt16.toUInt32.toInt32)), .val (.int (p2.toUInt32.toUInt16.toUInt32.toInt32)), .val (.int (p3.toUInt32.toUInt16.toUInt32.toInt32)), .val (.ref b1), .val (.int ((p4 &&& (2147483647 : Int32)) % (5 : Int32))), .val (.int v110_s0), .val (.int (f1_0 ((p4 &&& (2147483647 : Int32)) % (5 : Int32)) (upd (upd (upd (upd (fun _ => (0 : Int32)) (0 : Int32).toNatClampNeg (nar .char (p0.toUInt32.toUInt16.toUInt32.toInt32))) (1 : Int32).toNatClampNeg (nar .char (p1.toUInt32.toUInt16.toUInt32.toInt32))) (2 : Int32).toNatClampNeg (nar .char (p2.toUInt32.toUInt16.toUInt32.toInt32))) (3 : Int32).toNatClampNeg (nar .char (p3.toUInt32.toUInt16.toUInt32.toInt32))) fw))] [(.int v133_s0)]) := by
      intro v133_s0
      exact Go.retN X14 hx hlk (t := .boolean) Bd.returns (by simp) (hb hby at_133) (by decide) (by decide) ⟨rfl, N8⟩
    by_cases hc125 : (f1_0 ((p4 &&& (2147483647 : Int32)) % (5 : Int32)) (upd (upd (upd (upd (fun _ => (0 : Int32)) (0 : Int32).toNatClampNeg (nar .char (p0.toUInt32.toUInt16.toUInt32.toInt32))) (1 : Int32).toNatClampNeg (nar .char (p1.toUInt32.toUInt16.toUInt32.toInt32))) (2 : Int32).toNatClampNeg (nar .char (p2.toUInt32.toUInt16.toUInt32.toInt32))) (3 : Int32).toNatClampNeg (nar .char (p3.toUInt32.toUInt16.toUInt32.toInt32))) fw) = v110_s0
    · rw [show (f0_110 p0 p1 p2 p3 p4 fw v110_s0) = f0_128 from if_pos hc125]
      refine Go.step (g' := (mkF m 128 #[.val (.int p0), .val (.int p1), .val (.int p2), .val (.int p3), .val (.int p4), .val (.int (p0.toUInt32.toUInt16.toUInt32.toInt32)), .val (.int (p1.toUInt32.toUInt16.toUInt32.toInt32)), .val (.int (p2.toUInt32.toUInt16.toUInt32.toInt32)), .val (.int (p3.toUInt32.toUInt16.toUInt32.toInt32)), .val (.ref b1), .val (.int ((p4 &&& (2147483647 : Int32)) % (5 : Int32))), .val (.int v110_s0), .val (.int (f1_0 ((p4 &&& (2147483647 : Int32)) % (5 : Int32)) (upd (upd (upd (upd (fun _ => (0 : Int32)) (0 : Int32).toNatClampNeg (nar .char (p0.toUInt32.toUInt16.toUInt32.toInt32))) (1 : Int32).toNatClampNeg (nar .char (p1.toUInt32.toUInt16.toUInt32.toInt32))) (2 : Int32).toNatClampNeg (nar .char (p2.toUInt32.toUInt16.toUInt32.toInt32))) (3 : Int32).toNatClampNeg (nar .char (p3.toUInt32.toUInt16.toUInt32.toInt32))) fw))] [])) (fun _ k => XS.icmpNo X14.here hx rfl (hb hby at_125) rfl (teq hc125).2 k) ?_
      refine Go.step (g' := (mkF m 129 #[.val (.int p0), .val (.int p1), .val (.int p2), .val (.int p3), .val (.int p4), .val (.int (p0.toUInt32.toUInt16.toUInt32.toInt32)), .val (.int (p1.toUInt32.toUInt16.toUInt32.toInt32)), .val (.int (p2.toUInt32.toUInt16.toUInt32.toInt32)), .val (.int (p3.toUInt32.toUInt16.toUInt32.toInt32)), .val (.ref b1), .val (.int ((p4 &&& (2147483647 : Int32)) % (5 : Int32))), .val (.int v110_s0), .val (.int (f1_0 ((p4 &&& (2147483647 : Int32)) % (5 : Int32)) (upd (upd (upd (upd (fun _ => (0 : Int32)) (0 : Int32).toNatClampNeg (nar .char (p0.toUInt32.toUInt16.toUInt32.toInt32))) (1 : Int32).toNatClampNeg (nar .char (p1.toUInt32.toUInt16.toUInt32.toInt32))) (2 : Int32).toNatClampNeg (nar .char (p2.toUInt32.toUInt16.toUInt32.toInt32))) (3 : Int32).toNatClampNeg (nar .char (p3.toUInt32.toUInt16.toUInt32.toInt32))) fw))] [(.int (1 : Int32))])) (fun _ k => XS.iconst X14.here hx rfl (hb hby at_128) k) ?_
      refine Go.step (g' := (mkF m 133 #[.val (.int p0), .val (.int p1), .val (.int p2), .val (.int p3), .val (.int p4), .val (.int (p0.toUInt32.toUInt16.toUInt32.toInt32)), .val (.int (p1.toUInt32.toUInt16.toUInt32.toInt32)), .val (.int (p2.toUInt32.toUInt16.toUInt32.toInt32)), .val (.int (p3.toUInt32.toUInt16.toUInt32.toInt32)), .val (.ref b1), .val (.int ((p4 &&& (2147483647 : Int32)) % (5 : Int32))), .val (.int v110_s0), .val (.int (f1_0 ((p4 &&& (2147483647 : Int32)) % (5 : Int32)) (upd (upd (upd (upd (fun _ => (0 : Int32)) (0 : Int32).toNatClampNeg (nar .char (p0.toUInt32.toUInt16.toUInt32.toInt32))) (1 : Int32).toNatClampNeg (nar .char (p1.toUInt32.toUInt16.toUInt32.toInt32))) (2 : Int32).toNatClampNeg (nar .char (p2.toUInt32.toUInt16.toUInt32.toInt32))) (3 : Int32).toNatClampNeg (nar .char (p3.toUInt32.toUInt16.toUInt32.toInt32))) fw))] [(.int (1 : Int32))])) (fun _ k => XS.goto X14.here hx rfl (pc0 := 129) (pc' := 133) rfl (hb hby at_129) (by decide) (by decide) k) ?_
      rw [show f0_128 = (f0_133 (1 : Int32)) from rfl]
      exact t133 (1 : Int32)
    · rw [show (f0_110 p0 p1 p2 p3 p4 fw v110_s0) = f0_132 from if_neg hc125]
      refine Go.step (g' := (mkF m 132 #[.val (.int p0), .val (.int p1), .val (.int p2), .val (.int p3), .val (.int p4), .val (.int (p0.toUInt32.toUInt16.toUInt32.toInt32)), .val (.int (p1.toUInt32.toUInt16.toUInt32.toInt32)), .val (.int (p2.toUInt32.toUInt16.toUInt32.toInt32)), .val (.int (p3.toUInt32.toUInt16.toUInt32.toInt32)), .val (.ref b1), .val (.int ((p4 &&& (2147483647 : Int32)) % (5 : Int32))), .val (.int v110_s0), .val (.int (f1_0 ((p4 &&& (2147483647 : Int32)) % (5 : Int32)) (upd (upd (upd (upd (fun _ => (0 : Int32)) (0 : Int32).toNatClampNeg (nar .char (p0.toUInt32.toUInt16.toUInt32.toInt32))) (1 : Int32).toNatClampNeg (nar .char (p1.toUInt32.toUInt16.toUInt32.toInt32))) (2 : Int32).toNatClampNeg (nar .char (p2.toUInt32.toUInt16.toUInt32.toInt32))) (3 : Int32).toNatClampNeg (nar .char (p3.toUInt32.toUInt16.toUInt32.toInt32))) fw))] [])) (fun _ k => XS.icmpYes X14.here hx rfl (pc0 := 125) (pc' := 132) rfl (hb hby at_125) rfl (feq hc125).2 (by decide) (by decide) k) ?_
      refine Go.step (g' := (mkF m 133 #[.val (.int p0), .val (.int p1), .val (.int p2), .val (.int p3), .val (.int p4), .val (.int (p0.toUInt32.toUInt16.toUInt32.toInt32)), .val (.int (p1.toUInt32.toUInt16.toUInt32.toInt32)), .val (.int (p2.toUInt32.toUInt16.toUInt32.toInt32)), .val (.int (p3.toUInt32.toUInt16.toUInt32.toInt32)), .val (.ref b1), .val (.int ((p4 &&& (2147483647 : Int32)) % (5 : Int32))), .val (.int v110_s0), .val (.int (f1_0 ((p4 &&& (2147483647 : Int32)) % (5 : Int32)) (upd (upd (upd (upd (fun _ => (0 : Int32)) (0 : Int32).toNatClampNeg (nar .char (p0.toUInt32.toUInt16.toUInt32.toInt32))) (1 : Int32).toNatClampNeg (nar .char (p1.toUInt32.toUInt16.toUInt32.toInt32))) (2 : Int32).toNatClampNeg (nar .char (p2.toUInt32.toUInt16.toUInt32.toInt32))) (3 : Int32).toNatClampNeg (nar .char (p3.toUInt32.toUInt16.toUInt32.toInt32))) fw))] [(.int (0 : Int32))])) (fun _ k => XS.iconst X14.here hx rfl (hb hby at_132) k) ?_
      rw [show f0_132 = (f0_133 (0 : Int32)) from rfl]
      exact t133 (0 : Int32)
  have t105 : ∀ (T_105 : State) (X_105 : Stand p l e room_1 s m #[(.int p0), (.int p1), (.int p2), (.int p3), (.int p4)] below meth c T_105 lc8 (0 + 1) (0 + 4)) (e_105 : T_105.heap = h8), Go p e below s room_1.cells room_1.slots (LawQ (some (.int (f0_105 p0 p1 p2 p3 p4 fw))) n0) T_105 (mkF m 105 #[.val (.int p0), .val (.int p1), .val (.int p2), .val (.int p3), .val (.int p4), .val (.int (p0.toUInt32.toUInt16.toUInt32.toInt32)), .val (.int (p1.toUInt32.toUInt16.toUInt32.toInt32)), .val (.int (p2.toUInt32.toUInt16.toUInt32.toInt32)), .val (.int (p3.toUInt32.toUInt16.toUInt32.toInt32)), .val (.ref b1), .val (.int ((p4 &&& (2147483647 : Int32)) % (5 : Int32))), .unset, .unset] []) := by
    intro T_105 X_105 e_105
    refine Go.step (g' := (mkF m 106 #[.val (.int p0), .val (.int p1), .val (.int p2), .val (.int p3), .val (.int p4), .val (.int (p0.toUInt32.toUInt16.toUInt32.toInt32)), .val (.int (p1.toUInt32.toUInt16.toUInt32.toInt32)), .val (.int (p2.toUInt32.toUInt16.toUInt32.toInt32)), .val (.int (p3.toUInt32.toUInt16.toUInt32.toInt32)), .val (.ref b1), .val (.int ((p4 &&& (2147483647 : Int32)) % (5 : Int32))), .unset, .unset] [(.int (1 : Int32))])) (fun _ k => XS.iconst X_105.here hx rfl (hb hby at_105) k) ?_
    refine Go.step (g' := (mkF m 110 #[.val (.int p0), .val (.int p1), .val (.int p2), .val (.int p3), .val (.int p4), .val (.int (p0.toUInt32.toUInt16.toUInt32.toInt32)), .val (.int (p1.toUInt32.toUInt16.toUInt32.toInt32)), .val (.int (p2.toUInt32.toUInt16.toUInt32.toInt32)), .val (.int (p3.toUInt32.toUInt16.toUInt32.toInt32)), .val (.ref b1), .val (.int ((p4 &&& (2147483647 : Int32)) % (5 : Int32))), .unset, .unset] [(.int (1 : Int32))])) (fun _ k => XS.goto X_105.here hx rfl (pc0 := 106) (pc' := 110) rfl (hb hby at_106) (by decide) (by decide) k) ?_
    rw [show (f0_105 p0 p1 p2 p3 p4 fw) = (f0_110 p0 p1 p2 p3 p4 fw (1 : Int32)) from rfl]
    exact t110 T_105 X_105 e_105 (1 : Int32)
  have t63 : ∀ (T_63 : State) (X_63 : Stand p l e room_1 s m #[(.int p0), (.int p1), (.int p2), (.int p3), (.int p4)] below meth c T_63 lc8 (0 + 1) (0 + 4)) (e_63 : T_63.heap = h8), Go p e below s room_1.cells room_1.slots (LawQ (some (.int (f0_63 p0 p1 p2 p3 p4 fw))) n0) T_63 (mkF m 63 #[.val (.int p0), .val (.int p1), .val (.int p2), .val (.int p3), .val (.int p4), .val (.int (p0.toUInt32.toUInt16.toUInt32.toInt32)), .val (.int (p1.toUInt32.toUInt16.toUInt32.toInt32)), .val (.int (p2.toUInt32.toUInt16.toUInt32.toInt32)), .val (.int (p3.toUInt32.toUInt16.toUInt32.toInt32)), .val (.ref b1), .val (.int ((p4 &&& (2147483647 : Int32)) % (5 : Int32))), .unset, .unset] []) := by
    intro T_63 X_63 e_63
    refine Go.step (g' := (mkF m 65 #[.val (.int p0), .val (.int p1), .val (.int p2), .val (.int p3), .val (.int p4), .val (.int (p0.toUInt32.toUInt16.toUInt32.toInt32)), .val (.int (p1.toUInt32.toUInt16.toUInt32.toInt32)), .val (.int (p2.toUInt32.toUInt16.toUInt32.toInt32)), .val (.int (p3.toUInt32.toUInt16.toUInt32.toInt32)), .val (.ref b1), .val (.int ((p4 &&& (2147483647 : Int32)) % (5 : Int32))), .unset, .unset] [(.int ((p4 &&& (2147483647 : Int32)) % (5 : Int32)))])) (fun _ k => XS.iload X_63.here hx rfl (hb hby at_63) rfl  k) ?_
    refine Go.step (g' := (mkF m 66 #[.val (.int p0), .val (.int p1), .val (.int p2), .val (.int p3), .val (.int p4), .val (.int (p0.toUInt32.toUInt16.toUInt32.toInt32)), .val (.int (p1.toUInt32.toUInt16.toUInt32.toInt32)), .val (.int (p2.toUInt32.toUInt16.toUInt32.toInt32)), .val (.int (p3.toUInt32.toUInt16.toUInt32.toInt32)), .val (.ref b1), .val (.int ((p4 &&& (2147483647 : Int32)) % (5 : Int32))), .unset, .unset] [(.int (1 : Int32)), (.int ((p4 &&& (2147483647 : Int32)) % (5 : Int32)))])) (fun _ k => XS.iconst X_63.here hx rfl (hb hby at_65) k) ?_
    have t77 : ∀ (T_77 : State) (X_77 : Stand p l e room_1 s m #[(.int p0), (.int p1), (.int p2), (.int p3), (.int p4)] below meth c T_77 lc8 (0 + 1) (0 + 4)) (e_77 : T_77.heap = h8), Go p e below s room_1.cells room_1.slots (LawQ (some (.int (f0_77 p0 p1 p2 p3 p4 fw))) n0) T_77 (mkF m 77 #[.val (.int p0), .val (.int p1), .val (.int p2), .val (.int p3), .val (.int p4), .val (.int (p0.toUInt32.toUInt16.toUInt32.toInt32)), .val (.int (p1.toUInt32.toUInt16.toUInt32.toInt32)), .val (.int (p2.toUInt32.toUInt16.toUInt32.toInt32)), .val (.int (p3.toUInt32.toUInt16.toUInt32.toInt32)), .val (.ref b1), .val (.int ((p4 &&& (2147483647 : Int32)) % (5 : Int32))), .unset, .unset] []) := by
      intro T_77 X_77 e_77
      refine Go.step (g' := (mkF m 79 #[.val (.int p0), .val (.int p1), .val (.int p2), .val (.int p3), .val (.int p4), .val (.int (p0.toUInt32.toUInt16.toUInt32.toInt32)), .val (.int (p1.toUInt32.toUInt16.toUInt32.toInt32)), .val (.int (p2.toUInt32.toUInt16.toUInt32.toInt32)), .val (.int (p3.toUInt32.toUInt16.toUInt32.toInt32)), .val (.ref b1), .val (.int ((p4 &&& (2147483647 : Int32)) % (5 : Int32))), .unset, .unset] [(.int ((p4 &&& (2147483647 : Int32)) % (5 : Int32)))])) (fun _ k => XS.iload X_77.here hx rfl (hb hby at_77) rfl  k) ?_
      refine Go.step (g' := (mkF m 80 #[.val (.int p0), .val (.int p1), .val (.int p2), .val (.int p3), .val (.int p4), .val (.int (p0.toUInt32.toUInt16.toUInt32.toInt32)), .val (.int (p1.toUInt32.toUInt16.toUInt32.toInt32)), .val (.int (p2.toUInt32.toUInt16.toUInt32.toInt32)), .val (.int (p3.toUInt32.toUInt16.toUInt32.toInt32)), .val (.ref b1), .val (.int ((p4 &&& (2147483647 : Int32)) % (5 : Int32))), .unset, .unset] [(.int (2 : Int32)), (.int ((p4 &&& (2147483647 : Int32)) % (5 : Int32)))])) (fun _ k => XS.iconst X_77.here hx rfl (hb hby at_79) k) ?_
      have t91 : ∀ (T_91 : State) (X_91 : Stand p l e room_1 s m #[(.int p0), (.int p1), (.int p2), (.int p3), (.int p4)] below meth c T_91 lc8 (0 + 1) (0 + 4)) (e_91 : T_91.heap = h8), Go p e below s room_1.cells room_1.slots (LawQ (some (.int (f0_91 p0 p1 p2 p3 p4 fw))) n0) T_91 (mkF m 91 #[.val (.int p0), .val (.int p1), .val (.int p2), .val (.int p3), .val (.int p4), .val (.int (p0.toUInt32.toUInt16.toUInt32.toInt32)), .val (.int (p1.toUInt32.toUInt16.toUInt32.toInt32)), .val (.int (p2.toUInt32.toUInt16.toUInt32.toInt32)), .val (.int (p3.toUInt32.toUInt16.toUInt32.toInt32)), .val (.ref b1), .val (.int ((p4 &&& (2147483647 : Int32)) % (5 : Int32))), .unset, .unset] []) := by
        intro T_91 X_91 e_91
        refine Go.step (g' := (mkF m 93 #[.val (.int p0), .val (.int p1), .val (.int p2), .val (.int p3), .val (.int p4), .val (.int (p0.toUInt32.toUInt16.toUInt32.toInt32)), .val (.int (p1.toUInt32.toUInt16.toUInt32.toInt32)), .val (.int (p2.toUInt32.toUInt16.toUInt32.toInt32)), .val (.int (p3.toUInt32.toUInt16.toUInt32.toInt32)), .val (.ref b1), .val (.int ((p4 &&& (2147483647 : Int32)) % (5 : Int32))), .unset, .unset] [(.int ((p4 &&& (2147483647 : Int32)) % (5 : Int32)))])) (fun _ k => XS.iload X_91.here hx rfl (hb hby at_91) rfl  k) ?_
        refine Go.step (g' := (mkF m 94 #[.val (.int p0), .val (.int p1), .val (.int p2), .val (.int p3), .val (.int p4), .val (.int (p0.toUInt32.toUInt16.toUInt32.toInt32)), .val (.int (p1.toUInt32.toUInt16.toUInt32.toInt32)), .val (.int (p2.toUInt32.toUInt16.toUInt32.toInt32)), .val (.int (p3.toUInt32.toUInt16.toUInt32.toInt32)), .val (.ref b1), .val (.int ((p4 &&& (2147483647 : Int32)) % (5 : Int32))), .unset, .unset] [(.int (3 : Int32)), (.int ((p4 &&& (2147483647 : Int32)) % (5 : Int32)))])) (fun _ k => XS.iconst X_91.here hx rfl (hb hby at_93) k) ?_
        have t109 : ∀ (T_109 : State) (X_109 : Stand p l e room_1 s m #[(.int p0), (.int p1), (.int p2), (.int p3), (.int p4)] below meth c T_109 lc8 (0 + 1) (0 + 4)) (e_109 : T_109.heap = h8), Go p e below s room_1.cells room_1.slots (LawQ (some (.int (f0_109 p0 p1 p2 p3 p4 fw))) n0) T_109 (mkF m 109 #[.val (.int p0), .val (.int p1), .val (.int p2), .val (.int p3), .val (.int p4), .val (.int (p0.toUInt32.toUInt16.toUInt32.toInt32)), .val (.int (p1.toUInt32.toUInt16.toUInt32.toInt32)), .val (.int (p2.toUInt32.toUInt16.toUInt32.toInt32)), .val (.int (p3.toUInt32.toUInt16.toUInt32.toInt32)), .val (.ref b1), .val (.int ((p4 &&& (2147483647 : Int32)) % (5 : Int32))), .unset, .unset] []) := by
          intro T_109 X_109 e_109
          refine Go.step (g' := (mkF m 110 #[.val (.int p0), .val (.int p1), .val (.int p2), .val (.int p3), .val (.int p4), .val (.int (p0.toUInt32.toUInt16.toUInt32.toInt32)), .val (.int (p1.toUInt32.toUInt16.toUInt32.toInt32)), .val (.int (p2.toUInt32.toUInt16.toUInt32.toInt32)), .val (.int (p3.toUInt32.toUInt16.toUInt32.toInt32)), .val (.ref b1), .val (.int ((p4 &&& (2147483647 : Int32)) % (5 : Int32))), .unset, .unset] [(.int (0 : Int32))])) (fun _ k => XS.iconst X_109.here hx rfl (hb hby at_109) k) ?_
          rw [show (f0_109 p0 p1 p2 p3 p4 fw) = (f0_110 p0 p1 p2 p3 p4 fw (0 : Int32)) from rfl]
          exact t110 T_109 X_109 e_109 (0 : Int32)
        by_cases hc94 : (3 : Int32) < ((p4 &&& (2147483647 : Int32)) % (5 : Int32))
        · rw [show (f0_91 p0 p1 p2 p3 p4 fw) = (f0_97 p0 p1 p2 p3 p4 fw) from if_pos hc94]
          refine Go.step (g' := (mkF m 97 #[.val (.int p0), .val (.int p1), .val (.int p2), .val (.int p3), .val (.int p4), .val (.int (p0.toUInt32.toUInt16.toUInt32.toInt32)), .val (.int (p1.toUInt32.toUInt16.toUInt32.toInt32)), .val (.int (p2.toUInt32.toUInt16.toUInt32.toInt32)), .val (.int (p3.toUInt32.toUInt16.toUInt32.toInt32)), .val (.ref b1), .val (.int ((p4 &&& (2147483647 : Int32)) % (5 : Int32))), .unset, .unset] [])) (fun _ k => XS.icmpNo X_91.here hx rfl (hb hby at_94) rfl (tlt hc94).2.2.2 k) ?_
          refine Go.step (g' := (mkF m 99 #[.val (.int p0), .val (.int p1), .val (.int p2), .val (.int p3), .val (.int p4), .val (.int (p0.toUInt32.toUInt16.toUInt32.toInt32)), .val (.int (p1.toUInt32.toUInt16.toUInt32.toInt32)), .val (.int (p2.toUInt32.toUInt16.toUInt32.toInt32)), .val (.int (p3.toUInt32.toUInt16.toUInt32.toInt32)), .val (.ref b1), .val (.int ((p4 &&& (2147483647 : Int32)) % (5 : Int32))), .unset, .unset] [(.int (p3.toUInt32.toUInt16.toUInt32.toInt32))])) (fun _ k => XS.iload X_91.here hx rfl (hb hby at_97) rfl  k) ?_
          obtain ⟨_, _, ⟨T13, L13, k13, n13⟩, -, X13, ⟨Lc13, hQ13, l13, y13, z13⟩, st13⟩ := Jvm.LawKit.callS X_91 hx (y := (⟨"com/example/zahlwerk/zahlwerk/rules/ImpayCharactersChangedPinLaw", "kept", "(C)Z"⟩ : MethodName)) hown (mvT hZ (hw _ (List.mem_of_getElem? (i := 6) rfl))) (mvT hZ (hw _ (List.mem_of_getElem? (i := 7) rfl))) (mvT hZ (hw _ (List.mem_of_getElem? (i := 8) rfl))) (mvT hZ (hw _ (List.mem_of_getElem? (i := 9) rfl))) (by decide) (backOf (W := 0) (rm2 l Z a0 hw [] (p3.toUInt32.toUInt16.toUInt32.toInt32) h8 ) hZ (hw _ (List.mem_of_getElem? (i := 9) rfl)) (hw _ (List.mem_of_getElem? (i := 8) rfl)) (by decide) (by decide)) (g := (mkF m 99 #[.val (.int p0), .val (.int p1), .val (.int p2), .val (.int p3), .val (.int p4), .val (.int (p0.toUInt32.toUInt16.toUInt32.toInt32)), .val (.int (p1.toUInt32.toUInt16.toUInt32.toInt32)), .val (.int (p2.toUInt32.toUInt16.toUInt32.toInt32)), .val (.int (p3.toUInt32.toUInt16.toUInt32.toInt32)), .val (.ref b1), .val (.int ((p4 &&& (2147483647 : Int32)) % (5 : Int32))), .unset, .unset] [(.int (p3.toUInt32.toUInt16.toUInt32.toInt32))])) rfl (by rw [hml]; rfl) (argsL := [(.int (p3.toUInt32.toUInt16.toUInt32.toInt32))]) (rest := []) (lenOf pd_0 rfl) rfl (by show 2 * 0 + _ ≤ _; exact Nat.le_of_eq rfl) (hb hby at_99) (fun _ _ => ⟨rfl, e_91, (by decide : (0 + 1) + 0 ≤ _), (by decide : (0 + 4) + 0 ≤ _)⟩)
          dsimp only [Pt.U, Pt.locs, Pt.cells, Pt.slots] at X13 l13 y13 z13 st13 hQ13
          subst l13 y13 z13
          obtain ⟨rfl, rfl, e13⟩ := hQ13
          try rw [List.append_nil] at X13
          refine Go.step (g' := (mkF m 102 #[.val (.int p0), .val (.int p1), .val (.int p2), .val (.int p3), .val (.int p4), .val (.int (p0.toUInt32.toUInt16.toUInt32.toInt32)), .val (.int (p1.toUInt32.toUInt16.toUInt32.toInt32)), .val (.int (p2.toUInt32.toUInt16.toUInt32.toInt32)), .val (.int (p3.toUInt32.toUInt16.toUInt32.toInt32)), .val (.ref b1), .val (.int ((p4 &&& (2147483647 : Int32)) % (5 : Int32))), .unset, .unset] [(.int (f2_0 (p3.toUInt32.toUInt16.toUInt32.toInt32)))])) st13 ?_
          by_cases hc102 : (f2_0 (p3.toUInt32.toUInt16.toUInt32.toInt32)) = (0 : Int32)
          · rw [show (f0_97 p0 p1 p2 p3 p4 fw) = (f0_105 p0 p1 p2 p3 p4 fw) from if_pos hc102]
            refine Go.step (g' := (mkF m 105 #[.val (.int p0), .val (.int p1), .val (.int p2), .val (.int p3), .val (.int p4), .val (.int (p0.toUInt32.toUInt16.toUInt32.toInt32)), .val (.int (p1.toUInt32.toUInt16.toUInt32.toInt32)), .val (.int (p2.toUInt32.toUInt16.toUInt32.toInt32)), .val (.int (p3.toUInt32.toUInt16.toUInt32.toInt32)), .val (.ref b1), .val (.int ((p4 &&& (2147483647 : Int32)) % (5 : Int32))), .unset, .unset] [])) (fun _ k => XS.ifNo X13.here hx rfl (hb hby at_102) rfl ((if0 _ _).trans (teq hc102).2) k) ?_
            exact t105 T13 X13 e13
          · rw [show (f0_97 p0 p1 p2 p3 p4 fw) = (f0_109 p0 p1 p2 p3 p4 fw) from if_neg hc102]
            refine Go.step (g' := (mkF m 109 #[.val (.int p0), .val (.int p1), .val (.int p2), .val (.int p3), .val (.int p4), .val (.int (p0.toUInt32.toUInt16.toUInt32.toInt32)), .val (.int (p1.toUInt32.toUInt16.toUInt32.toInt32)), .val (.int (p2.toUInt32.toUInt16.toUInt32.toInt32)), .val (.int (p3.toUInt32.toUInt16.toUInt32.toInt32)), .val (.ref b1), .val (.int ((p4 &&& (2147483647 : Int32)) % (5 : Int32))), .unset, .unset] [])) (fun _ k => XS.ifYes X13.here hx rfl (pc0 := 102) (pc' := 109) rfl (hb hby at_102) rfl ((if0 _ _).trans (feq hc102).2) (by decide) (by decide) k) ?_
            exact t109 T13 X13 e13
        · rw [show (f0_91 p0 p1 p2 p3 p4 fw) = (f0_109 p0 p1 p2 p3 p4 fw) from if_neg hc94]
          refine Go.step (g' := (mkF m 109 #[.val (.int p0), .val (.int p1), .val (.int p2), .val (.int p3), .val (.int p4), .val (.int (p0.toUInt32.toUInt16.toUInt32.toInt32)), .val (.int (p1.toUInt32.toUInt16.toUInt32.toInt32)), .val (.int (p2.toUInt32.toUInt16.toUInt32.toInt32)), .val (.int (p3.toUInt32.toUInt16.toUInt32.toInt32)), .val (.ref b1), .val (.int ((p4 &&& (2147483647 : Int32)) % (5 : Int32))), .unset, .unset] [])) (fun _ k => XS.icmpYes X_91.here hx rfl (pc0 := 94) (pc' := 109) rfl (hb hby at_94) rfl (flt hc94).2.2.2 (by decide) (by decide) k) ?_
          exact t109 T_91 X_91 e_91
      by_cases hc80 : (2 : Int32) < ((p4 &&& (2147483647 : Int32)) % (5 : Int32))
      · rw [show (f0_77 p0 p1 p2 p3 p4 fw) = (f0_83 p0 p1 p2 p3 p4 fw) from if_pos hc80]
        refine Go.step (g' := (mkF m 83 #[.val (.int p0), .val (.int p1), .val (.int p2), .val (.int p3), .val (.int p4), .val (.int (p0.toUInt32.toUInt16.toUInt32.toInt32)), .val (.int (p1.toUInt32.toUInt16.toUInt32.toInt32)), .val (.int (p2.toUInt32.toUInt16.toUInt32.toInt32)), .val (.int (p3.toUInt32.toUInt16.toUInt32.toInt32)), .val (.ref b1), .val (.int ((p4 &&& (2147483647 : Int32)) % (5 : Int32))), .unset, .unset] [])) (fun _ k => XS.icmpNo X_77.here hx rfl (hb hby at_80) rfl (tlt hc80).2.2.2 k) ?_
        refine Go.step (g' := (mkF m 85 #[.val (.int p0), .val (.int p1), .val (.int p2), .val (.int p3), .val (.int p4), .val (.int (p0.toUInt32.toUInt16.toUInt32.toInt32)), .val (.int (p1.toUInt32.toUInt16.toUInt32.toInt32)), .val (.int (p2.toUInt32.toUInt16.toUInt32.toInt32)), .val (.int (p3.toUInt32.toUInt16.toUInt32.toInt32)), .val (.ref b1), .val (.int ((p4 &&& (2147483647 : Int32)) % (5 : Int32))), .unset, .unset] [(.int (p2.toUInt32.toUInt16.toUInt32.toInt32))])) (fun _ k => XS.iload X_77.here hx rfl (hb hby at_83) rfl  k) ?_
        obtain ⟨_, _, ⟨T12, L12, k12, n12⟩, -, X12, ⟨Lc12, hQ12, l12, y12, z12⟩, st12⟩ := Jvm.LawKit.callS X_77 hx (y := (⟨"com/example/zahlwerk/zahlwerk/rules/ImpayCharactersChangedPinLaw", "kept", "(C)Z"⟩ : MethodName)) hown (mvT hZ (hw _ (List.mem_of_getElem? (i := 6) rfl))) (mvT hZ (hw _ (List.mem_of_getElem? (i := 7) rfl))) (mvT hZ (hw _ (List.mem_of_getElem? (i := 8) rfl))) (mvT hZ (hw _ (List.mem_of_getElem? (i := 9) rfl))) (by decide) (backOf (W := 0) (rm2 l Z a0 hw [] (p2.toUInt32.toUInt16.toUInt32.toInt32) h8 ) hZ (hw _ (List.mem_of_getElem? (i := 9) rfl)) (hw _ (List.mem_of_getElem? (i := 8) rfl)) (by decide) (by decide)) (g := (mkF m 85 #[.val (.int p0), .val (.int p1), .val (.int p2), .val (.int p3), .val (.int p4), .val (.int (p0.toUInt32.toUInt16.toUInt32.toInt32)), .val (.int (p1.toUInt32.toUInt16.toUInt32.toInt32)), .val (.int (p2.toUInt32.toUInt16.toUInt32.toInt32)), .val (.int (p3.toUInt32.toUInt16.toUInt32.toInt32)), .val (.ref b1), .val (.int ((p4 &&& (2147483647 : Int32)) % (5 : Int32))), .unset, .unset] [(.int (p2.toUInt32.toUInt16.toUInt32.toInt32))])) rfl (by rw [hml]; rfl) (argsL := [(.int (p2.toUInt32.toUInt16.toUInt32.toInt32))]) (rest := []) (lenOf pd_0 rfl) rfl (by show 2 * 0 + _ ≤ _; exact Nat.le_of_eq rfl) (hb hby at_85) (fun _ _ => ⟨rfl, e_77, (by decide : (0 + 1) + 0 ≤ _), (by decide : (0 + 4) + 0 ≤ _)⟩)
        dsimp only [Pt.U, Pt.locs, Pt.cells, Pt.slots] at X12 l12 y12 z12 st12 hQ12
        subst l12 y12 z12
        obtain ⟨rfl, rfl, e12⟩ := hQ12
        try rw [List.append_nil] at X12
        refine Go.step (g' := (mkF m 88 #[.val (.int p0), .val (.int p1), .val (.int p2), .val (.int p3), .val (.int p4), .val (.int (p0.toUInt32.toUInt16.toUInt32.toInt32)), .val (.int (p1.toUInt32.toUInt16.toUInt32.toInt32)), .val (.int (p2.toUInt32.toUInt16.toUInt32.toInt32)), .val (.int (p3.toUInt32.toUInt16.toUInt32.toInt32)), .val (.ref b1), .val (.int ((p4 &&& (2147483647 : Int32)) % (5 : Int32))), .unset, .unset] [(.int (f2_0 (p2.toUInt32.toUInt16.toUInt32.toInt32)))])) st12 ?_
        by_cases hc88 : (f2_0 (p2.toUInt32.toUInt16.toUInt32.toInt32)) = (0 : Int32)
        · rw [show (f0_83 p0 p1 p2 p3 p4 fw) = (f0_105 p0 p1 p2 p3 p4 fw) from if_pos hc88]
          refine Go.step (g' := (mkF m 105 #[.val (.int p0), .val (.int p1), .val (.int p2), .val (.int p3), .val (.int p4), .val (.int (p0.toUInt32.toUInt16.toUInt32.toInt32)), .val (.int (p1.toUInt32.toUInt16.toUInt32.toInt32)), .val (.int (p2.toUInt32.toUInt16.toUInt32.toInt32)), .val (.int (p3.toUInt32.toUInt16.toUInt32.toInt32)), .val (.ref b1), .val (.int ((p4 &&& (2147483647 : Int32)) % (5 : Int32))), .unset, .unset] [])) (fun _ k => XS.ifYes X12.here hx rfl (pc0 := 88) (pc' := 105) rfl (hb hby at_88) rfl ((if0 _ _).trans (teq hc88).1) (by decide) (by decide) k) ?_
          exact t105 T12 X12 e12
        · rw [show (f0_83 p0 p1 p2 p3 p4 fw) = (f0_91 p0 p1 p2 p3 p4 fw) from if_neg hc88]
          refine Go.step (g' := (mkF m 91 #[.val (.int p0), .val (.int p1), .val (.int p2), .val (.int p3), .val (.int p4), .val (.int (p0.toUInt32.toUInt16.toUInt32.toInt32)), .val (.int (p1.toUInt32.toUInt16.toUInt32.toInt32)), .val (.int (p2.toUInt32.toUInt16.toUInt32.toInt32)), .val (.int (p3.toUInt32.toUInt16.toUInt32.toInt32)), .val (.ref b1), .val (.int ((p4 &&& (2147483647 : Int32)) % (5 : Int32))), .unset, .unset] [])) (fun _ k => XS.ifNo X12.here hx rfl (hb hby at_88) rfl ((if0 _ _).trans (feq hc88).1) k) ?_
          exact t91 T12 X12 e12
      · rw [show (f0_77 p0 p1 p2 p3 p4 fw) = (f0_91 p0 p1 p2 p3 p4 fw) from if_neg hc80]
        refine Go.step (g' := (mkF m 91 #[.val (.int p0), .val (.int p1), .val (.int p2), .val (.int p3), .val (.int p4), .val (.int (p0.toUInt32.toUInt16.toUInt32.toInt32)), .val (.int (p1.toUInt32.toUInt16.toUInt32.toInt32)), .val (.int (p2.toUInt32.toUInt16.toUInt32.toInt32)), .val (.int (p3.toUInt32.toUInt16.toUInt32.toInt32)), .val (.ref b1), .val (.int ((p4 &&& (2147483647 : Int32)) % (5 : Int32))), .unset, .unset] [])) (fun _ k => XS.icmpYes X_77.here hx rfl (pc0 := 80) (pc' := 91) rfl (hb hby at_80) rfl (flt hc80).2.2.2 (by decide) (by decide) k) ?_
        exact t91 T_77 X_77 e_77
    by_cases hc66 : (1 : Int32) < ((p4 &&& (2147483647 : Int32)) % (5 : Int32))
    · rw [show (f0_63 p0 p1 p2 p3 p4 fw) = (f0_69 p0 p1 p2 p3 p4 fw) from if_pos hc66]
      refine Go.step (g' := (mkF m 69 #[.val (.int p0), .val (.int p1), .val (.int p2), .val (.int p3), .val (.int p4), .val (.int (p0.toUInt32.toUInt16.toUInt32.toInt32)), .val (.int (p1.toUInt32.toUInt16.toUInt32.toInt32)), .val (.int (p2.toUInt32.toUInt16.toUInt32.toInt32)), .val (.int (p3.toUInt32.toUInt16.toUInt32.toInt32)), .val (.ref b1), .val (.int ((p4 &&& (2147483647 : Int32)) % (5 : Int32))), .unset, .unset] [])) (fun _ k => XS.icmpNo X_63.here hx rfl (hb hby at_66) rfl (tlt hc66).2.2.2 k) ?_
      refine Go.step (g' := (mkF m 71 #[.val (.int p0), .val (.int p1), .val (.int p2), .val (.int p3), .val (.int p4), .val (.int (p0.toUInt32.toUInt16.toUInt32.toInt32)), .val (.int (p1.toUInt32.toUInt16.toUInt32.toInt32)), .val (.int (p2.toUInt32.toUInt16.toUInt32.toInt32)), .val (.int (p3.toUInt32.toUInt16.toUInt32.toInt32)), .val (.ref b1), .val (.int ((p4 &&& (2147483647 : Int32)) % (5 : Int32))), .unset, .unset] [(.int (p1.toUInt32.toUInt16.toUInt32.toInt32))])) (fun _ k => XS.iload X_63.here hx rfl (hb hby at_69) rfl  k) ?_
      obtain ⟨_, _, ⟨T11, L11, k11, n11⟩, -, X11, ⟨Lc11, hQ11, l11, y11, z11⟩, st11⟩ := Jvm.LawKit.callS X_63 hx (y := (⟨"com/example/zahlwerk/zahlwerk/rules/ImpayCharactersChangedPinLaw", "kept", "(C)Z"⟩ : MethodName)) hown (mvT hZ (hw _ (List.mem_of_getElem? (i := 6) rfl))) (mvT hZ (hw _ (List.mem_of_getElem? (i := 7) rfl))) (mvT hZ (hw _ (List.mem_of_getElem? (i := 8) rfl))) (mvT hZ (hw _ (List.mem_of_getElem? (i := 9) rfl))) (by decide) (backOf (W := 0) (rm2 l Z a0 hw [] (p1.toUInt32.toUInt16.toUInt32.toInt32) h8 ) hZ (hw _ (List.mem_of_getElem? (i := 9) rfl)) (hw _ (List.mem_of_getElem? (i := 8) rfl)) (by decide) (by decide)) (g := (mkF m 71 #[.val (.int p0), .val (.int p1), .val (.int p2), .val (.int p3), .val (.int p4), .val (.int (p0.toUInt32.toUInt16.toUInt32.toInt32)), .val (.int (p1.toUInt32.toUInt16.toUInt32.toInt32)), .val (.int (p2.toUInt32.toUInt16.toUInt32.toInt32)), .val (.int (p3.toUInt32.toUInt16.toUInt32.toInt32)), .val (.ref b1), .val (.int ((p4 &&& (2147483647 : Int32)) % (5 : Int32))), .unset, .unset] [(.int (p1.toUInt32.toUInt16.toUInt32.toInt32))])) rfl (by rw [hml]; rfl) (argsL := [(.int (p1.toUInt32.toUInt16.toUInt32.toInt32))]) (rest := []) (lenOf pd_0 rfl) rfl (by show 2 * 0 + _ ≤ _; exact Nat.le_of_eq rfl) (hb hby at_71) (fun _ _ => ⟨rfl, e_63, (by decide : (0 + 1) + 0 ≤ _), (by decide : (0 + 4) + 0 ≤ _)⟩)
      dsimp only [Pt.U, Pt.locs, Pt.cells, Pt.slots] at X11 l11 y11 z11 st11 hQ11
      subst l11 y11 z11
      obtain ⟨rfl, rfl, e11⟩ := hQ11
      try rw [List.append_nil] at X11
      refine Go.step (g' := (mkF m 74 #[.val (.int p0), .val (.int p1), .val (.int p2), .val (.int p3), .val (.int p4), .val (.int (p0.toUInt32.toUInt16.toUInt32.toInt32)), .val (.int (p1.toUInt32.toUInt16.toUInt32.toInt32)), .val (.int (p2.toUInt32.toUInt16.toUInt32.toInt32)), .val (.int (p3.toUInt32.toUInt16.toUInt32.toInt32)), .val (.ref b1), .val (.int ((p4 &&& (2147483647 : Int32)) % (5 : Int32))), .unset, .unset] [(.int (f2_0 (p1.toUInt32.toUInt16.toUInt32.toInt32)))])) st11 ?_
      by_cases hc74 : (f2_0 (p1.toUInt32.toUInt16.toUInt32.toInt32)) = (0 : Int32)
      · rw [show (f0_69 p0 p1 p2 p3 p4 fw) = (f0_105 p0 p1 p2 p3 p4 fw) from if_pos hc74]
        refine Go.step (g' := (mkF m 105 #[.val (.int p0), .val (.int p1), .val (.int p2), .val (.int p3), .val (.int p4), .val (.int (p0.toUInt32.toUInt16.toUInt32.toInt32)), .val (.int (p1.toUInt32.toUInt16.toUInt32.toInt32)), .val (.int (p2.toUInt32.toUInt16.toUInt32.toInt32)), .val (.int (p3.toUInt32.toUInt16.toUInt32.toInt32)), .val (.ref b1), .val (.int ((p4 &&& (2147483647 : Int32)) % (5 : Int32))), .unset, .unset] [])) (fun _ k => XS.ifYes X11.here hx rfl (pc0 := 74) (pc' := 105) rfl (hb hby at_74) rfl ((if0 _ _).trans (teq hc74).1) (by decide) (by decide) k) ?_
        exact t105 T11 X11 e11
      · rw [show (f0_69 p0 p1 p2 p3 p4 fw) = (f0_77 p0 p1 p2 p3 p4 fw) from if_neg hc74]
        refine Go.step (g' := (mkF m 77 #[.val (.int p0), .val (.int p1), .val (.int p2), .val (.int p3), .val (.int p4), .val (.int (p0.toUInt32.toUInt16.toUInt32.toInt32)), .val (.int (p1.toUInt32.toUInt16.toUInt32.toInt32)), .val (.int (p2.toUInt32.toUInt16.toUInt32.toInt32)), .val (.int (p3.toUInt32.toUInt16.toUInt32.toInt32)), .val (.ref b1), .val (.int ((p4 &&& (2147483647 : Int32)) % (5 : Int32))), .unset, .unset] [])) (fun _ k => XS.ifNo X11.here hx rfl (hb hby at_74) rfl ((if0 _ _).trans (feq hc74).1) k) ?_
        exact t77 T11 X11 e11
    · rw [show (f0_63 p0 p1 p2 p3 p4 fw) = (f0_77 p0 p1 p2 p3 p4 fw) from if_neg hc66]
      refine Go.step (g' := (mkF m 77 #[.val (.int p0), .val (.int p1), .val (.int p2), .val (.int p3), .val (.int p4), .val (.int (p0.toUInt32.toUInt16.toUInt32.toInt32)), .val (.int (p1.toUInt32.toUInt16.toUInt32.toInt32)), .val (.int (p2.toUInt32.toUInt16.toUInt32.toInt32)), .val (.int (p3.toUInt32.toUInt16.toUInt32.toInt32)), .val (.ref b1), .val (.int ((p4 &&& (2147483647 : Int32)) % (5 : Int32))), .unset, .unset] [])) (fun _ k => XS.icmpYes X_63.here hx rfl (pc0 := 66) (pc' := 77) rfl (hb hby at_66) rfl (flt hc66).2.2.2 (by decide) (by decide) k) ?_
      exact t77 T_63 X_63 e_63
  by_cases hc52 : (0 : Int32) < ((p4 &&& (2147483647 : Int32)) % (5 : Int32))
  · rw [show (f0_0 p0 p1 p2 p3 p4 fw) = (f0_55 p0 p1 p2 p3 p4 fw) from if_pos hc52]
    refine Go.step (g' := (mkF m 55 #[.val (.int p0), .val (.int p1), .val (.int p2), .val (.int p3), .val (.int p4), .val (.int (p0.toUInt32.toUInt16.toUInt32.toInt32)), .val (.int (p1.toUInt32.toUInt16.toUInt32.toInt32)), .val (.int (p2.toUInt32.toUInt16.toUInt32.toInt32)), .val (.int (p3.toUInt32.toUInt16.toUInt32.toInt32)), .val (.ref b1), .val (.int ((p4 &&& (2147483647 : Int32)) % (5 : Int32))), .unset, .unset] [])) (fun _ k => XS.ifNo X8.here hx rfl (hb hby at_52) rfl ((if0 _ _).trans (tlt hc52).2.2.2) k) ?_
    refine Go.step (g' := (mkF m 57 #[.val (.int p0), .val (.int p1), .val (.int p2), .val (.int p3), .val (.int p4), .val (.int (p0.toUInt32.toUInt16.toUInt32.toInt32)), .val (.int (p1.toUInt32.toUInt16.toUInt32.toInt32)), .val (.int (p2.toUInt32.toUInt16.toUInt32.toInt32)), .val (.int (p3.toUInt32.toUInt16.toUInt32.toInt32)), .val (.ref b1), .val (.int ((p4 &&& (2147483647 : Int32)) % (5 : Int32))), .unset, .unset] [(.int (p0.toUInt32.toUInt16.toUInt32.toInt32))])) (fun _ k => XS.iload X8.here hx rfl (hb hby at_55) rfl  k) ?_
    obtain ⟨_, _, ⟨T10, L10, k10, n10⟩, -, X10, ⟨Lc10, hQ10, l10, y10, z10⟩, st10⟩ := Jvm.LawKit.callS X8 hx (y := (⟨"com/example/zahlwerk/zahlwerk/rules/ImpayCharactersChangedPinLaw", "kept", "(C)Z"⟩ : MethodName)) hown (mvT hZ (hw _ (List.mem_of_getElem? (i := 6) rfl))) (mvT hZ (hw _ (List.mem_of_getElem? (i := 7) rfl))) (mvT hZ (hw _ (List.mem_of_getElem? (i := 8) rfl))) (mvT hZ (hw _ (List.mem_of_getElem? (i := 9) rfl))) (by decide) (backOf (W := 0) (rm2 l Z a0 hw [] (p0.toUInt32.toUInt16.toUInt32.toInt32) h8 ) hZ (hw _ (List.mem_of_getElem? (i := 9) rfl)) (hw _ (List.mem_of_getElem? (i := 8) rfl)) (by decide) (by decide)) (g := (mkF m 57 #[.val (.int p0), .val (.int p1), .val (.int p2), .val (.int p3), .val (.int p4), .val (.int (p0.toUInt32.toUInt16.toUInt32.toInt32)), .val (.int (p1.toUInt32.toUInt16.toUInt32.toInt32)), .val (.int (p2.toUInt32.toUInt16.toUInt32.toInt32)), .val (.int (p3.toUInt32.toUInt16.toUInt32.toInt32)), .val (.ref b1), .val (.int ((p4 &&& (2147483647 : Int32)) % (5 : Int32))), .unset, .unset] [(.int (p0.toUInt32.toUInt16.toUInt32.toInt32))])) rfl (by rw [hml]; rfl) (argsL := [(.int (p0.toUInt32.toUInt16.toUInt32.toInt32))]) (rest := []) (lenOf pd_0 rfl) rfl (by show 2 * 0 + _ ≤ _; exact Nat.le_of_eq rfl) (hb hby at_57) (fun _ _ => ⟨rfl, e8, (by decide : (0 + 1) + 0 ≤ _), (by decide : (0 + 4) + 0 ≤ _)⟩)
    dsimp only [Pt.U, Pt.locs, Pt.cells, Pt.slots] at X10 l10 y10 z10 st10 hQ10
    subst l10 y10 z10
    obtain ⟨rfl, rfl, e10⟩ := hQ10
    try rw [List.append_nil] at X10
    refine Go.step (g' := (mkF m 60 #[.val (.int p0), .val (.int p1), .val (.int p2), .val (.int p3), .val (.int p4), .val (.int (p0.toUInt32.toUInt16.toUInt32.toInt32)), .val (.int (p1.toUInt32.toUInt16.toUInt32.toInt32)), .val (.int (p2.toUInt32.toUInt16.toUInt32.toInt32)), .val (.int (p3.toUInt32.toUInt16.toUInt32.toInt32)), .val (.ref b1), .val (.int ((p4 &&& (2147483647 : Int32)) % (5 : Int32))), .unset, .unset] [(.int (f2_0 (p0.toUInt32.toUInt16.toUInt32.toInt32)))])) st10 ?_
    by_cases hc60 : (f2_0 (p0.toUInt32.toUInt16.toUInt32.toInt32)) = (0 : Int32)
    · rw [show (f0_55 p0 p1 p2 p3 p4 fw) = (f0_105 p0 p1 p2 p3 p4 fw) from if_pos hc60]
      refine Go.step (g' := (mkF m 105 #[.val (.int p0), .val (.int p1), .val (.int p2), .val (.int p3), .val (.int p4), .val (.int (p0.toUInt32.toUInt16.toUInt32.toInt32)), .val (.int (p1.toUInt32.toUInt16.toUInt32.toInt32)), .val (.int (p2.toUInt32.toUInt16.toUInt32.toInt32)), .val (.int (p3.toUInt32.toUInt16.toUInt32.toInt32)), .val (.ref b1), .val (.int ((p4 &&& (2147483647 : Int32)) % (5 : Int32))), .unset, .unset] [])) (fun _ k => XS.ifYes X10.here hx rfl (pc0 := 60) (pc' := 105) rfl (hb hby at_60) rfl ((if0 _ _).trans (teq hc60).1) (by decide) (by decide) k) ?_
      exact t105 T10 X10 e10
    · rw [show (f0_55 p0 p1 p2 p3 p4 fw) = (f0_63 p0 p1 p2 p3 p4 fw) from if_neg hc60]
      refine Go.step (g' := (mkF m 63 #[.val (.int p0), .val (.int p1), .val (.int p2), .val (.int p3), .val (.int p4), .val (.int (p0.toUInt32.toUInt16.toUInt32.toInt32)), .val (.int (p1.toUInt32.toUInt16.toUInt32.toInt32)), .val (.int (p2.toUInt32.toUInt16.toUInt32.toInt32)), .val (.int (p3.toUInt32.toUInt16.toUInt32.toInt32)), .val (.ref b1), .val (.int ((p4 &&& (2147483647 : Int32)) % (5 : Int32))), .unset, .unset] [])) (fun _ k => XS.ifNo X10.here hx rfl (hb hby at_60) rfl ((if0 _ _).trans (feq hc60).1) k) ?_
      exact t63 T10 X10 e10
  · rw [show (f0_0 p0 p1 p2 p3 p4 fw) = (f0_63 p0 p1 p2 p3 p4 fw) from if_neg hc52]
    refine Go.step (g' := (mkF m 63 #[.val (.int p0), .val (.int p1), .val (.int p2), .val (.int p3), .val (.int p4), .val (.int (p0.toUInt32.toUInt16.toUInt32.toInt32)), .val (.int (p1.toUInt32.toUInt16.toUInt32.toInt32)), .val (.int (p2.toUInt32.toUInt16.toUInt32.toInt32)), .val (.int (p3.toUInt32.toUInt16.toUInt32.toInt32)), .val (.ref b1), .val (.int ((p4 &&& (2147483647 : Int32)) % (5 : Int32))), .unset, .unset] [])) (fun _ k => XS.ifYes X8.here hx rfl (pc0 := 52) (pc' := 63) rfl (hb hby at_52) rfl ((if0 _ _).trans (flt hc52).2.2.2) (by decide) (by decide) k) ?_
    exact t63 T8 X8 e8
set_option maxRecDepth 65536 in
set_option maxHeartbeats 40000000 in
theorem comes_1 {Post : Tables → Env → Array Value → State → Outcome → State → Prop} (hpost : ∀ tb e args s v u, (limb_1_1.after args s (.returned v) u = true ∧ limb_1_2.after args s (.returned v) u = true) → FrameEnd s (.returned v) u (Jvm.fieldLocs frame_1_writes args s ++ Jvm.arrayLocs frame_1_arrays args s ++ Jvm.staticLocs frame_1_statics s) 16 128 → Post tb e args s (.returned v) u) :
    ArmFor flags0 classFile x code maxLocals ret World_1 tables_1 room_1 Calls_1 rest_1 Pre_1 Post := by
  intro l hfl _ _ p e ha hc hk s m args below hf hA hF happ hP
  obtain ⟨hcalls, hrest, hpre⟩ := hP
  obtain ⟨-, -, -, hnamed, -, -, -, hat⟩ := (Spec.applies_iff hf).mp happ
  obtain ⟨hg, hn⟩ := and_e (Cond.before_iff.mp (show (Jvm.Cond.and given_1 narrow_1).before args s = true from hpre))
  obtain ⟨gc, hg⟩ := and_e hg
  obtain ⟨g0, hg⟩ := and_e hg
  obtain ⟨g1, hg⟩ := and_e hg
  obtain ⟨g2, hg⟩ := and_e hg
  obtain ⟨g3, hg⟩ := and_e hg
  have g4 := hg
  obtain ⟨w0, w1, w2, w3, w4, rfl⟩ : ∃ w0 w1 w2 w3 w4 : Value, args = #[w0, w1, w2, w3, w4] := by
    have hs : args.size = 5 := by simpa [Cond.value, given_1] using gc
    obtain ⟨L⟩ := args
    match L, hs with
    | [w0, w1, w2, w3, w4], _ => exact ⟨w0, w1, w2, w3, w4, rfl⟩
  have hw := fun d (hd : d ∈ tables_1) => atoms_spec (ws := Jvm.Cond.code x code maxLocals ret :: tables_1) hat d (List.mem_cons_of_mem _ hd)
  have hfit : Fit s := fun {y c} hc i hi => by
    obtain ⟨ha, rfl⟩ := Array.getElem?_eq_some_iff.mp hc
    have q := List.all_eq_true.mp ((Array.all_eq_true_iff_forall_mem.mp hF) _ (Array.getElem_mem ha)) i (List.mem_range.mpr hi)
    simpa [Array.getElem?_eq_getElem hi] using q
  obtain ⟨i0, ei0⟩ := is_v g0
  obtain rfl : w0 = (.int i0) := Option.some.inj ei0
  obtain ⟨i1, ei1⟩ := is_v g1
  obtain rfl : w1 = (.int i1) := Option.some.inj ei1
  obtain ⟨i2, ei2⟩ := is_v g2
  obtain rfl : w2 = (.int i2) := Option.some.inj ei2
  obtain ⟨i3, ei3⟩ := is_v g3
  obtain rfl : w3 = (.int i3) := Option.some.inj ei3
  obtain ⟨i4, ei4⟩ := is_v g4
  obtain rfl : w4 = (.int i4) := Option.some.inj ei4
  obtain ⟨na0, nb0⟩ := and_e hn
  obtain ⟨na1, nb1⟩ := and_e nb0
  obtain ⟨na2, nb2⟩ := and_e nb1
  obtain ⟨na3, nb3⟩ := and_e nb2
  obtain ⟨na4, nb4⟩ := and_e nb3
  obtain ⟨na5, nb5⟩ := and_e nb4
  obtain ⟨na6, nb6⟩ := and_e nb5
  obtain ⟨na7, nb7⟩ := and_e nb6
  obtain ⟨na8, nb8⟩ := and_e nb7
  obtain ⟨na9, nb9⟩ := and_e nb8
  obtain ⟨na10, nb10⟩ := and_e nb9
  obtain ⟨na11, nb11⟩ := and_e nb10
  obtain ⟨na12, nb12⟩ := and_e nb11
  obtain ⟨na13, nb13⟩ := and_e nb12
  obtain ⟨na14, nb14⟩ := and_e nb13
  obtain ⟨na15, nb15⟩ := and_e nb14
  obtain ⟨na16, nb16⟩ := and_e nb15
  obtain ⟨na17, nb17⟩ := and_e nb16
  obtain ⟨na18, nb18⟩ := and_e nb17
  obtain ⟨na19, nb19⟩ := and_e nb18
  obtain ⟨na20, nb20⟩ := and_e nb19
  obtain ⟨na21, nb21⟩ := and_e nb20
  obtain ⟨na22, nb22⟩ := and_e nb21
  obtain ⟨na23, nb23⟩ := and_e nb22
  obtain ⟨na24, nb24⟩ := and_e nb23
  obtain ⟨na25, nb25⟩ := and_e nb24
  obtain ⟨na26, nb26⟩ := and_e nb25
  obtain ⟨na27, nb27⟩ := and_e nb26
  obtain ⟨na28, nb28⟩ := and_e nb27
  obtain ⟨na29, nb29⟩ := and_e nb28
  obtain ⟨na30, nb30⟩ := and_e nb29
  obtain ⟨na31, nb31⟩ := and_e nb30
  obtain ⟨na32, nb32⟩ := and_e nb31
  obtain ⟨na33, nb33⟩ := and_e nb32
  obtain ⟨wF, ev⟩ := arr_v na0
  obtain ⟨cl, Ar⟩ := Arr.start ev na0
  have hA : s.arrayAt? wF = some cl := Ar.fin (Vm.Alike.refl _)
  have hsz : cl.slots.size = 256 := own_lenOf ev hA na1
  have S_F : Sta s s.heap "com/example/zahlwerk/zahlwerk/rules/ImpayCharacters" "FORWARDED" "[C" (.ref wF) := Sta.start ev (Or.inr ⟨(hw _ (List.mem_of_getElem? (i := 4) rfl)), (hw _ (List.mem_of_getElem? (i := 11) rfl))⟩)
  have A_F : IA s s.heap wF .char 256 (fun k => .int (own_fw cl k)) := by
    refine ⟨cl, Ar, hsz, fun k hk => ?_⟩
    obtain ⟨m1, m2, m3⟩ := own_n32 hk
    obtain ⟨v, e1, e2⟩ := elem_fit hfit Ar (j := k.toInt32) (by rw [m2, hsz]; intro q; rcases q with q | q; exact m3 q; omega)
    rw [m2] at e1
    obtain ⟨x, rfl⟩ := fit_I e2 (by simp)
    simp [own_fw, e1]
  have hT : ∀ k, k < 256 → own_fw cl k = own_T k := by
    intro k hk
    obtain ⟨m1, m2, m3⟩ := own_n32 hk
    have evi : ∀ idx, (Jvm.Term.static "com/example/zahlwerk/zahlwerk/rules/ImpayCharacters" "FORWARDED" "[C").eval #[.int i0, .int i1, .int i2, .int i3, .int i4] s none idx s = some (.ref wF) := fun idx => ev
    unfold own_T
    by_cases c0 : k < 32
    · rw [if_pos c0]
      have f := Cond.all_elim (evi []) hA na2 k (by omega)
      rcases own_or (Cond.le_ints (Term.int_eval _) (own_idx k)) f with q | f
      · rw [Int32.le_iff_toInt_le, m1, show (32 : Int32).toInt = 32 from by decide] at q; omega
      have r := own_elem (evi [k]) (own_idx k) (Term.int_eval 46) hA m3 f
      rw [m2] at r; exact r
    rw [if_neg c0]
    by_cases c1 : k < 33
    · rw [if_pos c1]
      obtain rfl : k = 32 := by omega
      exact own_elem (j := 32) (z := 32) (evi []) (Term.int_eval _) (Term.int_eval _) hA (by decide) na3
    rw [if_neg c1]
    by_cases c2 : k < 38
    · rw [if_pos c2]
      have f := Cond.all_elim (evi []) hA na4 k (by omega)
      rcases own_or (Cond.lt_ints (own_idx k) (Term.int_eval _)) f with q | f
      · rw [Int32.lt_iff_toInt_lt, m1, show (33 : Int32).toInt = 33 from by decide] at q; omega
      rcases own_or (Cond.le_ints (Term.int_eval _) (own_idx k)) f with q | f
      · rw [Int32.le_iff_toInt_le, m1, show (38 : Int32).toInt = 38 from by decide] at q; omega
      have r := own_elem (evi [k]) (own_idx k) (Term.int_eval 46) hA m3 f
      rw [m2] at r; exact r
    rw [if_neg c2]
    by_cases c3 : k < 39
    · rw [if_pos c3]
      obtain rfl : k = 38 := by omega
      exact own_elem (j := 38) (z := 43) (evi []) (Term.int_eval _) (Term.int_eval _) hA (by decide) na5
    rw [if_neg c3]
    by_cases c4 : k < 40
    · rw [if_pos c4]
      obtain rfl : k = 39 := by omega
      exact own_elem (j := 39) (z := 39) (evi []) (Term.int_eval _) (Term.int_eval _) hA (by decide) na6
    rw [if_neg c4]
    by_cases c5 : k < 41
    · rw [if_pos c5]
      obtain rfl : k = 40 := by omega
      exact own_elem (j := 40) (z := 40) (evi []) (Term.int_eval _) (Term.int_eval _) hA (by decide) na7
    rw [if_neg c5]
    by_cases c6 : k < 42
    · rw [if_pos c6]
      obtain rfl : k = 41 := by omega
      exact own_elem (j := 41) (z := 41) (evi []) (Term.int_eval _) (Term.int_eval _) hA (by decide) na8
    rw [if_neg c6]
    by_cases c7 : k < 43
    · rw [if_pos c7]
      obtain rfl : k = 42 := by omega
      exact own_elem (j := 42) (z := 46) (evi []) (Term.int_eval _) (Term.int_eval _) hA (by decide) na9
    rw [if_neg c7]
    by_cases c8 : k < 59
    · rw [if_pos c8]
      have f := Cond.all_elim (evi []) hA na10 k (by omega)
      rcases own_or (Cond.lt_ints (own_idx k) (Term.int_eval _)) f with q | f
      · rw [Int32.lt_iff_toInt_lt, m1, show (43 : Int32).toInt = 43 from by decide] at q; omega
      rcases own_or (Cond.le_ints (Term.int_eval _) (own_idx k)) f with q | f
      · rw [Int32.le_iff_toInt_le, m1, show (59 : Int32).toInt = 59 from by decide] at q; omega
      have r := own_elem (evi [k]) (own_idx k) (own_idx k) hA m3 f
      rw [m2] at r; exact r
    rw [if_neg c8]
    by_cases c9 : k < 63
    · rw [if_pos c9]
      have f := Cond.all_elim (evi []) hA na11 k (by omega)
      rcases own_or (Cond.lt_ints (own_idx k) (Term.int_eval _)) f with q | f
      · rw [Int32.lt_iff_toInt_lt, m1, show (59 : Int32).toInt = 59 from by decide] at q; omega
      rcases own_or (Cond.le_ints (Term.int_eval _) (own_idx k)) f with q | f
      · rw [Int32.le_iff_toInt_le, m1, show (63 : Int32).toInt = 63 from by decide] at q; omega
      have r := own_elem (evi [k]) (own_idx k) (Term.int_eval 46) hA m3 f
      rw [m2] at r; exact r
    rw [if_neg c9]
    by_cases c10 : k < 64
    · rw [if_pos c10]
      obtain rfl : k = 63 := by omega
      exact own_elem (j := 63) (z := 63) (evi []) (Term.int_eval _) (Term.int_eval _) hA (by decide) na12
    rw [if_neg c10]
    by_cases c11 : k < 65
    · rw [if_pos c11]
      obtain rfl : k = 64 := by omega
      exact own_elem (j := 64) (z := 46) (evi []) (Term.int_eval _) (Term.int_eval _) hA (by decide) na13
    rw [if_neg c11]
    by_cases c12 : k < 91
    · rw [if_pos c12]
      have f := Cond.all_elim (evi []) hA na14 k (by omega)
      rcases own_or (Cond.lt_ints (own_idx k) (Term.int_eval _)) f with q | f
      · rw [Int32.lt_iff_toInt_lt, m1, show (65 : Int32).toInt = 65 from by decide] at q; omega
      rcases own_or (Cond.le_ints (Term.int_eval _) (own_idx k)) f with q | f
      · rw [Int32.le_iff_toInt_le, m1, show (91 : Int32).toInt = 91 from by decide] at q; omega
      have r := own_elem (evi [k]) (own_idx k) (own_idx k) hA m3 f
      rw [m2] at r; exact r
    rw [if_neg c12]
    by_cases c13 : k < 97
    · rw [if_pos c13]
      have f := Cond.all_elim (evi []) hA na15 k (by omega)
      rcases own_or (Cond.lt_ints (own_idx k) (Term.int_eval _)) f with q | f
      · rw [Int32.lt_iff_toInt_lt, m1, show (91 : Int32).toInt = 91 from by decide] at q; omega
      rcases own_or (Cond.le_ints (Term.int_eval _) (own_idx k)) f with q | f
      · rw [Int32.le_iff_toInt_le, m1, show (97 : Int32).toInt = 97 from by decide] at q; omega
      have r := own_elem (evi [k]) (own_idx k) (Term.int_eval 46) hA m3 f
      rw [m2] at r; exact r
    rw [if_neg c13]
    by_cases c14 : k < 123
    · rw [if_pos c14]
      have f := Cond.all_elim (evi []) hA na16 k (by omega)
      rcases own_or (Cond.lt_ints (own_idx k) (Term.int_eval _)) f with q | f
      · rw [Int32.lt_iff_toInt_lt, m1, show (97 : Int32).toInt = 97 from by decide] at q; omega
      rcases own_or (Cond.le_ints (Term.int_eval _) (own_idx k)) f with q | f
      · rw [Int32.le_iff_toInt_le, m1, show (123 : Int32).toInt = 123 from by decide] at q; omega
      have r := own_elem (evi [k]) (own_idx k) (own_idx k) hA m3 f
      rw [m2] at r; exact r
    rw [if_neg c14]
    by_cases c15 : k < 196
    · rw [if_pos c15]
      have f := Cond.all_elim (evi []) hA na17 k (by omega)
      rcases own_or (Cond.lt_ints (own_idx k) (Term.int_eval _)) f with q | f
      · rw [Int32.lt_iff_toInt_lt, m1, show (123 : Int32).toInt = 123 from by decide] at q; omega
      rcases own_or (Cond.le_ints (Term.int_eval _) (own_idx k)) f with q | f
      · rw [Int32.le_iff_toInt_le, m1, show (196 : Int32).toInt = 196 from by decide] at q; omega
      have r := own_elem (evi [k]) (own_idx k) (Term.int_eval 46) hA m3 f
      rw [m2] at r; exact r
    rw [if_neg c15]
    by_cases c16 : k < 197
    · rw [if_pos c16]
      obtain rfl : k = 196 := by omega
      exact own_elem (j := 196) (z := 65) (evi []) (Term.int_eval _) (Term.int_eval _) hA (by decide) na18
    rw [if_neg c16]
    by_cases c17 : k < 214
    · rw [if_pos c17]
      have f := Cond.all_elim (evi []) hA na19 k (by omega)
      rcases own_or (Cond.lt_ints (own_idx k) (Term.int_eval _)) f with q | f
      · rw [Int32.lt_iff_toInt_lt, m1, show (197 : Int32).toInt = 197 from by decide] at q; omega
      rcases own_or (Cond.le_ints (Term.int_eval _) (own_idx k)) f with q | f
      · rw [Int32.le_iff_toInt_le, m1, show (214 : Int32).toInt = 214 from by decide] at q; omega
      have r := own_elem (evi [k]) (own_idx k) (Term.int_eval 46) hA m3 f
      rw [m2] at r; exact r
    rw [if_neg c17]
    by_cases c18 : k < 215
    · rw [if_pos c18]
      obtain rfl : k = 214 := by omega
      exact own_elem (j := 214) (z := 79) (evi []) (Term.int_eval _) (Term.int_eval _) hA (by decide) na20
    rw [if_neg c18]
    by_cases c19 : k < 220
    · rw [if_pos c19]
      have f := Cond.all_elim (evi []) hA na21 k (by omega)
      rcases own_or (Cond.lt_ints (own_idx k) (Term.int_eval _)) f with q | f
      · rw [Int32.lt_iff_toInt_lt, m1, show (215 : Int32).toInt = 215 from by decide] at q; omega
      rcases own_or (Cond.le_ints (Term.int_eval _) (own_idx k)) f with q | f
      · rw [Int32.le_iff_toInt_le, m1, show (220 : Int32).toInt = 220 from by decide] at q; omega
      have r := own_elem (evi [k]) (own_idx k) (Term.int_eval 46) hA m3 f
      rw [m2] at r; exact r
    rw [if_neg c19]
    by_cases c20 : k < 221
    · rw [if_pos c20]
      obtain rfl : k = 220 := by omega
      exact own_elem (j := 220) (z := 85) (evi []) (Term.int_eval _) (Term.int_eval _) hA (by decide) na22
    rw [if_neg c20]
    by_cases c21 : k < 222
    · rw [if_pos c21]
      obtain rfl : k = 221 := by omega
      exact own_elem (j := 221) (z := 46) (evi []) (Term.int_eval _) (Term.int_eval _) hA (by decide) na23
    rw [if_neg c21]
    by_cases c22 : k < 223
    · rw [if_pos c22]
      obtain rfl : k = 222 := by omega
      exact own_elem (j := 222) (z := 46) (evi []) (Term.int_eval _) (Term.int_eval _) hA (by decide) na24
    rw [if_neg c22]
    by_cases c23 : k < 224
    · rw [if_pos c23]
      obtain rfl : k = 223 := by omega
      exact own_elem (j := 223) (z := 115) (evi []) (Term.int_eval _) (Term.int_eval _) hA (by decide) na25
    rw [if_neg c23]
    by_cases c24 : k < 228
    · rw [if_pos c24]
      have f := Cond.all_elim (evi []) hA na26 k (by omega)
      rcases own_or (Cond.lt_ints (own_idx k) (Term.int_eval _)) f with q | f
      · rw [Int32.lt_iff_toInt_lt, m1, show (224 : Int32).toInt = 224 from by decide] at q; omega
      rcases own_or (Cond.le_ints (Term.int_eval _) (own_idx k)) f with q | f
      · rw [Int32.le_iff_toInt_le, m1, show (228 : Int32).toInt = 228 from by decide] at q; omega
      have r := own_elem (evi [k]) (own_idx k) (Term.int_eval 46) hA m3 f
      rw [m2] at r; exact r
    rw [if_neg c24]
    by_cases c25 : k < 229
    · rw [if_pos c25]
      obtain rfl : k = 228 := by omega
      exact own_elem (j := 228) (z := 97) (evi []) (Term.int_eval _) (Term.int_eval _) hA (by decide) na27
    rw [if_neg c25]
    by_cases c26 : k < 246
    · rw [if_pos c26]
      have f := Cond.all_elim (evi []) hA na28 k (by omega)
      rcases own_or (Cond.lt_ints (own_idx k) (Term.int_eval _)) f with q | f
      · rw [Int32.lt_iff_toInt_lt, m1, show (229 : Int32).toInt = 229 from by decide] at q; omega
      rcases own_or (Cond.le_ints (Term.int_eval _) (own_idx k)) f with q | f
      · rw [Int32.le_iff_toInt_le, m1, show (246 : Int32).toInt = 246 from by decide] at q; omega
      have r := own_elem (evi [k]) (own_idx k) (Term.int_eval 46) hA m3 f
      rw [m2] at r; exact r
    rw [if_neg c26]
    by_cases c27 : k < 247
    · rw [if_pos c27]
      obtain rfl : k = 246 := by omega
      exact own_elem (j := 246) (z := 111) (evi []) (Term.int_eval _) (Term.int_eval _) hA (by decide) na29
    rw [if_neg c27]
    by_cases c28 : k < 252
    · rw [if_pos c28]
      have f := Cond.all_elim (evi []) hA na30 k (by omega)
      rcases own_or (Cond.lt_ints (own_idx k) (Term.int_eval _)) f with q | f
      · rw [Int32.lt_iff_toInt_lt, m1, show (247 : Int32).toInt = 247 from by decide] at q; omega
      rcases own_or (Cond.le_ints (Term.int_eval _) (own_idx k)) f with q | f
      · rw [Int32.le_iff_toInt_le, m1, show (252 : Int32).toInt = 252 from by decide] at q; omega
      have r := own_elem (evi [k]) (own_idx k) (Term.int_eval 46) hA m3 f
      rw [m2] at r; exact r
    rw [if_neg c28]
    by_cases c29 : k < 253
    · rw [if_pos c29]
      obtain rfl : k = 252 := by omega
      exact own_elem (j := 252) (z := 117) (evi []) (Term.int_eval _) (Term.int_eval _) hA (by decide) na31
    rw [if_neg c29]
    by_cases c30 : k < 254
    · rw [if_pos c30]
      obtain rfl : k = 253 := by omega
      exact own_elem (j := 253) (z := 46) (evi []) (Term.int_eval _) (Term.int_eval _) hA (by decide) na32
    rw [if_neg c30]
    by_cases c31 : k < 255
    · rw [if_pos c31]
      obtain rfl : k = 254 := by omega
      exact own_elem (j := 254) (z := 46) (evi []) (Term.int_eval _) (Term.int_eval _) hA (by decide) na33
    rw [if_neg c31]
    by_cases c32 : k < 256
    · rw [if_pos c32]
      obtain rfl : k = 255 := by omega
      exact own_elem (j := 255) (z := 46) (evi []) (Term.int_eval _) (Term.int_eval _) hA (by decide) nb33
    rw [if_neg c32]
    omega
  obtain ⟨n, o, h1, h2, h3, v, L, rfl, hQ, hq⟩ := rm0 l s _ hw tables_1 i0 i1 i2 i3 i4 wF (own_fw cl) s.heap s.heap.size (Nat.le_refl _) S_F A_F p e ha hc hk s m _ below hf ((Spec.applies_iff_loose hf).mp happ).1 ⟨rfl, State.Warmed39.refl s, rfl⟩ trivial
  obtain ⟨rfl, N⟩ := hQ
  rw [law_eq _ _ _ _ _ (own_fw cl) hT] at *
  refine ⟨n, _, h1, h2, h3, hpost _ _ _ _ _ _ ⟨Cond.after_iff.mpr rfl, Cond.after_iff.mpr (eq_i res_at (Term.int_eval (1)) rfl)⟩ ⟨hq.1, hq.2.1, (hq.2.2.sift fun y hy => Or.inr (N y hy)).mono (by decide) (by decide)⟩⟩
theorem main_1_1 : Claimed_1_1 := comes_1 fun _ _ _ _ _ _ h hF => ⟨h.1, hF⟩
theorem main_1_2 : Claimed_1_2 := comes_1 fun _ _ _ _ _ _ h hF => ⟨h.2, hF⟩
end Jvm.Pilot.@@N@@
namespace Jvm.Pilot.@@N@@
open Jvm Jvm.ClassFile Sem Op Lib Jvm.Free Jvm.Stand Jvm.Pilot.@@N@@.Jvm.D
/-! MADE BY PROGRAM (witnessworld.py) out of the Statement's table words and the real class files: 11 classes; the members and pool entries that the words name. The judged class is class 1, her method 2. -/
namespace start1
open Jvm.ClassFile
def u (s : String) : CpInfo := .utf8 (stringToUtf16 s)
/-- a pool by its gaps: so many unusable entries, then the entry; so many at the end -/
def gap : Nat → List CpInfo → List CpInfo
  | 0, r => r
  | n + 1, r => .unusable :: gap n r
def poolList (es : List (Nat × CpInfo)) (last : Nat) : List CpInfo := es.foldr (fun e r => gap e.1 (e.2 :: r)) (gap last [])
def pool (es : List (Nat × CpInfo)) (last : Nat) : Array CpInfo := ⟨poolList es last⟩
def fileOf (pool : Array CpInfo) (this : Nat) (attrs : Array Attribute := #[]) (ms : Array MethodInfo := #[]) (fl : Nat := 33) (sup : Nat := 0) (ifs : Array Nat := #[]) (fds : Array FieldInfo := #[]) : ClassFile where
  minorVersion := 0
  majorVersion := 65
  constantPool := pool
  accessFlags := fl
  thisClass := this
  superClass := sup
  interfaces := ifs
  fields := fds
  methods := ms
  attributes := attrs
def plain (name : String) (sup : Option ClassId) : Class where
  name := name
  kind := .ordinary
  loader := none
  accessFlags := 33
  super := sup
  interfaces := #[]
  cf := none
  fields := #[]
  methods := #[]
  instanceTypes := #[]
  staticTypes := #[]
  resolved := #[]
  callSites := []
  init := .initialized
  statics := none
  mirror := none

def pool0 : Array CpInfo := pool [(5, u "<init>"), (0, u "()V"), (1, .class_ 10), (1, u "java/lang/Object")] 113

def k0m0 : Method := { name := "<init>", desc := "()V", sig := { parameters := [], returnType := none }, accessFlags := 1, code := none }
/-- java/lang/Object -/
def k0 : Class := { plain "java/lang/Object" none with
  accessFlags := 33
  interfaces := #[]
  cf := some (fileOf pool0 8 #[] #[{ accessFlags := 1, nameIndex := 5, descriptorIndex := 6, attributes := #[] }] 33 0 #[] #[])
  fields := #[]
  methods := #[k0m0]
  instanceTypes := #[]
  staticTypes := #[]
  resolved := Array.replicate 124 none
  statics := none }

def pool1 : Array CpInfo := pool [(2, .class_ 4), (1, u "java/lang/Object"), (0, u "<init>"), (0, u "()V"), (0, .integer 2147483647), (0, .methodref 9 10), (0, .class_ 11), (0, .nameAndType 12 13), (0, u "com/example/zahlwerk/zahlwerk/rules/ImpayCharactersChangedPinLaw"), (0, u "kept"), (0, u "(C)Z"), (0, .methodref 15 16), (0, .class_ 17), (0, .nameAndType 18 19), (0, u "com/example/zahlwerk/zahlwerk/rules/ImpayCharacters"), (0, u "changed"), (0, u "([CI)Z"), (3, u "law"), (0, u "(IIIII)Z")] 4

def k1m0 : Method := { name := "<init>", desc := "()V", sig := { parameters := [], returnType := none }, accessFlags := 2, code := none }
def k1c1 : Code := { maxStack := 2, maxLocals := 1, code := method_2_code, exceptionTable := #[], attributes := #[] }
def k1m1 : Method := { name := "kept", desc := "(C)Z", sig := { parameters := [.char], returnType := some .boolean }, accessFlags := 10, code := some k1c1 }
def k1c2 : Code := { maxStack := 4, maxLocals := 13, code := code, exceptionTable := #[], attributes := #[] }
def k1m2 : Method := { name := "law", desc := "(IIIII)Z", sig := { parameters := [.int, .int, .int, .int, .int], returnType := some .boolean }, accessFlags := 9, code := some k1c2 }
/-- com/example/zahlwerk/zahlwerk/rules/ImpayCharactersChangedPinLaw -/
def k1 : Class := { plain "com/example/zahlwerk/zahlwerk/rules/ImpayCharactersChangedPinLaw" (some 0) with
  accessFlags := 49
  interfaces := #[]
  cf := some (fileOf pool1 9 #[] #[{ accessFlags := 2, nameIndex := 5, descriptorIndex := 6, attributes := #[] }, { accessFlags := 10, nameIndex := 12, descriptorIndex := 13, attributes := #[] }, { accessFlags := 9, nameIndex := 23, descriptorIndex := 24, attributes := #[] }] 49 2 #[] #[])
  fields := #[]
  methods := #[k1m0, k1m1, k1m2]
  instanceTypes := #[]
  staticTypes := #[]
  resolved := Array.replicate 29 none
  statics := none }

def pool2 : Array CpInfo := pool [(2, .class_ 4), (1, u "java/lang/Object"), (0, u "<init>"), (0, u "()V"), (0, .class_ 8), (0, u "com/example/zahlwerk/zahlwerk/rules/ImpayCharacters"), (20, .fieldref 7 30), (0, .nameAndType 31 32), (0, u "FORWARDED"), (0, u "[C"), (22, u "CARRIED"), (0, u "Ljava/lang/String;"), (1, u "REPLACED"), (0, u "OTHER"), (0, u "C"), (7, u "changed"), (0, u "([CI)Z")] 5

def k2m0 : Method := { name := "<init>", desc := "()V", sig := { parameters := [], returnType := none }, accessFlags := 2, code := none }
def k2c1 : Code := { maxStack := 2, maxLocals := 4, code := prog_125_method_3_code, exceptionTable := #[], attributes := #[] }
def k2m1 : Method := { name := "changed", desc := "([CI)Z", sig := { parameters := [(.array .char), .int], returnType := some .boolean }, accessFlags := 8, code := some k2c1 }
/-- com/example/zahlwerk/zahlwerk/rules/ImpayCharacters -/
def k2 : Class := { plain "com/example/zahlwerk/zahlwerk/rules/ImpayCharacters" (some 0) with
  accessFlags := 48
  interfaces := #[]
  cf := some (fileOf pool2 7 #[] #[{ accessFlags := 2, nameIndex := 5, descriptorIndex := 6, attributes := #[] }, { accessFlags := 8, nameIndex := 68, descriptorIndex := 69, attributes := #[] }] 48 2 #[] #[{ accessFlags := 26, nameIndex := 55, descriptorIndex := 56, attributes := #[] }, { accessFlags := 26, nameIndex := 58, descriptorIndex := 56, attributes := #[] }, { accessFlags := 26, nameIndex := 59, descriptorIndex := 60, attributes := #[] }, { accessFlags := 26, nameIndex := 31, descriptorIndex := 32, attributes := #[] }])
  fields := #[{ name := "CARRIED", type := (.object "java/lang/String"), accessFlags := 26, slot := 0, constantValue := 0 }, { name := "REPLACED", type := (.object "java/lang/String"), accessFlags := 26, slot := 1, constantValue := 0 }, { name := "OTHER", type := .char, accessFlags := 26, slot := 2, constantValue := 0 }, { name := "FORWARDED", type := (.array .char), accessFlags := 26, slot := 3, constantValue := 0 }]
  methods := #[k2m0, k2m1]
  instanceTypes := #[]
  staticTypes := #[(.object "java/lang/String"), (.object "java/lang/String"), .char, (.array .char)]
  resolved := Array.replicate 75 none
  statics := some 0 }

def pool3 : Array CpInfo := pool [(1, u "java/lang/Cloneable"), (0, .class_ 1), (0, u "java/lang/Object"), (0, .class_ 3)] 3

/-- java/lang/Cloneable -/
def k3 : Class := { plain "java/lang/Cloneable" (some 0) with
  accessFlags := 1537
  interfaces := #[]
  cf := some (fileOf pool3 2 #[] #[] 1537 4 #[] #[])
  fields := #[]
  methods := #[]
  instanceTypes := #[]
  staticTypes := #[]
  resolved := Array.replicate 8 none
  statics := none }

def pool4 : Array CpInfo := pool [(1, u "java/io/Serializable"), (0, .class_ 1), (0, u "java/lang/Object"), (0, .class_ 3)] 3

/-- java/io/Serializable -/
def k4 : Class := { plain "java/io/Serializable" (some 0) with
  accessFlags := 1537
  interfaces := #[]
  cf := some (fileOf pool4 2 #[] #[] 1537 4 #[] #[])
  fields := #[]
  methods := #[]
  instanceTypes := #[]
  staticTypes := #[]
  resolved := Array.replicate 8 none
  statics := none }

/-- the primitive byte -/
def k5 : Class := { plain "byte" none with kind := .primitive 'B', accessFlags := 0x411 }
/-- [B -/
def k6 : Class := { plain "[B" (some 0) with kind := .array 5 .byte, interfaces := #[3, 4], accessFlags := 1041 }

/-- the primitive char -/
def k7 : Class := { plain "char" none with kind := .primitive 'C', accessFlags := 0x411 }
/-- [C -/
def k8 : Class := { plain "[C" (some 0) with kind := .array 7 .char, interfaces := #[3, 4], accessFlags := 1041 }

/-- the primitive int -/
def k9 : Class := { plain "int" none with kind := .primitive 'I', accessFlags := 0x411 }
/-- [I -/
def k10 : Class := { plain "[I" (some 0) with kind := .array 9 .int, interfaces := #[3, 4], accessFlags := 1041 }

def heap : Heap := #[{ cls := 2, slots := #[.null, .null, .int 0, .ref 1], vm := .statics 2 },
  { cls := 8, slots := #[.int 46, .int 46, .int 46, .int 46, .int 46, .int 46, .int 46, .int 46, .int 46, .int 46, .int 46, .int 46, .int 46, .int 46, .int 46, .int 46, .int 46, .int 46, .int 46, .int 46, .int 46, .int 46, .int 46, .int 46, .int 46, .int 46, .int 46, .int 46, .int 46, .int 46, .int 46, .int 46, .int 32, .int 46, .int 46, .int 46, .int 46, .int 46, .int 43, .int 39, .int 40, .int 41, .int 46, .int 43, .int 44, .int 45, .int 46, .int 47, .int 48, .int 49, .int 50, .int 51, .int 52, .int 53, .int 54, .int 55, .int 56, .int 57, .int 58, .int 46, .int 46, .int 46, .int 46, .int 63, .int 46, .int 65, .int 66, .int 67, .int 68, .int 69, .int 70, .int 71, .int 72, .int 73, .int 74, .int 75, .int 76, .int 77, .int 78, .int 79, .int 80, .int 81, .int 82, .int 83, .int 84, .int 85, .int 86, .int 87, .int 88, .int 89, .int 90, .int 46, .int 46, .int 46, .int 46, .int 46, .int 46, .int 97, .int 98, .int 99, .int 100, .int 101, .int 102, .int 103, .int 104, .int 105, .int 106, .int 107, .int 108, .int 109, .int 110, .int 111, .int 112, .int 113, .int 114, .int 115, .int 116, .int 117, .int 118, .int 119, .int 120, .int 121, .int 122, .int 46, .int 46, .int 46, .int 46, .int 46, .int 46, .int 46, .int 46, .int 46, .int 46, .int 46, .int 46, .int 46, .int 46, .int 46, .int 46, .int 46, .int 46, .int 46, .int 46, .int 46, .int 46, .int 46, .int 46, .int 46, .int 46, .int 46, .int 46, .int 46, .int 46, .int 46, .int 46, .int 46, .int 46, .int 46, .int 46, .int 46, .int 46, .int 46, .int 46, .int 46, .int 46, .int 46, .int 46, .int 46, .int 46, .int 46, .int 46, .int 46, .int 46, .int 46, .int 46, .int 46, .int 46, .int 46, .int 46, .int 46, .int 46, .int 46, .int 46, .int 46, .int 46, .int 46, .int 46, .int 46, .int 46, .int 46, .int 46, .int 46, .int 46, .int 46, .int 46, .int 46, .int 65, .int 46, .int 46, .int 46, .int 46, .int 46, .int 46, .int 46, .int 46, .int 46, .int 46, .int 46, .int 46, .int 46, .int 46, .int 46, .int 46, .int 46, .int 79, .int 46, .int 46, .int 46, .int 46, .int 46, .int 85, .int 46, .int 46, .int 115, .int 46, .int 46, .int 46, .int 46, .int 97, .int 46, .int 46, .int 46, .int 46, .int 46, .int 46, .int 46, .int 46, .int 46, .int 46, .int 46, .int 46, .int 46, .int 46, .int 46, .int 46, .int 46, .int 111, .int 46, .int 46, .int 46, .int 46, .int 46, .int 117, .int 46, .int 46, .int 46], vm := .none }]
def classes : Array Class := #[k0, k1, k2, k3, k4, k5, k6, k7, k8, k9, k10]
def interned : List (Array UInt16 × Addr) := []
def slotsUsed : Nat := 260
def theMethod : MethodId := ⟨1, 2⟩
def args0 : Array Value := #[.int 65, .int 66, .int 200, .int 68, .int 3]
def aboutOver (below : List Frame) : State where
  vm := { classes := classes, interned := interned.toArray }
  heap := heap
  slotsUsed := slotsUsed
  threads := #[{ frames := .invoking theMethod args0 :: below }]
def below0 : List Frame := [.native { method := ⟨0, 0⟩, args := #[] }]
def about1 : State := aboutOver below0
def p0 : Program := .bare "" "" ""
def e0 : Env := launch0.env 0 0 0
theorem w_frames : about1.frames = Frame.invoking theMethod args0 :: below0 := rfl
set_option maxRecDepth 65536 in
theorem w_args : argsFit about1.vm theMethod args0 = true := by decide +kernel
set_option maxRecDepth 65536 in
theorem w_heap : heapFits about1 = true := by decide +kernel
set_option maxRecDepth 65536 in
theorem w_runnable : about1.curStatus? = some .runnable := by decide +kernel
set_option maxRecDepth 65536 in
theorem w_alone : about1.alone = true := by decide +kernel
set_option maxRecDepth 65536 in
theorem w_named : about1.methodNamed? x = some theMethod := by decide +kernel
set_option maxRecDepth 65536 in
theorem w_hears : about1.hears theMethod below0 = true := by decide +kernel
set_option maxRecDepth 65536 in
theorem w_ripe : about1.ripe theMethod args0 below0 = true := by decide +kernel
theorem w_running : about1.status = .running := rfl
set_option maxRecDepth 65536 in
theorem w_room : about1.hasRoom e0.platform room_1 = true :=
  launch0.hasRoom_least _ room_1 (by decide +kernel) (by decide +kernel) (by decide +kernel) (by decide +kernel) (by decide +kernel) (by decide +kernel)
theorem allAtoms_all (ts : List Jvm.Cond) (a : Array Jvm.Value) (st : Jvm.State) : (allAtoms ts).before a st = ts.all (fun c => c.before a st) := by
  induction ts with
  | nil => rfl
  | cons c t ih =>
    show (Jvm.Cond.and c (allAtoms t)).before a st = _
    rw [Jvm.Cond.before_and, ih, List.all_cons]
def words1 : List Jvm.Cond := Jvm.Cond.code x code maxLocals ret :: tables_1
/-- a 'code' word, met by the world's own term for the bytes: nothing is compared byte by byte -/
theorem code_word {y : MethodName} {bytes : ByteArray} {mx : Nat} {rt : Option FieldType} {a : Array Value} {s : State} {m : MethodId} {meth : Method} {c : Code} (h1 : s.methodNamed? y = some m) (h2 : s.vm.method? m = some meth) (h3 : meth.code = some c) (h4 : c.code = bytes)
    (h5 : (c.maxLocals == mx && c.exceptionTable.isEmpty && decide (c.maxStack ≤ mostOperands) && decide (meth.sig.returnType = rt) && !meth.locks && decide (parseMethodDescriptor y.desc = some meth.sig)) = true) : (Jvm.Cond.code y bytes mx rt).before a s = true := by
  simp only [Bool.and_eq_true, beq_iff_eq, Bool.not_eq_true', decide_eq_true_eq] at h5
  obtain ⟨⟨⟨⟨⟨g1, g2⟩, g3⟩, g4⟩, g5⟩, g6⟩ := h5
  simp [Cond.before, Cond.holds, Cond.value, h1, h2, h3, h4, g1, g2, g3, g4, g5, g6]
def isCode : Jvm.Cond → Bool
  | .code _ _ _ _ => true
  | _ => false
theorem all_split {L : List Jvm.Cond} {P : Jvm.Cond → Bool} (h1 : L.all (fun c => isCode c || P c) = true) (h2 : ∀ c ∈ L.filter isCode, P c = true) : L.all P = true := by
  refine List.all_eq_true.mpr fun c hc => ?_
  have h := List.all_eq_true.mp h1 c hc
  rcases Bool.eq_false_or_eq_true (isCode c) with hi | hi
  · exact h2 c (List.mem_filter.mpr ⟨hc, hi⟩)
  · simpa [hi] using h
set_option maxRecDepth 65536 in
theorem w_c0 : (Jvm.Cond.code x code maxLocals ret).before args0 about1 = true := code_word (m := ⟨1, 2⟩) (meth := k1m2) (c := k1c2) (by decide +kernel) rfl rfl rfl (by decide +kernel)
set_option maxRecDepth 65536 in
theorem w_c1 : (Jvm.Cond.code ({ cls := "com/example/zahlwerk/zahlwerk/rules/ImpayCharacters", name := "changed", desc := "([CI)Z" } : Jvm.MethodName) prog_125_method_3_code (4 : Nat) (Option.some Jvm.ClassFile.FieldType.boolean)).before args0 about1 = true := code_word (m := ⟨2, 1⟩) (meth := k2m1) (c := k2c1) (by decide +kernel) rfl rfl rfl (by decide +kernel)
set_option maxRecDepth 65536 in
theorem w_c2 : (Jvm.Cond.code ({ cls := "com/example/zahlwerk/zahlwerk/rules/ImpayCharactersChangedPinLaw", name := "kept", desc := "(C)Z" } : Jvm.MethodName) method_2_code (1 : Nat) (Option.some Jvm.ClassFile.FieldType.boolean)).before args0 about1 = true := code_word (m := ⟨1, 1⟩) (meth := k1m1) (c := k1c1) (by decide +kernel) rfl rfl rfl (by decide +kernel)
def codes1 : List Jvm.Cond := [Jvm.Cond.code x code maxLocals ret, Jvm.Cond.code ({ cls := "com/example/zahlwerk/zahlwerk/rules/ImpayCharacters", name := "changed", desc := "([CI)Z" } : Jvm.MethodName) prog_125_method_3_code (4 : Nat) (Option.some Jvm.ClassFile.FieldType.boolean), Jvm.Cond.code ({ cls := "com/example/zahlwerk/zahlwerk/rules/ImpayCharactersChangedPinLaw", name := "kept", desc := "(C)Z" } : Jvm.MethodName) method_2_code (1 : Nat) (Option.some Jvm.ClassFile.FieldType.boolean)]
set_option maxRecDepth 65536 in
theorem codes_eq : words1.filter isCode = codes1 := rfl
theorem w_codes : ∀ c ∈ words1.filter isCode, c.before args0 about1 = true := by
  rw [codes_eq]
  intro c hc
  simp only [codes1, List.mem_cons, List.not_mem_nil, or_false] at hc
  rcases hc with rfl | rfl | rfl
  · exact w_c0
  · exact w_c1
  · exact w_c2
set_option maxRecDepth 65536 in
theorem w_t1 : words1.all (fun c => isCode c || c.before args0 about1) = true := by decide +kernel
theorem w_tables : (allAtoms (Jvm.Cond.code x code maxLocals ret :: tables_1)).before args0 about1 = true := by
  rw [allAtoms_all]
  show words1.all (fun c => c.before args0 about1) = true
  refine all_split ?_ w_codes
  rw [w_t1]
set_option maxRecDepth 65536 in
theorem w_case : (Jvm.Cond.and given_1 narrow_1).before args0 about1 = true := by decide +kernel
theorem w_applies : (headSpec (Jvm.Cond.code x code maxLocals ret :: tables_1) room_1).applies x e0.platform about1 = true :=
  (Spec.applies_iff w_frames).mpr ⟨w_running, w_runnable, w_alone, w_named, w_hears, w_ripe, w_room, w_tables⟩
theorem atStart : AtStart classFile x code maxLocals ret World_1 tables_1 room_1 Calls_1 rest_1 Pre_1 launch0 p0 e0 about1 theMethod args0 below0 :=
  ⟨lists_1, trivial, launch0.admits_env _ _ _, launch0.least_env, fairChoices_fair.cas, fairChoices_fair.clock, w_frames, w_args, w_heap, w_applies, trivial, trivial, w_case⟩
end start1
theorem witness_1 : WitnessClaimed_1 := ⟨start1.p0, start1.e0, start1.about1, start1.theMethod, start1.args0, start1.below0, start1.atStart⟩
end Jvm.Pilot.@@N@@
