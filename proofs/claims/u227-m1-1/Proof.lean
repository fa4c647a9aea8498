import JvmDerived
import JvmDerived.Pilot.@@N@@Statement
import JvmDerived.Pilot.@@N@@Code
set_option linter.unusedVariables false
set_option linter.unusedSimpArgs false
namespace Jvm.Pilot.@@N@@
open Jvm Jvm.ClassFile Sem Op Lib Jvm.Free Jvm.Stand Jvm.LawKit Jvm.RoadKit Bundle Jvm.Pilot.@@N@@.Jvm.D
/-! from a frame on, the body comes to its end as Q says -/
section OwnKit
variable {p : Program} {l : Launch} {e : Env} {R : Room} {s : State} {m : MethodId} {args : Array Value} {below : List Frame} {meth : Method} {c : Code} {T T' : State} {locs : List Loc} {cells slots C D : Nat} {Q Q' : Option Value → Heap → List Loc → Prop} {g g' : JFrame}
def Go (p : Program) (e : Env) (below : List Frame) (s : State) (C D : Nat) (Q : Option Value → Heap → List Loc → Prop) (T : State) (g : JFrame) : Prop :=
  ∃ u o, Steps p.tables e below (T.setTop g) u ∧ u.status = .running ∧ Ended u below o ∧ ∃ v L, o = .returned v ∧ Q v u.heap L ∧ FrameEnd s o u L C D
def PureQ (r : Value) (h0 : Heap) (v : Option Value) (h : Heap) (L : List Loc) : Prop := v = some r ∧ L = [] ∧ h = h0
theorem Go.step (k : ∀ t, Steps p.tables e below (T'.setTop g') t → Steps p.tables e below (T.setTop g) t) (h : Go p e below s C D Q T' g') : Go p e below s C D Q T g := by
  obtain ⟨u, o, h1, r⟩ := h
  exact ⟨u, o, k _ h1, r⟩
theorem Go.mono (h : Go p e below s C D Q T g) (q : ∀ v h L, Q v h L → Q' v h L) : Go p e below s C D Q' T g := by
  obtain ⟨u, o, h1, h2, h3, v, L, h4, h5, h6⟩ := h
  exact ⟨u, o, h1, h2, h3, v, L, h4, q _ _ _ h5, h6⟩
theorem Go.retN (X : Stand p l e R s m args below meth c T locs cells slots) (hx : p.tables.exec = Jvm.exec) (hlk : meth.locks = false) {pc : Nat} {Ls : Array Slot} {z : Int32} {t : FieldType} {rest : List Value} (hret : meth.sig.returnType = some t) (ht : t = .boolean ∨ t = .byte ∨ t = .char ∨ t = .short)
    (hd : decode c.code pc = .ok (.ireturn, 1)) (hC : cells ≤ C) (hD : slots ≤ D) (hq : Q (some (.int (nar t z))) T.heap locs) : Go p e below s C D Q T (mkF m pc Ls (.int z :: rest)) := by
  obtain ⟨fs, hr, hrun, hended, hW, hsame⟩ := X.leave (v := some (.int (nar t z))) (fun h => by rw [hret] at h; cases h) hlk
  exact ⟨_, _, Jvm.RoadKit.retN X hx hret ht hd hr, hrun, hended, _, _, rfl, hq, ⟨_, rfl⟩, hW, hsame.mono hC hD⟩
theorem Go.retW (X : Stand p l e R s m args below meth c T locs cells slots) (hx : p.tables.exec = Jvm.exec) (hlk : meth.locks = false) {pc : Nat} {Ls : Array Slot} {w : Value} {t : FieldType} {i : Instr} {rest : List Value} (hret : meth.sig.returnType = some t) (hn : narrow t w = w)
    (hi : (i = .ireturn ∧ (t = .int ∨ t = .boolean ∨ t = .byte ∨ t = .char ∨ t = .short) ∧ ∃ z, w = .int z) ∨ (i = .lreturn ∧ t = .long ∧ ∃ z, w = .long z) ∨ (i = .dreturn ∧ t = .double ∧ ∃ z, w = .double z) ∨ (i = .freturn ∧ t = .float ∧ ∃ z, w = .float z) ∨ (i = .areturn ∧ t.isReference = true ∧ w.isRef = true))
    (hd : decode c.code pc = .ok (i, 1)) (hC : cells ≤ C) (hD : slots ≤ D) (hq : Q (some w) T.heap locs) : Go p e below s C D Q T (mkF m pc Ls (w :: rest)) := by
  obtain ⟨fs, hr, hrun, hended, hW, hsame⟩ := X.leave (v := some w) (fun h => by rw [hret] at h; cases h) hlk
  exact ⟨_, _, retOut X hx hret hn hi hd hr, hrun, hended, _, _, rfl, hq, ⟨_, rfl⟩, hW, hsame.mono hC hD⟩
theorem Go.ret0 (X : Stand p l e R s m args below meth c T locs cells slots) (hx : p.tables.exec = Jvm.exec) (hlk : meth.locks = false) {pc : Nat} {Ls : Array Slot} (hret : meth.sig.returnType = none)
    (hd : decode c.code pc = .ok (.return_, 1)) (hC : cells ≤ C) (hD : slots ≤ D) (hq : Q none T.heap locs) : Go p e below s C D Q T (mkF m pc Ls []) := by
  obtain ⟨fs, hr, hrun, hended, hW, hsame⟩ := X.leave (v := none) (fun _ => rfl) hlk
  exact ⟨_, _, X.returnOut hx hret hd hr, hrun, hended, _, _, rfl, hq, ⟨_, rfl⟩, hW, hsame.mono hC hD⟩
end OwnKit
theorem pd_0 : parseMethodDescriptor "(I)Z" = some ⟨[.int], some .boolean⟩ := by decide +kernel
section OwnHeap
variable {p : Program} {l : Launch} {e : Env} {R : Room} {s : State} {m : MethodId} {args : Array Value} {below : List Frame} {meth : Method} {c : Code} {T : State} {locs : List Loc} {cells slots n0 : Nat}
variable {Z : State} {h h' : Heap} {a b : Addr} {ty : FieldType} {n sl : Nat} {f : Nat → Value} {v : Value} {ws : List Addr} {j : Int32} {gf : JFrame} {rest : List Value}
def IA (Z : State) (h : Heap) (a : Addr) (ty : FieldType) (n : Nat) (f : Nat → Value) : Prop := ∃ c : Cell, Arr Z h a c ty ∧ c.slots.size = n ∧ ∀ k, k < n → c.slots[k]? = some (f k)
def upd {α : Type} (g : Nat → α) (j : Nat) (v : α) (k : Nat) : α := if k = j then v else g k
theorem IA.lt (F : IA Z h a ty n f) : a < h.size := by obtain ⟨c, A, -⟩ := F; exact A.lt
theorem IA.ext (F : IA Z h a ty n f) (E : Ext h h') : IA Z h' a ty n f := by obtain ⟨c, A, r⟩ := F; exact ⟨c, A.ext E, r⟩
theorem IA.other (F : IA Z h b ty n f) (W : Wr h h' a sl v) (q : b ≠ a) : IA Z h' b ty n f := by obtain ⟨c, A, r⟩ := F; exact ⟨c, A.other W q, r⟩
theorem IA.keep (F : IA Z h a ty n f) (K : Keep h h' ws) (q : a ∉ ws) : IA Z h' a ty n f := by obtain ⟨c, A, r⟩ := F; exact ⟨c, ⟨K.2.1 a c A.1 q, A.2⟩, r⟩
theorem IA.of_new {k : ClassId} {z : Int32} (A : Arr Z h a (newA k ty z) ty) (hn : z.toNatClampNeg = n) : IA Z h a ty n (fun _ => defaultValue ty) :=
  ⟨_, A, (sz_new _ _ _).trans hn, fun i hi => by subst hn; simp [newA, hi]⟩
theorem IA.set {c : Cell} {F : Nat → Value} (A : Arr Z h a c ty) (S : c.slots.size = n) (H : ∀ k, k < n → c.slots[k]? = some (F k)) (hj : ¬ (j < 0 ∨ n ≤ j.toNatClampNeg)) (W : Wr h h' a j.toNatClampNeg v) : IA Z h' a ty n (upd F j.toNatClampNeg v) := by
  refine ⟨_, A.same W, (sz_set _ _ _).trans S, fun k hk => ?_⟩
  by_cases q : k = j.toNatClampNeg
  · subst q; simp [Cell.setSlot, upd, S, hk]
  · simp only [Cell.setSlot, upd, if_neg q]
    rw [Array.getElem?_setIfInBounds_ne (Ne.symm q)]; exact H k hk
theorem IA.cong {f' : Nat → Value} (F : IA Z h a ty n f) (q : ∀ k, k < n → f k = f' k) : IA Z h a ty n f' := by
  obtain ⟨c, A, S, H⟩ := F; exact ⟨c, A, S, fun k hk => by rw [H k hk, q k hk]⟩
theorem own_pack (X : Stand p l e R s m args below meth c T locs cells slots) (N : Fr n0 locs) : ∃ lc, Stand p l e R s m args below meth c T lc cells slots ∧ Fr n0 lc := ⟨_, X, N⟩
theorem own_more {C D : Nat} (X : Stand p l e R s m args below meth c T locs cells slots) (hC : cells ≤ C) (hD : slots ≤ D) : Stand p l e R s m args below meth c T locs C D := X.more hC hD
theorem putAI {g : Nat → Int32} {x : Int32} (X : Stand p l e R s m args below meth c T locs cells slots) (hx : p.tables.exec = Jvm.exec) (hZ : Z.Warmed39 s.vm) (eT : T.heap = h) (F : IA Z h a .int n (fun k => .int (g k))) (hj : ¬ (j < 0 ∨ n ≤ j.toNatClampNeg)) (N : Fr n0 locs) (ha : n0 ≤ a) (hg : gf.method = m) (hs : gf.stack = .int x :: .int j :: .ref a :: rest) (hd : decode c.code gf.pc = .ok (.iastore, 1)) :
    ∃ T' h' lc, Stand p l e R s m args below meth c T' lc cells slots ∧ T'.heap = h' ∧ Wr h h' a j.toNatClampNeg (.int x) ∧ Fr n0 lc ∧ IA Z h' a .int n (fun k => .int (upd g j.toNatClampNeg x k)) ∧ ∀ target, Steps p.tables e below (T'.setTop { gf with pc := gf.pc + 1, stack := rest }) target → Steps p.tables e below (T.setTop gf) target := by
  obtain ⟨cl, A, S, H⟩ := F
  obtain ⟨T', h', X', e', W, st⟩ := stI X hx hZ eT A (j := j) (x := x) (by rw [S]; exact hj) hg hs hd
  exact ⟨T', h', _, X', e', W, Fr.snoc X' N ha, (IA.set A S H hj W).cong fun k _ => by simp only [upd]; split <;> rfl, st⟩
theorem putAJ {g : Nat → Int64} {x : Int64} (X : Stand p l e R s m args below meth c T locs cells slots) (hx : p.tables.exec = Jvm.exec) (hZ : Z.Warmed39 s.vm) (eT : T.heap = h) (F : IA Z h a .long n (fun k => .long (g k))) (hj : ¬ (j < 0 ∨ n ≤ j.toNatClampNeg)) (N : Fr n0 locs) (ha : n0 ≤ a) (hg : gf.method = m) (hs : gf.stack = .long x :: .int j :: .ref a :: rest) (hd : decode c.code gf.pc = .ok (.lastore, 1)) :
    ∃ T' h' lc, Stand p l e R s m args below meth c T' lc cells slots ∧ T'.heap = h' ∧ Wr h h' a j.toNatClampNeg (.long x) ∧ Fr n0 lc ∧ IA Z h' a .long n (fun k => .long (upd g j.toNatClampNeg x k)) ∧ ∀ target, Steps p.tables e below (T'.setTop { gf with pc := gf.pc + 1, stack := rest }) target → Steps p.tables e below (T.setTop gf) target := by
  obtain ⟨cl, A, S, H⟩ := F
  obtain ⟨T', h', X', e', W, st⟩ := stJ X hx hZ eT A (j := j) (x := x) (by rw [S]; exact hj) hg hs hd
  exact ⟨T', h', _, X', e', W, Fr.snoc X' N ha, (IA.set A S H hj W).cong fun k _ => by simp only [upd]; split <;> rfl, st⟩
theorem putAC {g : Nat → Int32} {x : Int32} (X : Stand p l e R s m args below meth c T locs cells slots) (hx : p.tables.exec = Jvm.exec) (hZ : Z.Warmed39 s.vm) (eT : T.heap = h) (F : IA Z h a .char n (fun k => .int (g k))) (hj : ¬ (j < 0 ∨ n ≤ j.toNatClampNeg)) (N : Fr n0 locs) (ha : n0 ≤ a) (hg : gf.method = m) (hs : gf.stack = .int x :: .int j :: .ref a :: rest) (hd : decode c.code gf.pc = .ok (.castore, 1)) :
    ∃ T' h' lc, Stand p l e R s m args below meth c T' lc cells slots ∧ T'.heap = h' ∧ Wr h h' a j.toNatClampNeg (.int (nar .char x)) ∧ Fr n0 lc ∧ IA Z h' a .char n (fun k => .int (upd g j.toNatClampNeg (nar .char x) k)) ∧ ∀ target, Steps p.tables e below (T'.setTop { gf with pc := gf.pc + 1, stack := rest }) target → Steps p.tables e below (T.setTop gf) target := by
  obtain ⟨cl, A, S, H⟩ := F
  obtain ⟨T', h', X', e', W, st⟩ := stC X hx hZ eT A (j := j) (x := x) (by rw [S]; exact hj) hg hs hd
  exact ⟨T', h', _, X', e', W, Fr.snoc X' N ha, (IA.set A S H hj W).cong fun k _ => by simp only [upd]; split <;> rfl, st⟩
theorem putAB {g : Nat → Int32} {x : Int32} (X : Stand p l e R s m args below meth c T locs cells slots) (hx : p.tables.exec = Jvm.exec) (hZ : Z.Warmed39 s.vm) (eT : T.heap = h) (F : IA Z h a .byte n (fun k => .int (g k))) (hj : ¬ (j < 0 ∨ n ≤ j.toNatClampNeg)) (N : Fr n0 locs) (ha : n0 ≤ a) (hg : gf.method = m) (hs : gf.stack = .int x :: .int j :: .ref a :: rest) (hd : decode c.code gf.pc = .ok (.bastore, 1)) :
    ∃ T' h' lc, Stand p l e R s m args below meth c T' lc cells slots ∧ T'.heap = h' ∧ Wr h h' a j.toNatClampNeg (.int (nar .byte x)) ∧ Fr n0 lc ∧ IA Z h' a .byte n (fun k => .int (upd g j.toNatClampNeg (nar .byte x) k)) ∧ ∀ target, Steps p.tables e below (T'.setTop { gf with pc := gf.pc + 1, stack := rest }) target → Steps p.tables e below (T.setTop gf) target := by
  obtain ⟨cl, A, S, H⟩ := F
  obtain ⟨T', h', X', e', W, st⟩ := stB X hx hZ eT A (j := j) (x := x) (by rw [S]; exact hj) hg hs hd
  exact ⟨T', h', _, X', e', W, Fr.snoc X' N ha, (IA.set A S H hj W).cong fun k _ => by simp only [upd]; split <;> rfl, st⟩
theorem putAD {g : Nat → UInt64} {x : UInt64} (X : Stand p l e R s m args below meth c T locs cells slots) (hx : p.tables.exec = Jvm.exec) (hZ : Z.Warmed39 s.vm) (eT : T.heap = h) (F : IA Z h a .double n (fun k => .double (g k))) (hj : ¬ (j < 0 ∨ n ≤ j.toNatClampNeg)) (N : Fr n0 locs) (ha : n0 ≤ a) (hg : gf.method = m) (hs : gf.stack = .double x :: .int j :: .ref a :: rest) (hd : decode c.code gf.pc = .ok (.dastore, 1)) :
    ∃ T' h' lc, Stand p l e R s m args below meth c T' lc cells slots ∧ T'.heap = h' ∧ Wr h h' a j.toNatClampNeg (.double x) ∧ Fr n0 lc ∧ IA Z h' a .double n (fun k => .double (upd g j.toNatClampNeg x k)) ∧ ∀ target, Steps p.tables e below (T'.setTop { gf with pc := gf.pc + 1, stack := rest }) target → Steps p.tables e below (T.setTop gf) target := by
  obtain ⟨cl, A, S, H⟩ := F
  have hj' : ¬ (j < 0 ∨ cl.slots.size ≤ j.toNatClampNeg) := by rw [S]; exact hj
  obtain ⟨X', st⟩ := X.dastore hx (x := x) (by rw [eT]; exact A.1) (State.isArrayOf_alike hZ.alike A.2.1) A.2.2 hj' hg hs hd
  have W : Wr h (T.setCell a (cl.setSlot j.toNatClampNeg (.double x))).heap a j.toNatClampNeg (.double x) := ⟨cl, A.1, A.plain, Nat.lt_of_not_le fun q => hj' (Or.inr q), by rw [← eT]; rfl⟩
  exact ⟨_, _, _, X', rfl, W, Fr.snoc X' N ha, (IA.set A S H hj W).cong fun k _ => by simp only [upd]; split <;> rfl, st⟩
theorem getAI {g : Nat → Int32} {t : State} (X : Stand p l e R s m args below meth c T locs cells slots) (hx : p.tables.exec = Jvm.exec) (hZ : Z.Warmed39 s.vm) (eT : T.heap = h) (F : IA Z h a .int n (fun k => .int (g k))) (hj : ¬ (j < 0 ∨ n ≤ j.toNatClampNeg)) (hg : gf.method = m) (hs : gf.stack = .int j :: .ref a :: rest) (hd : decode c.code gf.pc = .ok (.iaload, 1))
    (hr : Steps p.tables e below (T.setTop { gf with pc := gf.pc + 1, stack := .int (g j.toNatClampNeg) :: rest }) t) : Steps p.tables e below (T.setTop gf) t := by
  obtain ⟨cl, A, S, H⟩ := F
  exact X.iaload hx (by rw [eT]; exact A.1) (State.isArrayOf_alike hZ.alike A.2.1) A.2.2 (by rw [S]; exact hj) (H _ (Nat.lt_of_not_le fun q => hj (Or.inr q))) hg hs hd _ hr
theorem getAJ {g : Nat → Int64} {t : State} (X : Stand p l e R s m args below meth c T locs cells slots) (hx : p.tables.exec = Jvm.exec) (hZ : Z.Warmed39 s.vm) (eT : T.heap = h) (F : IA Z h a .long n (fun k => .long (g k))) (hj : ¬ (j < 0 ∨ n ≤ j.toNatClampNeg)) (hg : gf.method = m) (hs : gf.stack = .int j :: .ref a :: rest) (hd : decode c.code gf.pc = .ok (.laload, 1))
    (hr : Steps p.tables e below (T.setTop { gf with pc := gf.pc + 1, stack := .long (g j.toNatClampNeg) :: rest }) t) : Steps p.tables e below (T.setTop gf) t := by
  obtain ⟨cl, A, S, H⟩ := F
  exact X.laload hx (by rw [eT]; exact A.1) (State.isArrayOf_alike hZ.alike A.2.1) A.2.2 (by rw [S]; exact hj) (H _ (Nat.lt_of_not_le fun q => hj (Or.inr q))) hg hs hd _ hr
theorem getAC {g : Nat → Int32} {t : State} (X : Stand p l e R s m args below meth c T locs cells slots) (hx : p.tables.exec = Jvm.exec) (hZ : Z.Warmed39 s.vm) (eT : T.heap = h) (F : IA Z h a .char n (fun k => .int (g k))) (hj : ¬ (j < 0 ∨ n ≤ j.toNatClampNeg)) (hg : gf.method = m) (hs : gf.stack = .int j :: .ref a :: rest) (hd : decode c.code gf.pc = .ok (.caload, 1))
    (hr : Steps p.tables e below (T.setTop { gf with pc := gf.pc + 1, stack := .int (g j.toNatClampNeg) :: rest }) t) : Steps p.tables e below (T.setTop gf) t := by
  obtain ⟨cl, A, S, H⟩ := F
  exact X.caload hx (by rw [eT]; exact A.1) (State.isArrayOf_alike hZ.alike A.2.1) A.2.2 (by rw [S]; exact hj) (H _ (Nat.lt_of_not_le fun q => hj (Or.inr q))) hg hs hd _ hr
theorem getAB {g : Nat → Int32} {t : State} (X : Stand p l e R s m args below meth c T locs cells slots) (hx : p.tables.exec = Jvm.exec) (hZ : Z.Warmed39 s.vm) (eT : T.heap = h) (F : IA Z h a .byte n (fun k => .int (g k))) (hj : ¬ (j < 0 ∨ n ≤ j.toNatClampNeg)) (hg : gf.method = m) (hs : gf.stack = .int j :: .ref a :: rest) (hd : decode c.code gf.pc = .ok (.baload, 1))
    (hr : Steps p.tables e below (T.setTop { gf with pc := gf.pc + 1, stack := .int (g j.toNatClampNeg) :: rest }) t) : Steps p.tables e below (T.setTop gf) t := by
  obtain ⟨cl, A, S, H⟩ := F
  exact X.baloadBytes hx (by rw [eT]; exact A.1) (State.isArrayOf_alike hZ.alike A.2.1) A.2.2 (by rw [S]; exact hj) (H _ (Nat.lt_of_not_le fun q => hj (Or.inr q))) hg hs hd _ hr
theorem getAD {g : Nat → UInt64} {t : State} (X : Stand p l e R s m args below meth c T locs cells slots) (hx : p.tables.exec = Jvm.exec) (hZ : Z.Warmed39 s.vm) (eT : T.heap = h) (F : IA Z h a .double n (fun k => .double (g k))) (hj : ¬ (j < 0 ∨ n ≤ j.toNatClampNeg)) (hg : gf.method = m) (hs : gf.stack = .int j :: .ref a :: rest) (hd : decode c.code gf.pc = .ok (.daload, 1))
    (hr : Steps p.tables e below (T.setTop { gf with pc := gf.pc + 1, stack := .double (g j.toNatClampNeg) :: rest }) t) : Steps p.tables e below (T.setTop gf) t := by
  obtain ⟨cl, A, S, H⟩ := F
  exact X.daload hx (by rw [eT]; exact A.1) (State.isArrayOf_alike hZ.alike A.2.1) A.2.2 (by rw [S]; exact hj) (H _ (Nat.lt_of_not_le fun q => hj (Or.inr q))) hg hs hd _ hr
theorem getLen {t : State} {z : Int32} (X : Stand p l e R s m args below meth c T locs cells slots) (hx : p.tables.exec = Jvm.exec) (hZ : Z.Warmed39 s.vm) (eT : T.heap = h) (F : IA Z h a ty n f) (hz : n.toInt32 = z) (hg : gf.method = m) (hs : gf.stack = .ref a :: rest) (hd : decode c.code gf.pc = .ok (.arraylength, 1))
    (hr : Steps p.tables e below (T.setTop { gf with pc := gf.pc + 1, stack := .int z :: rest }) t) : Steps p.tables e below (T.setTop gf) t := by
  obtain ⟨cl, A, S, H⟩ := F
  exact X.arraylength hx (by rw [eT]; exact A.1) (State.isArrayOf_alike hZ.alike A.2.1) hg hs hd _ (by rw [S, hz]; exact hr)
end OwnHeap
def LawQ (r : Option Value) (n0 : Nat) (v : Option Value) (h : Heap) (L : List Loc) : Prop := v = r ∧ Fr n0 L
theorem Sta_keep0 {Z : State} {h h' : Heap} {C n d : String} {v : Value} (F : Sta Z h C n d v) (K : Keep h h' []) : Sta Z h' C n d v := by
  obtain ⟨cf, i, k, f, st, cell, h1, h2, h3, h4, h5, r⟩ := F
  exact ⟨cf, i, k, f, st, cell, h1, h2, h3, h4, K.2.1 _ _ h5 nin0, r⟩
theorem own_in15 (x : Int32) : ¬ ((x &&& 15) < 0 ∨ 16 ≤ (x &&& 15).toNatClampNeg) := by
  have e : (x &&& (15 : Int32)).toInt = x.toInt % (2 ^ 4 : Nat) := c_mask x 15 4 (by decide) (by decide)
  have z : (0 : Int32).toInt = 0 := by decide
  have h0 : ¬ (x &&& 15) < 0 := by rw [Int32.lt_iff_toInt_lt, z]; omega
  have h1 := nat_of h0
  intro h
  rcases h with h | h
  · exact h0 h
  · omega
theorem d1_0 : decode prog_77_method_73_code 0 = .ok (.iload_n 0, 1) := by decide +kernel
theorem d1_1 : decode prog_77_method_73_code 1 = .ok (.bipush 9, 2) := by decide +kernel
theorem d1_3 : decode prog_77_method_73_code 3 = .ok (.if_icmp .eq 56, 3) := by decide +kernel
theorem d1_6 : decode prog_77_method_73_code 6 = .ok (.iload_n 0, 1) := by decide +kernel
theorem d1_7 : decode prog_77_method_73_code 7 = .ok (.bipush 10, 2) := by decide +kernel
theorem d1_9 : decode prog_77_method_73_code 9 = .ok (.if_icmp .eq 50, 3) := by decide +kernel
theorem d1_12 : decode prog_77_method_73_code 12 = .ok (.iload_n 0, 1) := by decide +kernel
theorem d1_13 : decode prog_77_method_73_code 13 = .ok (.bipush 13, 2) := by decide +kernel
theorem d1_15 : decode prog_77_method_73_code 15 = .ok (.if_icmp .eq 44, 3) := by decide +kernel
theorem d1_18 : decode prog_77_method_73_code 18 = .ok (.iload_n 0, 1) := by decide +kernel
theorem d1_19 : decode prog_77_method_73_code 19 = .ok (.bipush 32, 2) := by decide +kernel
theorem d1_21 : decode prog_77_method_73_code 21 = .ok (.if_icmp .lt 10, 3) := by decide +kernel
theorem d1_24 : decode prog_77_method_73_code 24 = .ok (.iload_n 0, 1) := by decide +kernel
theorem d1_25 : decode prog_77_method_73_code 25 = .ok (.ldc_w 659, 3) := by decide +kernel
theorem d1_28 : decode prog_77_method_73_code 28 = .ok (.if_icmp .le 31, 3) := by decide +kernel
theorem d1_31 : decode prog_77_method_73_code 31 = .ok (.iload_n 0, 1) := by decide +kernel
theorem d1_32 : decode prog_77_method_73_code 32 = .ok (.ldc_w 791, 3) := by decide +kernel
theorem d1_35 : decode prog_77_method_73_code 35 = .ok (.if_icmp .lt 10, 3) := by decide +kernel
theorem d1_38 : decode prog_77_method_73_code 38 = .ok (.iload_n 0, 1) := by decide +kernel
theorem d1_39 : decode prog_77_method_73_code 39 = .ok (.ldc_w 663, 3) := by decide +kernel
theorem d1_42 : decode prog_77_method_73_code 42 = .ok (.if_icmp .le 17, 3) := by decide +kernel
theorem d1_45 : decode prog_77_method_73_code 45 = .ok (.iload_n 0, 1) := by decide +kernel
theorem d1_46 : decode prog_77_method_73_code 46 = .ok (.ldc_w 469, 3) := by decide +kernel
theorem d1_49 : decode prog_77_method_73_code 49 = .ok (.if_icmp .lt 14, 3) := by decide +kernel
theorem d1_52 : decode prog_77_method_73_code 52 = .ok (.iload_n 0, 1) := by decide +kernel
theorem d1_53 : decode prog_77_method_73_code 53 = .ok (.ldc_w 792, 3) := by decide +kernel
theorem d1_56 : decode prog_77_method_73_code 56 = .ok (.if_icmp .gt 7, 3) := by decide +kernel
theorem d1_59 : decode prog_77_method_73_code 59 = .ok (.iconst 1, 1) := by decide +kernel
theorem d1_60 : decode prog_77_method_73_code 60 = .ok (.goto 4, 3) := by decide +kernel
theorem d1_63 : decode prog_77_method_73_code 63 = .ok (.iconst 0, 1) := by decide +kernel
theorem d1_64 : decode prog_77_method_73_code 64 = .ok (.ireturn, 1) := by decide +kernel
theorem pn_1 : plainName "com/example/zahlwerk/zahlwerk/io/XmlParser" = true := by first | (simp [plainName, overriddenIn]; done) | decide +kernel
theorem ef_1 (m : MethodId) (p0 : Int32) : entryFrame m #[(.int p0)] 1 = mkF m 0 #[.val (.int p0)] [] := by first | (simp [entryFrame, mkF, argsToLocals, Value.category]; done) | rfl
def f1_64 (v64_s0 : Int32) : Int32 := (nar .boolean v64_s0)
def f1_59 : Int32 := (f1_64 (1 : Int32))
def f1_63 : Int32 := (f1_64 (0 : Int32))
def f1_52 (p0 : Int32) : Int32 := if (1114111 : Int32) < p0 then f1_63 else f1_59
def f1_45 (p0 : Int32) : Int32 := if p0 < (65536 : Int32) then f1_63 else (f1_52 p0)
def f1_38 (p0 : Int32) : Int32 := if (65533 : Int32) < p0 then (f1_45 p0) else f1_59
def f1_31 (p0 : Int32) : Int32 := if p0 < (57344 : Int32) then (f1_45 p0) else (f1_38 p0)
def f1_24 (p0 : Int32) : Int32 := if (55295 : Int32) < p0 then (f1_31 p0) else f1_59
def f1_18 (p0 : Int32) : Int32 := if p0 < (32 : Int32) then (f1_31 p0) else (f1_24 p0)
def f1_12 (p0 : Int32) : Int32 := if p0 = (13 : Int32) then f1_59 else (f1_18 p0)
def f1_6 (p0 : Int32) : Int32 := if p0 = (10 : Int32) then f1_59 else (f1_12 p0)
def f1_0 (p0 : Int32) : Int32 := if p0 = (9 : Int32) then f1_59 else (f1_6 p0)
set_option maxRecDepth 65536 in
set_option maxHeartbeats 40000000 in
theorem rm1 (l : Launch) (Z : State) (a0 : Array Value) (hw : ∀ d ∈ tables_1, d.before a0 Z = true) (ws : List Jvm.Cond) (p0 : Int32)  (h0 : Heap) :
    MetFree l (⟨"com/example/zahlwerk/zahlwerk/io/XmlParser", "isCharacter", "(I)Z"⟩ : MethodName) (head1 (Jvm.Cond.code (⟨"com/example/zahlwerk/zahlwerk/io/XmlParser", "isCharacter", "(I)Z"⟩ : MethodName) prog_77_method_73_code 1 (some .boolean) :: ws) ({ frames := 0, cells := 0, slots := 0, locals := 0 } : Room)) (fun a U => a = #[(.int p0)] ∧ Z.Warmed39 U.vm ∧ U.heap = h0) (fun _ _ _ _ _ => True) (fun _ U o U' => ∃ v L, o = .returned v ∧ (PureQ (.int (f1_0 p0)) h0) v U'.heap L ∧ FrameEnd U o U' L ({ frames := 0, cells := 0, slots := 0, locals := 0 } : Room).cells ({ frames := 0, cells := 0, slots := 0, locals := 0 } : Room).slots) := by
  refine MetFree.of_bodySF (plainFor_of_name pn_1) hisR ?_
  intro p e s m args below meth c s₁ Bd hml0 hP hK
  obtain ⟨rfl, hZ, hh⟩ := hP
  have hx := Bd.exec
  have hby := Bd.bytes
  have hlk : meth.locks = false := BodyLoose.notSynchronized Bd
  have hml : c.maxLocals = 1 := hml0
  have hown : s.vm.findClass "com/example/zahlwerk/zahlwerk/io/XmlParser" = some m.cls := findClass_of_methodNamed Bd.named
  have hnm := (name_of_methodNamed Bd.named Bd.method).1
  have X0 : Stand p l e ({ frames := 0, cells := 0, slots := 0, locals := 0 } : Room) s m #[(.int p0)] below meth c s₁ ([] : List Loc) 0 0 := Stand.of_body Bd
  have e0 : s₁.heap = h0 := by rw [← hh, Bd.state]; rfl
  show Go p e below s 0 0 (PureQ (.int (f1_0 p0)) h0) s₁ (entryFrame m #[(.int p0)] 1)
  rw [ef_1 m p0]
  refine Go.step (g' := (mkF m 1 #[.val (.int p0)] [(.int p0)])) (fun _ k => XS.iloadN X0.here hx rfl (hb hby d1_0) rfl  k) ?_
  refine Go.step (g' := (mkF m 3 #[.val (.int p0)] [(.int (9 : Int32)), (.int p0)])) (fun _ k => XS.bipush X0.here hx rfl (hb hby d1_1) k) ?_
  have t64 : ∀ (v64_s0 : Int32), Go p e below s 0 0 (PureQ (.int (f1_64 v64_s0)) h0) s₁ (mkF m 64 #[.val (.int p0)] [(.int v64_s0)]) := by
    intro v64_s0
    exact Go.retN X0 hx hlk (t := .boolean) Bd.returns (by simp) (hb hby d1_64) (by decide) (by decide) ⟨rfl, rfl, e0⟩
  have t59 : Go p e below s 0 0 (PureQ (.int f1_59) h0) s₁ (mkF m 59 #[.val (.int p0)] []) := by
    refine Go.step (g' := (mkF m 60 #[.val (.int p0)] [(.int (1 : Int32))])) (fun _ k => XS.iconst X0.here hx rfl (hb hby d1_59) k) ?_
    refine Go.step (g' := (mkF m 64 #[.val (.int p0)] [(.int (1 : Int32))])) (fun _ k => XS.goto X0.here hx rfl (pc0 := 60) (pc' := 64) rfl (hb hby d1_60) (by decide) (by decide) k) ?_
    rw [show f1_59 = (f1_64 (1 : Int32)) from rfl]
    exact t64 (1 : Int32)
  by_cases hc3 : p0 = (9 : Int32)
  · rw [show (f1_0 p0) = f1_59 from if_pos hc3]
    refine Go.step (g' := (mkF m 59 #[.val (.int p0)] [])) (fun _ k => XS.icmpYes X0.here hx rfl (pc0 := 3) (pc' := 59) rfl (hb hby d1_3) rfl (teq hc3).1 (by decide) (by decide) k) ?_
    exact t59 
  · rw [show (f1_0 p0) = (f1_6 p0) from if_neg hc3]
    refine Go.step (g' := (mkF m 6 #[.val (.int p0)] [])) (fun _ k => XS.icmpNo X0.here hx rfl (hb hby d1_3) rfl (feq hc3).1 k) ?_
    refine Go.step (g' := (mkF m 7 #[.val (.int p0)] [(.int p0)])) (fun _ k => XS.iloadN X0.here hx rfl (hb hby d1_6) rfl  k) ?_
    refine Go.step (g' := (mkF m 9 #[.val (.int p0)] [(.int (10 : Int32)), (.int p0)])) (fun _ k => XS.bipush X0.here hx rfl (hb hby d1_7) k) ?_
    by_cases hc9 : p0 = (10 : Int32)
    · rw [show (f1_6 p0) = f1_59 from if_pos hc9]
      refine Go.step (g' := (mkF m 59 #[.val (.int p0)] [])) (fun _ k => XS.icmpYes X0.here hx rfl (pc0 := 9) (pc' := 59) rfl (hb hby d1_9) rfl (teq hc9).1 (by decide) (by decide) k) ?_
      exact t59 
    · rw [show (f1_6 p0) = (f1_12 p0) from if_neg hc9]
      refine Go.step (g' := (mkF m 12 #[.val (.int p0)] [])) (fun _ k => XS.icmpNo X0.here hx rfl (hb hby d1_9) rfl (feq hc9).1 k) ?_
      refine Go.step (g' := (mkF m 13 #[.val (.int p0)] [(.int p0)])) (fun _ k => XS.iloadN X0.here hx rfl (hb hby d1_12) rfl  k) ?_
      refine Go.step (g' := (mkF m 15 #[.val (.int p0)] [(.int (13 : Int32)), (.int p0)])) (fun _ k => XS.bipush X0.here hx rfl (hb hby d1_13) k) ?_
      by_cases hc15 : p0 = (13 : Int32)
      · rw [show (f1_12 p0) = f1_59 from if_pos hc15]
        refine Go.step (g' := (mkF m 59 #[.val (.int p0)] [])) (fun _ k => XS.icmpYes X0.here hx rfl (pc0 := 15) (pc' := 59) rfl (hb hby d1_15) rfl (teq hc15).1 (by decide) (by decide) k) ?_
        exact t59 
      · rw [show (f1_12 p0) = (f1_18 p0) from if_neg hc15]
        refine Go.step (g' := (mkF m 18 #[.val (.int p0)] [])) (fun _ k => XS.icmpNo X0.here hx rfl (hb hby d1_15) rfl (feq hc15).1 k) ?_
        refine Go.step (g' := (mkF m 19 #[.val (.int p0)] [(.int p0)])) (fun _ k => XS.iloadN X0.here hx rfl (hb hby d1_18) rfl  k) ?_
        refine Go.step (g' := (mkF m 21 #[.val (.int p0)] [(.int (32 : Int32)), (.int p0)])) (fun _ k => XS.bipush X0.here hx rfl (hb hby d1_19) k) ?_
        have t31 : Go p e below s 0 0 (PureQ (.int (f1_31 p0)) h0) s₁ (mkF m 31 #[.val (.int p0)] []) := by
          refine Go.step (g' := (mkF m 32 #[.val (.int p0)] [(.int p0)])) (fun _ k => XS.iloadN X0.here hx rfl (hb hby d1_31) rfl  k) ?_
          refine Go.step (g' := (mkF m 35 #[.val (.int p0)] [(.int (57344 : Int32)), (.int p0)])) (fun _ k => X0.ldcWI hx hown (mvT hZ (hw _ (List.mem_of_getElem? (i := 16) rfl))) rfl (hb hby d1_32) k) ?_
          have t45 : Go p e below s 0 0 (PureQ (.int (f1_45 p0)) h0) s₁ (mkF m 45 #[.val (.int p0)] []) := by
            refine Go.step (g' := (mkF m 46 #[.val (.int p0)] [(.int p0)])) (fun _ k => XS.iloadN X0.here hx rfl (hb hby d1_45) rfl  k) ?_
            refine Go.step (g' := (mkF m 49 #[.val (.int p0)] [(.int (65536 : Int32)), (.int p0)])) (fun _ k => X0.ldcWI hx hown (mvT hZ (hw _ (List.mem_of_getElem? (i := 17) rfl))) rfl (hb hby d1_46) k) ?_
            have t63 : Go p e below s 0 0 (PureQ (.int f1_63) h0) s₁ (mkF m 63 #[.val (.int p0)] []) := by
              refine Go.step (g' := (mkF m 64 #[.val (.int p0)] [(.int (0 : Int32))])) (fun _ k => XS.iconst X0.here hx rfl (hb hby d1_63) k) ?_
              rw [show f1_63 = (f1_64 (0 : Int32)) from rfl]
              exact t64 (0 : Int32)
            by_cases hc49 : p0 < (65536 : Int32)
            · rw [show (f1_45 p0) = f1_63 from if_pos hc49]
              refine Go.step (g' := (mkF m 63 #[.val (.int p0)] [])) (fun _ k => XS.icmpYes X0.here hx rfl (pc0 := 49) (pc' := 63) rfl (hb hby d1_49) rfl (tlt hc49).1 (by decide) (by decide) k) ?_
              exact t63 
            · rw [show (f1_45 p0) = (f1_52 p0) from if_neg hc49]
              refine Go.step (g' := (mkF m 52 #[.val (.int p0)] [])) (fun _ k => XS.icmpNo X0.here hx rfl (hb hby d1_49) rfl (flt hc49).1 k) ?_
              refine Go.step (g' := (mkF m 53 #[.val (.int p0)] [(.int p0)])) (fun _ k => XS.iloadN X0.here hx rfl (hb hby d1_52) rfl  k) ?_
              refine Go.step (g' := (mkF m 56 #[.val (.int p0)] [(.int (1114111 : Int32)), (.int p0)])) (fun _ k => X0.ldcWI hx hown (mvT hZ (hw _ (List.mem_of_getElem? (i := 24) rfl))) rfl (hb hby d1_53) k) ?_
              by_cases hc56 : (1114111 : Int32) < p0
              · rw [show (f1_52 p0) = f1_63 from if_pos hc56]
                refine Go.step (g' := (mkF m 63 #[.val (.int p0)] [])) (fun _ k => XS.icmpYes X0.here hx rfl (pc0 := 56) (pc' := 63) rfl (hb hby d1_56) rfl (tlt hc56).2.2.1 (by decide) (by decide) k) ?_
                exact t63 
              · rw [show (f1_52 p0) = f1_59 from if_neg hc56]
                refine Go.step (g' := (mkF m 59 #[.val (.int p0)] [])) (fun _ k => XS.icmpNo X0.here hx rfl (hb hby d1_56) rfl (flt hc56).2.2.1 k) ?_
                exact t59 
          by_cases hc35 : p0 < (57344 : Int32)
          · rw [show (f1_31 p0) = (f1_45 p0) from if_pos hc35]
            refine Go.step (g' := (mkF m 45 #[.val (.int p0)] [])) (fun _ k => XS.icmpYes X0.here hx rfl (pc0 := 35) (pc' := 45) rfl (hb hby d1_35) rfl (tlt hc35).1 (by decide) (by decide) k) ?_
            exact t45 
          · rw [show (f1_31 p0) = (f1_38 p0) from if_neg hc35]
            refine Go.step (g' := (mkF m 38 #[.val (.int p0)] [])) (fun _ k => XS.icmpNo X0.here hx rfl (hb hby d1_35) rfl (flt hc35).1 k) ?_
            refine Go.step (g' := (mkF m 39 #[.val (.int p0)] [(.int p0)])) (fun _ k => XS.iloadN X0.here hx rfl (hb hby d1_38) rfl  k) ?_
            refine Go.step (g' := (mkF m 42 #[.val (.int p0)] [(.int (65533 : Int32)), (.int p0)])) (fun _ k => X0.ldcWI hx hown (mvT hZ (hw _ (List.mem_of_getElem? (i := 23) rfl))) rfl (hb hby d1_39) k) ?_
            by_cases hc42 : (65533 : Int32) < p0
            · rw [show (f1_38 p0) = (f1_45 p0) from if_pos hc42]
              refine Go.step (g' := (mkF m 45 #[.val (.int p0)] [])) (fun _ k => XS.icmpNo X0.here hx rfl (hb hby d1_42) rfl (tlt hc42).2.2.2 k) ?_
              exact t45 
            · rw [show (f1_38 p0) = f1_59 from if_neg hc42]
              refine Go.step (g' := (mkF m 59 #[.val (.int p0)] [])) (fun _ k => XS.icmpYes X0.here hx rfl (pc0 := 42) (pc' := 59) rfl (hb hby d1_42) rfl (flt hc42).2.2.2 (by decide) (by decide) k) ?_
              exact t59 
        by_cases hc21 : p0 < (32 : Int32)
        · rw [show (f1_18 p0) = (f1_31 p0) from if_pos hc21]
          refine Go.step (g' := (mkF m 31 #[.val (.int p0)] [])) (fun _ k => XS.icmpYes X0.here hx rfl (pc0 := 21) (pc' := 31) rfl (hb hby d1_21) rfl (tlt hc21).1 (by decide) (by decide) k) ?_
          exact t31 
        · rw [show (f1_18 p0) = (f1_24 p0) from if_neg hc21]
          refine Go.step (g' := (mkF m 24 #[.val (.int p0)] [])) (fun _ k => XS.icmpNo X0.here hx rfl (hb hby d1_21) rfl (flt hc21).1 k) ?_
          refine Go.step (g' := (mkF m 25 #[.val (.int p0)] [(.int p0)])) (fun _ k => XS.iloadN X0.here hx rfl (hb hby d1_24) rfl  k) ?_
          refine Go.step (g' := (mkF m 28 #[.val (.int p0)] [(.int (55295 : Int32)), (.int p0)])) (fun _ k => X0.ldcWI hx hown (mvT hZ (hw _ (List.mem_of_getElem? (i := 22) rfl))) rfl (hb hby d1_25) k) ?_
          by_cases hc28 : (55295 : Int32) < p0
          · rw [show (f1_24 p0) = (f1_31 p0) from if_pos hc28]
            refine Go.step (g' := (mkF m 31 #[.val (.int p0)] [])) (fun _ k => XS.icmpNo X0.here hx rfl (hb hby d1_28) rfl (tlt hc28).2.2.2 k) ?_
            exact t31 
          · rw [show (f1_24 p0) = f1_59 from if_neg hc28]
            refine Go.step (g' := (mkF m 59 #[.val (.int p0)] [])) (fun _ k => XS.icmpYes X0.here hx rfl (pc0 := 28) (pc' := 59) rfl (hb hby d1_28) rfl (flt hc28).2.2.2 (by decide) (by decide) k) ?_
            exact t59 
theorem d2_0 : decode method_2_code 0 = .ok (.iload_n 0, 1) := by decide +kernel
theorem d2_1 : decode method_2_code 1 = .ok (.ifCond .ge 5, 3) := by decide +kernel
theorem d2_4 : decode method_2_code 4 = .ok (.iconst 0, 1) := by decide +kernel
theorem d2_5 : decode method_2_code 5 = .ok (.ireturn, 1) := by decide +kernel
theorem d2_6 : decode method_2_code 6 = .ok (.iload_n 0, 1) := by decide +kernel
theorem d2_7 : decode method_2_code 7 = .ok (.ldc 7, 2) := by decide +kernel
theorem d2_9 : decode method_2_code 9 = .ok (.if_icmp .le 5, 3) := by decide +kernel
theorem d2_12 : decode method_2_code 12 = .ok (.iconst 0, 1) := by decide +kernel
theorem d2_13 : decode method_2_code 13 = .ok (.ireturn, 1) := by decide +kernel
theorem d2_14 : decode method_2_code 14 = .ok (.iload_n 0, 1) := by decide +kernel
theorem d2_15 : decode method_2_code 15 = .ok (.bipush 32, 2) := by decide +kernel
theorem d2_17 : decode method_2_code 17 = .ok (.if_icmp .ge 27, 3) := by decide +kernel
theorem d2_20 : decode method_2_code 20 = .ok (.iload_n 0, 1) := by decide +kernel
theorem d2_21 : decode method_2_code 21 = .ok (.bipush 9, 2) := by decide +kernel
theorem d2_23 : decode method_2_code 23 = .ok (.if_icmp .eq 15, 3) := by decide +kernel
theorem d2_26 : decode method_2_code 26 = .ok (.iload_n 0, 1) := by decide +kernel
theorem d2_27 : decode method_2_code 27 = .ok (.bipush 10, 2) := by decide +kernel
theorem d2_29 : decode method_2_code 29 = .ok (.if_icmp .eq 9, 3) := by decide +kernel
theorem d2_32 : decode method_2_code 32 = .ok (.iload_n 0, 1) := by decide +kernel
theorem d2_33 : decode method_2_code 33 = .ok (.bipush 13, 2) := by decide +kernel
theorem d2_35 : decode method_2_code 35 = .ok (.if_icmp .ne 7, 3) := by decide +kernel
theorem d2_38 : decode method_2_code 38 = .ok (.iconst 1, 1) := by decide +kernel
theorem d2_39 : decode method_2_code 39 = .ok (.goto 4, 3) := by decide +kernel
theorem d2_42 : decode method_2_code 42 = .ok (.iconst 0, 1) := by decide +kernel
theorem d2_43 : decode method_2_code 43 = .ok (.ireturn, 1) := by decide +kernel
theorem d2_44 : decode method_2_code 44 = .ok (.iload_n 0, 1) := by decide +kernel
theorem d2_45 : decode method_2_code 45 = .ok (.ldc 8, 2) := by decide +kernel
theorem d2_47 : decode method_2_code 47 = .ok (.if_icmp .lt 11, 3) := by decide +kernel
theorem d2_50 : decode method_2_code 50 = .ok (.iload_n 0, 1) := by decide +kernel
theorem d2_51 : decode method_2_code 51 = .ok (.ldc 9, 2) := by decide +kernel
theorem d2_53 : decode method_2_code 53 = .ok (.if_icmp .gt 5, 3) := by decide +kernel
theorem d2_56 : decode method_2_code 56 = .ok (.iconst 0, 1) := by decide +kernel
theorem d2_57 : decode method_2_code 57 = .ok (.ireturn, 1) := by decide +kernel
theorem d2_58 : decode method_2_code 58 = .ok (.iload_n 0, 1) := by decide +kernel
theorem d2_59 : decode method_2_code 59 = .ok (.ldc 10, 2) := by decide +kernel
theorem d2_61 : decode method_2_code 61 = .ok (.if_icmp .eq 9, 3) := by decide +kernel
theorem d2_64 : decode method_2_code 64 = .ok (.iload_n 0, 1) := by decide +kernel
theorem d2_65 : decode method_2_code 65 = .ok (.ldc 11, 2) := by decide +kernel
theorem d2_67 : decode method_2_code 67 = .ok (.if_icmp .ne 5, 3) := by decide +kernel
theorem d2_70 : decode method_2_code 70 = .ok (.iconst 0, 1) := by decide +kernel
theorem d2_71 : decode method_2_code 71 = .ok (.ireturn, 1) := by decide +kernel
theorem d2_72 : decode method_2_code 72 = .ok (.iconst 1, 1) := by decide +kernel
theorem d2_73 : decode method_2_code 73 = .ok (.ireturn, 1) := by decide +kernel
theorem pn_2 : plainName "com/example/zahlwerk/zahlwerk/io/XmlParserIsCharacterPinLaw" = true := by first | (simp [plainName, overriddenIn]; done) | decide +kernel
theorem ef_2 (m : MethodId) (p0 : Int32) : entryFrame m #[(.int p0)] 1 = mkF m 0 #[.val (.int p0)] [] := by first | (simp [entryFrame, mkF, argsToLocals, Value.category]; done) | rfl
def f2_70 : Int32 := (nar .boolean (0 : Int32))
def f2_72 : Int32 := (nar .boolean (1 : Int32))
def f2_64 (p0 : Int32) : Int32 := if p0 = (65535 : Int32) then f2_70 else f2_72
def f2_58 (p0 : Int32) : Int32 := if p0 = (65534 : Int32) then f2_70 else (f2_64 p0)
def f2_56 : Int32 := (nar .boolean (0 : Int32))
def f2_50 (p0 : Int32) : Int32 := if (57343 : Int32) < p0 then (f2_58 p0) else f2_56
def f2_44 (p0 : Int32) : Int32 := if p0 < (55296 : Int32) then (f2_58 p0) else (f2_50 p0)
def f2_43 (v43_s0 : Int32) : Int32 := (nar .boolean v43_s0)
def f2_38 : Int32 := (f2_43 (1 : Int32))
def f2_42 : Int32 := (f2_43 (0 : Int32))
def f2_32 (p0 : Int32) : Int32 := if p0 = (13 : Int32) then f2_38 else f2_42
def f2_26 (p0 : Int32) : Int32 := if p0 = (10 : Int32) then f2_38 else (f2_32 p0)
def f2_20 (p0 : Int32) : Int32 := if p0 = (9 : Int32) then f2_38 else (f2_26 p0)
def f2_14 (p0 : Int32) : Int32 := if p0 < (32 : Int32) then (f2_20 p0) else (f2_44 p0)
def f2_12 : Int32 := (nar .boolean (0 : Int32))
def f2_6 (p0 : Int32) : Int32 := if (1114111 : Int32) < p0 then f2_12 else (f2_14 p0)
def f2_4 : Int32 := (nar .boolean (0 : Int32))
def f2_0 (p0 : Int32) : Int32 := if p0 < (0 : Int32) then f2_4 else (f2_6 p0)
set_option maxRecDepth 65536 in
set_option maxHeartbeats 40000000 in
theorem rm2 (l : Launch) (Z : State) (a0 : Array Value) (hw : ∀ d ∈ tables_1, d.before a0 Z = true) (ws : List Jvm.Cond) (p0 : Int32)  (h0 : Heap) :
    MetFree l (⟨"com/example/zahlwerk/zahlwerk/io/XmlParserIsCharacterPinLaw", "reference", "(I)Z"⟩ : MethodName) (head1 (Jvm.Cond.code (⟨"com/example/zahlwerk/zahlwerk/io/XmlParserIsCharacterPinLaw", "reference", "(I)Z"⟩ : MethodName) method_2_code 1 (some .boolean) :: ws) ({ frames := 0, cells := 0, slots := 0, locals := 0 } : Room)) (fun a U => a = #[(.int p0)] ∧ Z.Warmed39 U.vm ∧ U.heap = h0) (fun _ _ _ _ _ => True) (fun _ U o U' => ∃ v L, o = .returned v ∧ (PureQ (.int (f2_0 p0)) h0) v U'.heap L ∧ FrameEnd U o U' L ({ frames := 0, cells := 0, slots := 0, locals := 0 } : Room).cells ({ frames := 0, cells := 0, slots := 0, locals := 0 } : Room).slots) := by
  refine MetFree.of_bodySF (plainFor_of_name pn_2) hisR ?_
  intro p e s m args below meth c s₁ Bd hml0 hP hK
  obtain ⟨rfl, hZ, hh⟩ := hP
  have hx := Bd.exec
  have hby := Bd.bytes
  have hlk : meth.locks = false := BodyLoose.notSynchronized Bd
  have hml : c.maxLocals = 1 := hml0
  have hown : s.vm.findClass "com/example/zahlwerk/zahlwerk/io/XmlParserIsCharacterPinLaw" = some m.cls := findClass_of_methodNamed Bd.named
  have hnm := (name_of_methodNamed Bd.named Bd.method).1
  have X0 : Stand p l e ({ frames := 0, cells := 0, slots := 0, locals := 0 } : Room) s m #[(.int p0)] below meth c s₁ ([] : List Loc) 0 0 := Stand.of_body Bd
  have e0 : s₁.heap = h0 := by rw [← hh, Bd.state]; rfl
  show Go p e below s 0 0 (PureQ (.int (f2_0 p0)) h0) s₁ (entryFrame m #[(.int p0)] 1)
  rw [ef_2 m p0]
  refine Go.step (g' := (mkF m 1 #[.val (.int p0)] [(.int p0)])) (fun _ k => XS.iloadN X0.here hx rfl (hb hby d2_0) rfl  k) ?_
  by_cases hc1 : p0 < (0 : Int32)
  · rw [show (f2_0 p0) = f2_4 from if_pos hc1]
    refine Go.step (g' := (mkF m 4 #[.val (.int p0)] [])) (fun _ k => XS.ifNo X0.here hx rfl (hb hby d2_1) rfl ((if0 _ _).trans (tlt hc1).2.1) k) ?_
    refine Go.step (g' := (mkF m 5 #[.val (.int p0)] [(.int (0 : Int32))])) (fun _ k => XS.iconst X0.here hx rfl (hb hby d2_4) k) ?_
    exact Go.retN X0 hx hlk (t := .boolean) Bd.returns (by simp) (hb hby d2_5) (by decide) (by decide) ⟨rfl, rfl, e0⟩
  · rw [show (f2_0 p0) = (f2_6 p0) from if_neg hc1]
    refine Go.step (g' := (mkF m 6 #[.val (.int p0)] [])) (fun _ k => XS.ifYes X0.here hx rfl (pc0 := 1) (pc' := 6) rfl (hb hby d2_1) rfl ((if0 _ _).trans (flt hc1).2.1) (by decide) (by decide) k) ?_
    refine Go.step (g' := (mkF m 7 #[.val (.int p0)] [(.int p0)])) (fun _ k => XS.iloadN X0.here hx rfl (hb hby d2_6) rfl  k) ?_
    refine Go.step (g' := (mkF m 9 #[.val (.int p0)] [(.int (1114111 : Int32)), (.int p0)])) (fun _ k => X0.ldcI hx hown (mvT hZ (hw _ (List.mem_of_getElem? (i := 8) rfl))) rfl (hb hby d2_7) k) ?_
    by_cases hc9 : (1114111 : Int32) < p0
    · rw [show (f2_6 p0) = f2_12 from if_pos hc9]
      refine Go.step (g' := (mkF m 12 #[.val (.int p0)] [])) (fun _ k => XS.icmpNo X0.here hx rfl (hb hby d2_9) rfl (tlt hc9).2.2.2 k) ?_
      refine Go.step (g' := (mkF m 13 #[.val (.int p0)] [(.int (0 : Int32))])) (fun _ k => XS.iconst X0.here hx rfl (hb hby d2_12) k) ?_
      exact Go.retN X0 hx hlk (t := .boolean) Bd.returns (by simp) (hb hby d2_13) (by decide) (by decide) ⟨rfl, rfl, e0⟩
    · rw [show (f2_6 p0) = (f2_14 p0) from if_neg hc9]
      refine Go.step (g' := (mkF m 14 #[.val (.int p0)] [])) (fun _ k => XS.icmpYes X0.here hx rfl (pc0 := 9) (pc' := 14) rfl (hb hby d2_9) rfl (flt hc9).2.2.2 (by decide) (by decide) k) ?_
      refine Go.step (g' := (mkF m 15 #[.val (.int p0)] [(.int p0)])) (fun _ k => XS.iloadN X0.here hx rfl (hb hby d2_14) rfl  k) ?_
      refine Go.step (g' := (mkF m 17 #[.val (.int p0)] [(.int (32 : Int32)), (.int p0)])) (fun _ k => XS.bipush X0.here hx rfl (hb hby d2_15) k) ?_
      by_cases hc17 : p0 < (32 : Int32)
      · rw [show (f2_14 p0) = (f2_20 p0) from if_pos hc17]
        refine Go.step (g' := (mkF m 20 #[.val (.int p0)] [])) (fun _ k => XS.icmpNo X0.here hx rfl (hb hby d2_17) rfl (tlt hc17).2.1 k) ?_
        refine Go.step (g' := (mkF m 21 #[.val (.int p0)] [(.int p0)])) (fun _ k => XS.iloadN X0.here hx rfl (hb hby d2_20) rfl  k) ?_
        refine Go.step (g' := (mkF m 23 #[.val (.int p0)] [(.int (9 : Int32)), (.int p0)])) (fun _ k => XS.bipush X0.here hx rfl (hb hby d2_21) k) ?_
        have t43 : ∀ (v43_s0 : Int32), Go p e below s 0 0 (PureQ (.int (f2_43 v43_s0)) h0) s₁ (mkF m 43 #[.val (.int p0)] [(.int v43_s0)]) := by
          intro v43_s0
          exact Go.retN X0 hx hlk (t := .boolean) Bd.returns (by simp) (hb hby d2_43) (by decide) (by decide) ⟨rfl, rfl, e0⟩
        have t38 : Go p e below s 0 0 (PureQ (.int f2_38) h0) s₁ (mkF m 38 #[.val (.int p0)] []) := by
          refine Go.step (g' := (mkF m 39 #[.val (.int p0)] [(.int (1 : Int32))])) (fun _ k => XS.iconst X0.here hx rfl (hb hby d2_38) k) ?_
          refine Go.step (g' := (mkF m 43 #[.val (.int p0)] [(.int (1 : Int32))])) (fun _ k => XS.goto X0.here hx rfl (pc0 := 39) (pc' := 43) rfl (hb hby d2_39) (by decide) (by decide) k) ?_
          rw [show f2_38 = (f2_43 (1 : Int32)) from rfl]
          exact t43 (1 : Int32)
        by_cases hc23 : p0 = (9 : Int32)
        · rw [show (f2_20 p0) = f2_38 from if_pos hc23]
          refine Go.step (g' := (mkF m 38 #[.val (.int p0)] [])) (fun _ k => XS.icmpYes X0.here hx rfl (pc0 := 23) (pc' := 38) rfl (hb hby d2_23) rfl (teq hc23).1 (by decide) (by decide) k) ?_
          exact t38 
        · rw [show (f2_20 p0) = (f2_26 p0) from if_neg hc23]
          refine Go.step (g' := (mkF m 26 #[.val (.int p0)] [])) (fun _ k => XS.icmpNo X0.here hx rfl (hb hby d2_23) rfl (feq hc23).1 k) ?_
          refine Go.step (g' := (mkF m 27 #[.val (.int p0)] [(.int p0)])) (fun _ k => XS.iloadN X0.here hx rfl (hb hby d2_26) rfl  k) ?_
          refine Go.step (g' := (mkF m 29 #[.val (.int p0)] [(.int (10 : Int32)), (.int p0)])) (fun _ k => XS.bipush X0.here hx rfl (hb hby d2_27) k) ?_
          by_cases hc29 : p0 = (10 : Int32)
          · rw [show (f2_26 p0) = f2_38 from if_pos hc29]
            refine Go.step (g' := (mkF m 38 #[.val (.int p0)] [])) (fun _ k => XS.icmpYes X0.here hx rfl (pc0 := 29) (pc' := 38) rfl (hb hby d2_29) rfl (teq hc29).1 (by decide) (by decide) k) ?_
            exact t38 
          · rw [show (f2_26 p0) = (f2_32 p0) from if_neg hc29]
            refine Go.step (g' := (mkF m 32 #[.val (.int p0)] [])) (fun _ k => XS.icmpNo X0.here hx rfl (hb hby d2_29) rfl (feq hc29).1 k) ?_
            refine Go.step (g' := (mkF m 33 #[.val (.int p0)] [(.int p0)])) (fun _ k => XS.iloadN X0.here hx rfl (hb hby d2_32) rfl  k) ?_
            refine Go.step (g' := (mkF m 35 #[.val (.int p0)] [(.int (13 : Int32)), (.int p0)])) (fun _ k => XS.bipush X0.here hx rfl (hb hby d2_33) k) ?_
            by_cases hc35 : p0 = (13 : Int32)
            · rw [show (f2_32 p0) = f2_38 from if_pos hc35]
              refine Go.step (g' := (mkF m 38 #[.val (.int p0)] [])) (fun _ k => XS.icmpNo X0.here hx rfl (hb hby d2_35) rfl (teq hc35).2 k) ?_
              exact t38 
            · rw [show (f2_32 p0) = f2_42 from if_neg hc35]
              refine Go.step (g' := (mkF m 42 #[.val (.int p0)] [])) (fun _ k => XS.icmpYes X0.here hx rfl (pc0 := 35) (pc' := 42) rfl (hb hby d2_35) rfl (feq hc35).2 (by decide) (by decide) k) ?_
              refine Go.step (g' := (mkF m 43 #[.val (.int p0)] [(.int (0 : Int32))])) (fun _ k => XS.iconst X0.here hx rfl (hb hby d2_42) k) ?_
              rw [show f2_42 = (f2_43 (0 : Int32)) from rfl]
              exact t43 (0 : Int32)
      · rw [show (f2_14 p0) = (f2_44 p0) from if_neg hc17]
        refine Go.step (g' := (mkF m 44 #[.val (.int p0)] [])) (fun _ k => XS.icmpYes X0.here hx rfl (pc0 := 17) (pc' := 44) rfl (hb hby d2_17) rfl (flt hc17).2.1 (by decide) (by decide) k) ?_
        refine Go.step (g' := (mkF m 45 #[.val (.int p0)] [(.int p0)])) (fun _ k => XS.iloadN X0.here hx rfl (hb hby d2_44) rfl  k) ?_
        refine Go.step (g' := (mkF m 47 #[.val (.int p0)] [(.int (55296 : Int32)), (.int p0)])) (fun _ k => X0.ldcI hx hown (mvT hZ (hw _ (List.mem_of_getElem? (i := 2) rfl))) rfl (hb hby d2_45) k) ?_
        have t58 : Go p e below s 0 0 (PureQ (.int (f2_58 p0)) h0) s₁ (mkF m 58 #[.val (.int p0)] []) := by
          refine Go.step (g' := (mkF m 59 #[.val (.int p0)] [(.int p0)])) (fun _ k => XS.iloadN X0.here hx rfl (hb hby d2_58) rfl  k) ?_
          refine Go.step (g' := (mkF m 61 #[.val (.int p0)] [(.int (65534 : Int32)), (.int p0)])) (fun _ k => X0.ldcI hx hown (mvT hZ (hw _ (List.mem_of_getElem? (i := 6) rfl))) rfl (hb hby d2_59) k) ?_
          have t70 : Go p e below s 0 0 (PureQ (.int f2_70) h0) s₁ (mkF m 70 #[.val (.int p0)] []) := by
            refine Go.step (g' := (mkF m 71 #[.val (.int p0)] [(.int (0 : Int32))])) (fun _ k => XS.iconst X0.here hx rfl (hb hby d2_70) k) ?_
            exact Go.retN X0 hx hlk (t := .boolean) Bd.returns (by simp) (hb hby d2_71) (by decide) (by decide) ⟨rfl, rfl, e0⟩
          by_cases hc61 : p0 = (65534 : Int32)
          · rw [show (f2_58 p0) = f2_70 from if_pos hc61]
            refine Go.step (g' := (mkF m 70 #[.val (.int p0)] [])) (fun _ k => XS.icmpYes X0.here hx rfl (pc0 := 61) (pc' := 70) rfl (hb hby d2_61) rfl (teq hc61).1 (by decide) (by decide) k) ?_
            exact t70 
          · rw [show (f2_58 p0) = (f2_64 p0) from if_neg hc61]
            refine Go.step (g' := (mkF m 64 #[.val (.int p0)] [])) (fun _ k => XS.icmpNo X0.here hx rfl (hb hby d2_61) rfl (feq hc61).1 k) ?_
            refine Go.step (g' := (mkF m 65 #[.val (.int p0)] [(.int p0)])) (fun _ k => XS.iloadN X0.here hx rfl (hb hby d2_64) rfl  k) ?_
            refine Go.step (g' := (mkF m 67 #[.val (.int p0)] [(.int (65535 : Int32)), (.int p0)])) (fun _ k => X0.ldcI hx hown (mvT hZ (hw _ (List.mem_of_getElem? (i := 25) rfl))) rfl (hb hby d2_65) k) ?_
            by_cases hc67 : p0 = (65535 : Int32)
            · rw [show (f2_64 p0) = f2_70 from if_pos hc67]
              refine Go.step (g' := (mkF m 70 #[.val (.int p0)] [])) (fun _ k => XS.icmpNo X0.here hx rfl (hb hby d2_67) rfl (teq hc67).2 k) ?_
              exact t70 
            · rw [show (f2_64 p0) = f2_72 from if_neg hc67]
              refine Go.step (g' := (mkF m 72 #[.val (.int p0)] [])) (fun _ k => XS.icmpYes X0.here hx rfl (pc0 := 67) (pc' := 72) rfl (hb hby d2_67) rfl (feq hc67).2 (by decide) (by decide) k) ?_
              refine Go.step (g' := (mkF m 73 #[.val (.int p0)] [(.int (1 : Int32))])) (fun _ k => XS.iconst X0.here hx rfl (hb hby d2_72) k) ?_
              exact Go.retN X0 hx hlk (t := .boolean) Bd.returns (by simp) (hb hby d2_73) (by decide) (by decide) ⟨rfl, rfl, e0⟩
        by_cases hc47 : p0 < (55296 : Int32)
        · rw [show (f2_44 p0) = (f2_58 p0) from if_pos hc47]
          refine Go.step (g' := (mkF m 58 #[.val (.int p0)] [])) (fun _ k => XS.icmpYes X0.here hx rfl (pc0 := 47) (pc' := 58) rfl (hb hby d2_47) rfl (tlt hc47).1 (by decide) (by decide) k) ?_
          exact t58 
        · rw [show (f2_44 p0) = (f2_50 p0) from if_neg hc47]
          refine Go.step (g' := (mkF m 50 #[.val (.int p0)] [])) (fun _ k => XS.icmpNo X0.here hx rfl (hb hby d2_47) rfl (flt hc47).1 k) ?_
          refine Go.step (g' := (mkF m 51 #[.val (.int p0)] [(.int p0)])) (fun _ k => XS.iloadN X0.here hx rfl (hb hby d2_50) rfl  k) ?_
          refine Go.step (g' := (mkF m 53 #[.val (.int p0)] [(.int (57343 : Int32)), (.int p0)])) (fun _ k => X0.ldcI hx hown (mvT hZ (hw _ (List.mem_of_getElem? (i := 3) rfl))) rfl (hb hby d2_51) k) ?_
          by_cases hc53 : (57343 : Int32) < p0
          · rw [show (f2_50 p0) = (f2_58 p0) from if_pos hc53]
            refine Go.step (g' := (mkF m 58 #[.val (.int p0)] [])) (fun _ k => XS.icmpYes X0.here hx rfl (pc0 := 53) (pc' := 58) rfl (hb hby d2_53) rfl (tlt hc53).2.2.1 (by decide) (by decide) k) ?_
            exact t58 
          · rw [show (f2_50 p0) = f2_56 from if_neg hc53]
            refine Go.step (g' := (mkF m 56 #[.val (.int p0)] [])) (fun _ k => XS.icmpNo X0.here hx rfl (hb hby d2_53) rfl (flt hc53).2.2.1 k) ?_
            refine Go.step (g' := (mkF m 57 #[.val (.int p0)] [(.int (0 : Int32))])) (fun _ k => XS.iconst X0.here hx rfl (hb hby d2_56) k) ?_
            exact Go.retN X0 hx hlk (t := .boolean) Bd.returns (by simp) (hb hby d2_57) (by decide) (by decide) ⟨rfl, rfl, e0⟩
theorem pn_0 : plainName "com/example/zahlwerk/zahlwerk/io/XmlParserIsCharacterPinLaw" = true := by first | (simp [plainName, overriddenIn]; done) | decide +kernel
theorem ef_0 (m : MethodId) (p0 : Int32) (p1 : Int32) (p2 : Int32) : entryFrame m #[(.int p0), (.int p1), (.int p2)] maxLocals = mkF m 0 #[.val (.int p0), .val (.int p1), .val (.int p2), .unset, .unset, .unset, .unset] [] := by first | (simp [entryFrame, mkF, argsToLocals, Value.category, maxLocals]; done) | rfl
def f0_161 (v161_s0 : Int32) : Int32 := (nar .boolean v161_s0)
def f0_160 : Int32 := (f0_161 (0 : Int32))
def f0_156 : Int32 := (f0_161 (1 : Int32))
def f0_151 (v144_s0 : Int32) : Int32 := if v144_s0 = (0 : Int32) then f0_160 else f0_156
def f0_144 (v124_s0 : Int32) (v144_s0 : Int32) : Int32 := if v124_s0 = (0 : Int32) then f0_160 else (f0_151 v144_s0)
def f0_143 (v124_s0 : Int32) : Int32 := (f0_144 v124_s0 (0 : Int32))
def f0_139 (v124_s0 : Int32) : Int32 := (f0_144 v124_s0 (1 : Int32))
def f0_124 (near : Int32) (v124_s0 : Int32) : Int32 := if (f1_0 near) = (f2_0 near) then (f0_139 v124_s0) else (f0_143 v124_s0)
def f0_123 (near : Int32) : Int32 := (f0_124 near (0 : Int32))
def f0_119 (near : Int32) : Int32 := (f0_124 near (1 : Int32))
def f0_108 (p0 : Int32) (near : Int32) : Int32 := if (f1_0 p0) = (f2_0 p0) then (f0_119 near) else (f0_123 near)
def f0_0 : Int32 := 1
theorem own_same (p0 : Int32) : f1_0 p0 = f2_0 p0 := by
  have q1 : (32 : Int32).toInt = 32 := by decide
  have q2 : (55295 : Int32).toInt = 55295 := by decide
  have q3 : (57344 : Int32).toInt = 57344 := by decide
  have q4 : (65533 : Int32).toInt = 65533 := by decide
  have q5 : (65536 : Int32).toInt = 65536 := by decide
  have q6 : (1114111 : Int32).toInt = 1114111 := by decide
  have q7 : (9 : Int32).toInt = 9 := by decide
  have q8 : (10 : Int32).toInt = 10 := by decide
  have q9 : (13 : Int32).toInt = 13 := by decide
  have q10 : (0 : Int32).toInt = 0 := by decide
  have q11 : (55296 : Int32).toInt = 55296 := by decide
  have q12 : (57343 : Int32).toInt = 57343 := by decide
  have q13 : (65534 : Int32).toInt = 65534 := by decide
  have q14 : (65535 : Int32).toInt = 65535 := by decide
  simp only [f1_64, f1_59, f1_63, f1_52, f1_45, f1_38, f1_31, f1_24, f1_18, f1_12, f1_6, f1_0, f2_70, f2_72, f2_64, f2_58, f2_56, f2_50, f2_44, f2_43, f2_38, f2_42, f2_32, f2_26, f2_20, f2_14, f2_12, f2_6, f2_4, f2_0, Int32.lt_iff_toInt_lt, ← Int32.toInt_inj, q1, q2, q3, q4, q5, q6, q7, q8, q9, q10, q11, q12, q13, q14]
  generalize p0.toInt = z
  have hz : (z ≤ -1) ∨ (0 ≤ z ∧ z ≤ 8) ∨ (9 ≤ z ∧ z ≤ 9) ∨ (10 ≤ z ∧ z ≤ 10) ∨ (11 ≤ z ∧ z ≤ 12) ∨ (13 ≤ z ∧ z ≤ 13) ∨ (14 ≤ z ∧ z ≤ 31) ∨ (32 ≤ z ∧ z ≤ 55295) ∨ (55296 ≤ z ∧ z ≤ 57343) ∨ (57344 ≤ z ∧ z ≤ 65533) ∨ (65534 ≤ z ∧ z ≤ 65534) ∨ (65535 ≤ z ∧ z ≤ 65535) ∨ (65536 ≤ z ∧ z ≤ 1114111) ∨ (1114112 ≤ z) := by omega
  rcases hz with h | h | h | h | h | h | h | h | h | h | h | h | h | h
  · simp [show ¬ (z = 9) by omega, show ¬ (z = 10) by omega, show ¬ (z = 13) by omega, show ¬ (z = 65534) by omega, show ¬ (z = 65535) by omega, show z < 0 by omega, show z < 32 by omega, show z < 55296 by omega, show z < 57344 by omega, show z < 65536 by omega, show ¬ (55295 < z) by omega, show ¬ (65533 < z) by omega, show ¬ (1114111 < z) by omega, show ¬ (57343 < z) by omega]
  · simp [show ¬ (z = 9) by omega, show ¬ (z = 10) by omega, show ¬ (z = 13) by omega, show ¬ (z = 65534) by omega, show ¬ (z = 65535) by omega, show ¬ (z < 0) by omega, show z < 32 by omega, show z < 55296 by omega, show z < 57344 by omega, show z < 65536 by omega, show ¬ (55295 < z) by omega, show ¬ (65533 < z) by omega, show ¬ (1114111 < z) by omega, show ¬ (57343 < z) by omega]
  · simp [show z = 9 by omega, show ¬ (z = 10) by omega, show ¬ (z = 13) by omega, show ¬ (z = 65534) by omega, show ¬ (z = 65535) by omega, show ¬ (z < 0) by omega, show z < 32 by omega, show z < 55296 by omega, show z < 57344 by omega, show z < 65536 by omega, show ¬ (55295 < z) by omega, show ¬ (65533 < z) by omega, show ¬ (1114111 < z) by omega, show ¬ (57343 < z) by omega]
  · simp [show ¬ (z = 9) by omega, show z = 10 by omega, show ¬ (z = 13) by omega, show ¬ (z = 65534) by omega, show ¬ (z = 65535) by omega, show ¬ (z < 0) by omega, show z < 32 by omega, show z < 55296 by omega, show z < 57344 by omega, show z < 65536 by omega, show ¬ (55295 < z) by omega, show ¬ (65533 < z) by omega, show ¬ (1114111 < z) by omega, show ¬ (57343 < z) by omega]
  · simp [show ¬ (z = 9) by omega, show ¬ (z = 10) by omega, show ¬ (z = 13) by omega, show ¬ (z = 65534) by omega, show ¬ (z = 65535) by omega, show ¬ (z < 0) by omega, show z < 32 by omega, show z < 55296 by omega, show z < 57344 by omega, show z < 65536 by omega, show ¬ (55295 < z) by omega, show ¬ (65533 < z) by omega, show ¬ (1114111 < z) by omega, show ¬ (57343 < z) by omega]
  · simp [show ¬ (z = 9) by omega, show ¬ (z = 10) by omega, show z = 13 by omega, show ¬ (z = 65534) by omega, show ¬ (z = 65535) by omega, show ¬ (z < 0) by omega, show z < 32 by omega, show z < 55296 by omega, show z < 57344 by omega, show z < 65536 by omega, show ¬ (55295 < z) by omega, show ¬ (65533 < z) by omega, show ¬ (1114111 < z) by omega, show ¬ (57343 < z) by omega]
  · simp [show ¬ (z = 9) by omega, show ¬ (z = 10) by omega, show ¬ (z = 13) by omega, show ¬ (z = 65534) by omega, show ¬ (z = 65535) by omega, show ¬ (z < 0) by omega, show z < 32 by omega, show z < 55296 by omega, show z < 57344 by omega, show z < 65536 by omega, show ¬ (55295 < z) by omega, show ¬ (65533 < z) by omega, show ¬ (1114111 < z) by omega, show ¬ (57343 < z) by omega]
  · simp [show ¬ (z = 9) by omega, show ¬ (z = 10) by omega, show ¬ (z = 13) by omega, show ¬ (z = 65534) by omega, show ¬ (z = 65535) by omega, show ¬ (z < 0) by omega, show ¬ (z < 32) by omega, show z < 55296 by omega, show z < 57344 by omega, show z < 65536 by omega, show ¬ (55295 < z) by omega, show ¬ (65533 < z) by omega, show ¬ (1114111 < z) by omega, show ¬ (57343 < z) by omega]
  · simp [show ¬ (z = 9) by omega, show ¬ (z = 10) by omega, show ¬ (z = 13) by omega, show ¬ (z = 65534) by omega, show ¬ (z = 65535) by omega, show ¬ (z < 0) by omega, show ¬ (z < 32) by omega, show ¬ (z < 55296) by omega, show z < 57344 by omega, show z < 65536 by omega, show 55295 < z by omega, show ¬ (65533 < z) by omega, show ¬ (1114111 < z) by omega, show ¬ (57343 < z) by omega]
  · simp [show ¬ (z = 9) by omega, show ¬ (z = 10) by omega, show ¬ (z = 13) by omega, show ¬ (z = 65534) by omega, show ¬ (z = 65535) by omega, show ¬ (z < 0) by omega, show ¬ (z < 32) by omega, show ¬ (z < 55296) by omega, show ¬ (z < 57344) by omega, show z < 65536 by omega, show 55295 < z by omega, show ¬ (65533 < z) by omega, show ¬ (1114111 < z) by omega, show 57343 < z by omega]
  · simp [show ¬ (z = 9) by omega, show ¬ (z = 10) by omega, show ¬ (z = 13) by omega, show z = 65534 by omega, show ¬ (z = 65535) by omega, show ¬ (z < 0) by omega, show ¬ (z < 32) by omega, show ¬ (z < 55296) by omega, show ¬ (z < 57344) by omega, show z < 65536 by omega, show 55295 < z by omega, show 65533 < z by omega, show ¬ (1114111 < z) by omega, show 57343 < z by omega]
  · simp [show ¬ (z = 9) by omega, show ¬ (z = 10) by omega, show ¬ (z = 13) by omega, show ¬ (z = 65534) by omega, show z = 65535 by omega, show ¬ (z < 0) by omega, show ¬ (z < 32) by omega, show ¬ (z < 55296) by omega, show ¬ (z < 57344) by omega, show z < 65536 by omega, show 55295 < z by omega, show 65533 < z by omega, show ¬ (1114111 < z) by omega, show 57343 < z by omega]
  · simp [show ¬ (z = 9) by omega, show ¬ (z = 10) by omega, show ¬ (z = 13) by omega, show ¬ (z = 65534) by omega, show ¬ (z = 65535) by omega, show ¬ (z < 0) by omega, show ¬ (z < 32) by omega, show ¬ (z < 55296) by omega, show ¬ (z < 57344) by omega, show ¬ (z < 65536) by omega, show 55295 < z by omega, show 65533 < z by omega, show ¬ (1114111 < z) by omega, show 57343 < z by omega]
  · simp [show ¬ (z = 9) by omega, show ¬ (z = 10) by omega, show ¬ (z = 13) by omega, show ¬ (z = 65534) by omega, show ¬ (z = 65535) by omega, show ¬ (z < 0) by omega, show ¬ (z < 32) by omega, show ¬ (z < 55296) by omega, show ¬ (z < 57344) by omega, show ¬ (z < 65536) by omega, show 55295 < z by omega, show 65533 < z by omega, show 1114111 < z by omega, show 57343 < z by omega]
theorem law_at (p0 : Int32) (near : Int32) : (f0_108 p0 near) = 1 := by
  have n1 : nar .boolean 1 = 1 := by decide
  have s1 := own_same near
  have s2 := own_same p0
  simp [f0_161, f0_160, f0_156, f0_151, f0_144, f0_143, f0_139, f0_124, f0_123, f0_119, f0_108, s1, s2, n1]
set_option maxRecDepth 65536 in
set_option maxHeartbeats 40000000 in
theorem rm0 (l : Launch) (Z : State) (a0 : Array Value) (hw : ∀ d ∈ tables_1, d.before a0 Z = true) (ws : List Jvm.Cond) (p0 : Int32) (p1 : Int32) (p2 : Int32)  (h0 : Heap) (n0 : Nat) (Z0 : n0 ≤ h0.size) :
    MetFree l x (head1 (Jvm.Cond.code x code maxLocals ret :: ws) room_1) (fun a U => a = #[(.int p0), (.int p1), (.int p2)] ∧ Z.Warmed39 U.vm ∧ U.heap = h0) (fun _ _ _ _ _ => True) (fun _ U o U' => ∃ v L, o = .returned v ∧ (LawQ (some (.int f0_0)) n0) v U'.heap L ∧ FrameEnd U o U' L room_1.cells room_1.slots) := by
  refine MetFree.of_bodySF (plainFor_of_name pn_0) hisR ?_
  intro p e s m args below meth c s₁ Bd hml0 hP hK
  obtain ⟨rfl, hZ, hh⟩ := hP
  have hx := Bd.exec
  have hby := Bd.bytes
  have hlk : meth.locks = false := BodyLoose.notSynchronized Bd
  have hml : c.maxLocals = 7 := hml0
  have hown : s.vm.findClass "com/example/zahlwerk/zahlwerk/io/XmlParserIsCharacterPinLaw" = some m.cls := findClass_of_methodNamed Bd.named
  have hnm := (name_of_methodNamed Bd.named Bd.method).1
  have X0 : Stand p l e room_1 s m #[(.int p0), (.int p1), (.int p2)] below meth c s₁ ([] : List Loc) 0 0 := Stand.of_body Bd
  have e0 : s₁.heap = h0 := by rw [← hh, Bd.state]; rfl
  show Go p e below s room_1.cells room_1.slots (LawQ (some (.int f0_0)) n0) s₁ (entryFrame m #[(.int p0), (.int p1), (.int p2)] maxLocals)
  rw [ef_0 m p0 p1 p2]
  have N0 := Fr.nil n0
  refine Go.step (g' := (mkF m 2 #[.val (.int p0), .val (.int p1), .val (.int p2), .unset, .unset, .unset, .unset] [(.int (16 : Int32))])) (fun _ k => XS.bipush X0.here hx rfl (hb hby at_0) k) ?_
  obtain ⟨T1, h1, k1, X1, e1, E1, A1, st1⟩ := newP X0 hx hZ (hw _ (List.mem_of_getElem? (i := 0) rfl)) e0 (g := (mkF m 2 #[.val (.int p0), .val (.int p1), .val (.int p2), .unset, .unset, .unset, .unset] [(.int (16 : Int32))])) rfl (hb hby at_2) rfl (by decide) (cap := 16) (by decide) (by decide) (by decide) (by decide)
  obtain ⟨b1, g1⟩ : ∃ z, z = h0.size := ⟨_, rfl⟩
  rw [← g1] at A1 st1
  have g_b1 : n0 ≤ b1 := Nat.le_trans Z0 (Nat.le_of_eq g1.symm)
  have sz_b1 : h0.size ≤ b1 := Nat.le_trans (Keep.refl h0 []).1 (Nat.le_of_eq g1.symm)
  have V1 : IA Z h1 b1 .int 16 (fun k => .int ((fun _ => (0 : Int32)) k)) := IA.of_new A1 (by decide)
  refine Go.step (g' := (mkF m 4 #[.val (.int p0), .val (.int p1), .val (.int p2), .unset, .unset, .unset, .unset] [(.ref b1)])) st1 ?_
  refine Go.step (g' := (mkF m 5 #[.val (.int p0), .val (.int p1), .val (.int p2), .unset, .unset, .unset, .unset] [(.ref b1), (.ref b1)])) (fun _ k => XS.dup X1.here hx rfl (hb hby at_4) rfl rfl k) ?_
  refine Go.step (g' := (mkF m 6 #[.val (.int p0), .val (.int p1), .val (.int p2), .unset, .unset, .unset, .unset] [(.int (0 : Int32)), (.ref b1), (.ref b1)])) (fun _ k => XS.iconst X1.here hx rfl (hb hby at_5) k) ?_
  refine Go.step (g' := (mkF m 7 #[.val (.int p0), .val (.int p1), .val (.int p2), .unset, .unset, .unset, .unset] [(.int (0 : Int32)), (.int (0 : Int32)), (.ref b1), (.ref b1)])) (fun _ k => XS.iconst X1.here hx rfl (hb hby at_6) k) ?_
  obtain ⟨T2, h2, lc2, X2, e2, W2, N2, V2, st2⟩ := putAI X1 hx hZ e1 V1 (j := (0 : Int32)) (by decide) N0 g_b1 (gf := (mkF m 7 #[.val (.int p0), .val (.int p1), .val (.int p2), .unset, .unset, .unset, .unset] [(.int (0 : Int32)), (.int (0 : Int32)), (.ref b1), (.ref b1)])) rfl rfl (hb hby at_7)
  refine Go.step (g' := (mkF m 8 #[.val (.int p0), .val (.int p1), .val (.int p2), .unset, .unset, .unset, .unset] [(.ref b1)])) st2 ?_
  refine Go.step (g' := (mkF m 9 #[.val (.int p0), .val (.int p1), .val (.int p2), .unset, .unset, .unset, .unset] [(.ref b1), (.ref b1)])) (fun _ k => XS.dup X2.here hx rfl (hb hby at_8) rfl rfl k) ?_
  refine Go.step (g' := (mkF m 10 #[.val (.int p0), .val (.int p1), .val (.int p2), .unset, .unset, .unset, .unset] [(.int (1 : Int32)), (.ref b1), (.ref b1)])) (fun _ k => XS.iconst X2.here hx rfl (hb hby at_9) k) ?_
  refine Go.step (g' := (mkF m 12 #[.val (.int p0), .val (.int p1), .val (.int p2), .unset, .unset, .unset, .unset] [(.int (9 : Int32)), (.int (1 : Int32)), (.ref b1), (.ref b1)])) (fun _ k => XS.bipush X2.here hx rfl (hb hby at_10) k) ?_
  obtain ⟨T3, h3, lc3, X3, e3, W3, N3, V3, st3⟩ := putAI X2 hx hZ e2 V2 (j := (1 : Int32)) (by decide) N2 g_b1 (gf := (mkF m 12 #[.val (.int p0), .val (.int p1), .val (.int p2), .unset, .unset, .unset, .unset] [(.int (9 : Int32)), (.int (1 : Int32)), (.ref b1), (.ref b1)])) rfl rfl (hb hby at_12)
  refine Go.step (g' := (mkF m 13 #[.val (.int p0), .val (.int p1), .val (.int p2), .unset, .unset, .unset, .unset] [(.ref b1)])) st3 ?_
  have Q4 := (Nat.le_trans (Nat.le_trans (Nat.le_trans Z0 E1.1) (Keep.of_wr W2).1) (Keep.of_wr W3).1)
  have Q5 := ((((Keep.refl h0 []).ext E1).wr W2 (Or.inr sz_b1)).wr W3 (Or.inr sz_b1))
  refine Go.step (g' := (mkF m 14 #[.val (.int p0), .val (.int p1), .val (.int p2), .unset, .unset, .unset, .unset] [(.ref b1), (.ref b1)])) (fun _ k => XS.dup X3.here hx rfl (hb hby at_13) rfl rfl k) ?_
  refine Go.step (g' := (mkF m 15 #[.val (.int p0), .val (.int p1), .val (.int p2), .unset, .unset, .unset, .unset] [(.int (2 : Int32)), (.ref b1), (.ref b1)])) (fun _ k => XS.iconst X3.here hx rfl (hb hby at_14) k) ?_
  refine Go.step (g' := (mkF m 17 #[.val (.int p0), .val (.int p1), .val (.int p2), .unset, .unset, .unset, .unset] [(.int (10 : Int32)), (.int (2 : Int32)), (.ref b1), (.ref b1)])) (fun _ k => XS.bipush X3.here hx rfl (hb hby at_15) k) ?_
  obtain ⟨T6, h6, lc6, X6, e6, W6, N6, V6, st6⟩ := putAI X3 hx hZ e3 V3 (j := (2 : Int32)) (by decide) N3 g_b1 (gf := (mkF m 17 #[.val (.int p0), .val (.int p1), .val (.int p2), .unset, .unset, .unset, .unset] [(.int (10 : Int32)), (.int (2 : Int32)), (.ref b1), (.ref b1)])) rfl rfl (hb hby at_17)
  refine Go.step (g' := (mkF m 18 #[.val (.int p0), .val (.int p1), .val (.int p2), .unset, .unset, .unset, .unset] [(.ref b1)])) st6 ?_
  refine Go.step (g' := (mkF m 19 #[.val (.int p0), .val (.int p1), .val (.int p2), .unset, .unset, .unset, .unset] [(.ref b1), (.ref b1)])) (fun _ k => XS.dup X6.here hx rfl (hb hby at_18) rfl rfl k) ?_
  refine Go.step (g' := (mkF m 20 #[.val (.int p0), .val (.int p1), .val (.int p2), .unset, .unset, .unset, .unset] [(.int (3 : Int32)), (.ref b1), (.ref b1)])) (fun _ k => XS.iconst X6.here hx rfl (hb hby at_19) k) ?_
  refine Go.step (g' := (mkF m 22 #[.val (.int p0), .val (.int p1), .val (.int p2), .unset, .unset, .unset, .unset] [(.int (13 : Int32)), (.int (3 : Int32)), (.ref b1), (.ref b1)])) (fun _ k => XS.bipush X6.here hx rfl (hb hby at_20) k) ?_
  obtain ⟨T7, h7, lc7, X7, e7, W7, N7, V7, st7⟩ := putAI X6 hx hZ e6 V6 (j := (3 : Int32)) (by decide) N6 g_b1 (gf := (mkF m 22 #[.val (.int p0), .val (.int p1), .val (.int p2), .unset, .unset, .unset, .unset] [(.int (13 : Int32)), (.int (3 : Int32)), (.ref b1), (.ref b1)])) rfl rfl (hb hby at_22)
  refine Go.step (g' := (mkF m 23 #[.val (.int p0), .val (.int p1), .val (.int p2), .unset, .unset, .unset, .unset] [(.ref b1)])) st7 ?_
  have Q8 := (Nat.le_trans (Nat.le_trans Q4 (Keep.of_wr W6).1) (Keep.of_wr W7).1)
  refine Go.step (g' := (mkF m 24 #[.val (.int p0), .val (.int p1), .val (.int p2), .unset, .unset, .unset, .unset] [(.ref b1), (.ref b1)])) (fun _ k => XS.dup X7.here hx rfl (hb hby at_23) rfl rfl k) ?_
  refine Go.step (g' := (mkF m 25 #[.val (.int p0), .val (.int p1), .val (.int p2), .unset, .unset, .unset, .unset] [(.int (4 : Int32)), (.ref b1), (.ref b1)])) (fun _ k => XS.iconst X7.here hx rfl (hb hby at_24) k) ?_
  refine Go.step (g' := (mkF m 27 #[.val (.int p0), .val (.int p1), .val (.int p2), .unset, .unset, .unset, .unset] [(.int (32 : Int32)), (.int (4 : Int32)), (.ref b1), (.ref b1)])) (fun _ k => XS.bipush X7.here hx rfl (hb hby at_25) k) ?_
  obtain ⟨T9, h9, lc9, X9, e9, W9, N9, V9, st9⟩ := putAI X7 hx hZ e7 V7 (j := (4 : Int32)) (by decide) N7 g_b1 (gf := (mkF m 27 #[.val (.int p0), .val (.int p1), .val (.int p2), .unset, .unset, .unset, .unset] [(.int (32 : Int32)), (.int (4 : Int32)), (.ref b1), (.ref b1)])) rfl rfl (hb hby at_27)
  refine Go.step (g' := (mkF m 28 #[.val (.int p0), .val (.int p1), .val (.int p2), .unset, .unset, .unset, .unset] [(.ref b1)])) st9 ?_
  have Q10 := (((Q5.wr W6 (Or.inr sz_b1)).wr W7 (Or.inr sz_b1)).wr W9 (Or.inr sz_b1))
  refine Go.step (g' := (mkF m 29 #[.val (.int p0), .val (.int p1), .val (.int p2), .unset, .unset, .unset, .unset] [(.ref b1), (.ref b1)])) (fun _ k => XS.dup X9.here hx rfl (hb hby at_28) rfl rfl k) ?_
  refine Go.step (g' := (mkF m 30 #[.val (.int p0), .val (.int p1), .val (.int p2), .unset, .unset, .unset, .unset] [(.int (5 : Int32)), (.ref b1), (.ref b1)])) (fun _ k => XS.iconst X9.here hx rfl (hb hby at_29) k) ?_
  refine Go.step (g' := (mkF m 32 #[.val (.int p0), .val (.int p1), .val (.int p2), .unset, .unset, .unset, .unset] [(.int (55295 : Int32)), (.int (5 : Int32)), (.ref b1), (.ref b1)])) (fun _ k => X9.ldcI hx hown (mvT hZ (hw _ (List.mem_of_getElem? (i := 1) rfl))) rfl (hb hby at_30) k) ?_
  obtain ⟨T11, h11, lc11, X11, e11, W11, N11, V11, st11⟩ := putAI X9 hx hZ e9 V9 (j := (5 : Int32)) (by decide) N9 g_b1 (gf := (mkF m 32 #[.val (.int p0), .val (.int p1), .val (.int p2), .unset, .unset, .unset, .unset] [(.int (55295 : Int32)), (.int (5 : Int32)), (.ref b1), (.ref b1)])) rfl rfl (hb hby at_32)
  refine Go.step (g' := (mkF m 33 #[.val (.int p0), .val (.int p1), .val (.int p2), .unset, .unset, .unset, .unset] [(.ref b1)])) st11 ?_
  have Q12 := (Nat.le_trans (Nat.le_trans Q8 (Keep.of_wr W9).1) (Keep.of_wr W11).1)
  refine Go.step (g' := (mkF m 34 #[.val (.int p0), .val (.int p1), .val (.int p2), .unset, .unset, .unset, .unset] [(.ref b1), (.ref b1)])) (fun _ k => XS.dup X11.here hx rfl (hb hby at_33) rfl rfl k) ?_
  refine Go.step (g' := (mkF m 36 #[.val (.int p0), .val (.int p1), .val (.int p2), .unset, .unset, .unset, .unset] [(.int (6 : Int32)), (.ref b1), (.ref b1)])) (fun _ k => XS.bipush X11.here hx rfl (hb hby at_34) k) ?_
  refine Go.step (g' := (mkF m 38 #[.val (.int p0), .val (.int p1), .val (.int p2), .unset, .unset, .unset, .unset] [(.int (55296 : Int32)), (.int (6 : Int32)), (.ref b1), (.ref b1)])) (fun _ k => X11.ldcI hx hown (mvT hZ (hw _ (List.mem_of_getElem? (i := 2) rfl))) rfl (hb hby at_36) k) ?_
  obtain ⟨T13, h13, lc13, X13, e13, W13, N13, V13, st13⟩ := putAI X11 hx hZ e11 V11 (j := (6 : Int32)) (by decide) N11 g_b1 (gf := (mkF m 38 #[.val (.int p0), .val (.int p1), .val (.int p2), .unset, .unset, .unset, .unset] [(.int (55296 : Int32)), (.int (6 : Int32)), (.ref b1), (.ref b1)])) rfl rfl (hb hby at_38)
  refine Go.step (g' := (mkF m 39 #[.val (.int p0), .val (.int p1), .val (.int p2), .unset, .unset, .unset, .unset] [(.ref b1)])) st13 ?_
  refine Go.step (g' := (mkF m 40 #[.val (.int p0), .val (.int p1), .val (.int p2), .unset, .unset, .unset, .unset] [(.ref b1), (.ref b1)])) (fun _ k => XS.dup X13.here hx rfl (hb hby at_39) rfl rfl k) ?_
  refine Go.step (g' := (mkF m 42 #[.val (.int p0), .val (.int p1), .val (.int p2), .unset, .unset, .unset, .unset] [(.int (7 : Int32)), (.ref b1), (.ref b1)])) (fun _ k => XS.bipush X13.here hx rfl (hb hby at_40) k) ?_
  refine Go.step (g' := (mkF m 44 #[.val (.int p0), .val (.int p1), .val (.int p2), .unset, .unset, .unset, .unset] [(.int (57343 : Int32)), (.int (7 : Int32)), (.ref b1), (.ref b1)])) (fun _ k => X13.ldcI hx hown (mvT hZ (hw _ (List.mem_of_getElem? (i := 3) rfl))) rfl (hb hby at_42) k) ?_
  obtain ⟨T14, h14, lc14, X14, e14, W14, N14, V14, st14⟩ := putAI X13 hx hZ e13 V13 (j := (7 : Int32)) (by decide) N13 g_b1 (gf := (mkF m 44 #[.val (.int p0), .val (.int p1), .val (.int p2), .unset, .unset, .unset, .unset] [(.int (57343 : Int32)), (.int (7 : Int32)), (.ref b1), (.ref b1)])) rfl rfl (hb hby at_44)
  refine Go.step (g' := (mkF m 45 #[.val (.int p0), .val (.int p1), .val (.int p2), .unset, .unset, .unset, .unset] [(.ref b1)])) st14 ?_
  have Q15 := (Nat.le_trans (Nat.le_trans Q12 (Keep.of_wr W13).1) (Keep.of_wr W14).1)
  have Q16 := (((Q10.wr W11 (Or.inr sz_b1)).wr W13 (Or.inr sz_b1)).wr W14 (Or.inr sz_b1))
  refine Go.step (g' := (mkF m 46 #[.val (.int p0), .val (.int p1), .val (.int p2), .unset, .unset, .unset, .unset] [(.ref b1), (.ref b1)])) (fun _ k => XS.dup X14.here hx rfl (hb hby at_45) rfl rfl k) ?_
  refine Go.step (g' := (mkF m 48 #[.val (.int p0), .val (.int p1), .val (.int p2), .unset, .unset, .unset, .unset] [(.int (8 : Int32)), (.ref b1), (.ref b1)])) (fun _ k => XS.bipush X14.here hx rfl (hb hby at_46) k) ?_
  refine Go.step (g' := (mkF m 50 #[.val (.int p0), .val (.int p1), .val (.int p2), .unset, .unset, .unset, .unset] [(.int (57344 : Int32)), (.int (8 : Int32)), (.ref b1), (.ref b1)])) (fun _ k => X14.ldcI hx hown (mvT hZ (hw _ (List.mem_of_getElem? (i := 4) rfl))) rfl (hb hby at_48) k) ?_
  obtain ⟨T17, h17, lc17, X17, e17, W17, N17, V17, st17⟩ := putAI X14 hx hZ e14 V14 (j := (8 : Int32)) (by decide) N14 g_b1 (gf := (mkF m 50 #[.val (.int p0), .val (.int p1), .val (.int p2), .unset, .unset, .unset, .unset] [(.int (57344 : Int32)), (.int (8 : Int32)), (.ref b1), (.ref b1)])) rfl rfl (hb hby at_50)
  refine Go.step (g' := (mkF m 51 #[.val (.int p0), .val (.int p1), .val (.int p2), .unset, .unset, .unset, .unset] [(.ref b1)])) st17 ?_
  refine Go.step (g' := (mkF m 52 #[.val (.int p0), .val (.int p1), .val (.int p2), .unset, .unset, .unset, .unset] [(.ref b1), (.ref b1)])) (fun _ k => XS.dup X17.here hx rfl (hb hby at_51) rfl rfl k) ?_
  refine Go.step (g' := (mkF m 54 #[.val (.int p0), .val (.int p1), .val (.int p2), .unset, .unset, .unset, .unset] [(.int (9 : Int32)), (.ref b1), (.ref b1)])) (fun _ k => XS.bipush X17.here hx rfl (hb hby at_52) k) ?_
  refine Go.step (g' := (mkF m 56 #[.val (.int p0), .val (.int p1), .val (.int p2), .unset, .unset, .unset, .unset] [(.int (65533 : Int32)), (.int (9 : Int32)), (.ref b1), (.ref b1)])) (fun _ k => X17.ldcI hx hown (mvT hZ (hw _ (List.mem_of_getElem? (i := 5) rfl))) rfl (hb hby at_54) k) ?_
  obtain ⟨T18, h18, lc18, X18, e18, W18, N18, V18, st18⟩ := putAI X17 hx hZ e17 V17 (j := (9 : Int32)) (by decide) N17 g_b1 (gf := (mkF m 56 #[.val (.int p0), .val (.int p1), .val (.int p2), .unset, .unset, .unset, .unset] [(.int (65533 : Int32)), (.int (9 : Int32)), (.ref b1), (.ref b1)])) rfl rfl (hb hby at_56)
  refine Go.step (g' := (mkF m 57 #[.val (.int p0), .val (.int p1), .val (.int p2), .unset, .unset, .unset, .unset] [(.ref b1)])) st18 ?_
  have Q19 := (Nat.le_trans (Nat.le_trans Q15 (Keep.of_wr W17).1) (Keep.of_wr W18).1)
  refine Go.step (g' := (mkF m 58 #[.val (.int p0), .val (.int p1), .val (.int p2), .unset, .unset, .unset, .unset] [(.ref b1), (.ref b1)])) (fun _ k => XS.dup X18.here hx rfl (hb hby at_57) rfl rfl k) ?_
  refine Go.step (g' := (mkF m 60 #[.val (.int p0), .val (.int p1), .val (.int p2), .unset, .unset, .unset, .unset] [(.int (10 : Int32)), (.ref b1), (.ref b1)])) (fun _ k => XS.bipush X18.here hx rfl (hb hby at_58) k) ?_
  refine Go.step (g' := (mkF m 62 #[.val (.int p0), .val (.int p1), .val (.int p2), .unset, .unset, .unset, .unset] [(.int (65534 : Int32)), (.int (10 : Int32)), (.ref b1), (.ref b1)])) (fun _ k => X18.ldcI hx hown (mvT hZ (hw _ (List.mem_of_getElem? (i := 6) rfl))) rfl (hb hby at_60) k) ?_
  obtain ⟨T20, h20, lc20, X20, e20, W20, N20, V20, st20⟩ := putAI X18 hx hZ e18 V18 (j := (10 : Int32)) (by decide) N18 g_b1 (gf := (mkF m 62 #[.val (.int p0), .val (.int p1), .val (.int p2), .unset, .unset, .unset, .unset] [(.int (65534 : Int32)), (.int (10 : Int32)), (.ref b1), (.ref b1)])) rfl rfl (hb hby at_62)
  refine Go.step (g' := (mkF m 63 #[.val (.int p0), .val (.int p1), .val (.int p2), .unset, .unset, .unset, .unset] [(.ref b1)])) st20 ?_
  have Q21 := (((Q16.wr W17 (Or.inr sz_b1)).wr W18 (Or.inr sz_b1)).wr W20 (Or.inr sz_b1))
  refine Go.step (g' := (mkF m 64 #[.val (.int p0), .val (.int p1), .val (.int p2), .unset, .unset, .unset, .unset] [(.ref b1), (.ref b1)])) (fun _ k => XS.dup X20.here hx rfl (hb hby at_63) rfl rfl k) ?_
  refine Go.step (g' := (mkF m 66 #[.val (.int p0), .val (.int p1), .val (.int p2), .unset, .unset, .unset, .unset] [(.int (11 : Int32)), (.ref b1), (.ref b1)])) (fun _ k => XS.bipush X20.here hx rfl (hb hby at_64) k) ?_
  refine Go.step (g' := (mkF m 68 #[.val (.int p0), .val (.int p1), .val (.int p2), .unset, .unset, .unset, .unset] [(.int (65536 : Int32)), (.int (11 : Int32)), (.ref b1), (.ref b1)])) (fun _ k => X20.ldcI hx hown (mvT hZ (hw _ (List.mem_of_getElem? (i := 7) rfl))) rfl (hb hby at_66) k) ?_
  obtain ⟨T22, h22, lc22, X22, e22, W22, N22, V22, st22⟩ := putAI X20 hx hZ e20 V20 (j := (11 : Int32)) (by decide) N20 g_b1 (gf := (mkF m 68 #[.val (.int p0), .val (.int p1), .val (.int p2), .unset, .unset, .unset, .unset] [(.int (65536 : Int32)), (.int (11 : Int32)), (.ref b1), (.ref b1)])) rfl rfl (hb hby at_68)
  refine Go.step (g' := (mkF m 69 #[.val (.int p0), .val (.int p1), .val (.int p2), .unset, .unset, .unset, .unset] [(.ref b1)])) st22 ?_
  have Q23 := (Nat.le_trans (Nat.le_trans Q19 (Keep.of_wr W20).1) (Keep.of_wr W22).1)
  refine Go.step (g' := (mkF m 70 #[.val (.int p0), .val (.int p1), .val (.int p2), .unset, .unset, .unset, .unset] [(.ref b1), (.ref b1)])) (fun _ k => XS.dup X22.here hx rfl (hb hby at_69) rfl rfl k) ?_
  refine Go.step (g' := (mkF m 72 #[.val (.int p0), .val (.int p1), .val (.int p2), .unset, .unset, .unset, .unset] [(.int (12 : Int32)), (.ref b1), (.ref b1)])) (fun _ k => XS.bipush X22.here hx rfl (hb hby at_70) k) ?_
  refine Go.step (g' := (mkF m 74 #[.val (.int p0), .val (.int p1), .val (.int p2), .unset, .unset, .unset, .unset] [(.int (1114111 : Int32)), (.int (12 : Int32)), (.ref b1), (.ref b1)])) (fun _ k => X22.ldcI hx hown (mvT hZ (hw _ (List.mem_of_getElem? (i := 8) rfl))) rfl (hb hby at_72) k) ?_
  obtain ⟨T24, h24, lc24, X24, e24, W24, N24, V24, st24⟩ := putAI X22 hx hZ e22 V22 (j := (12 : Int32)) (by decide) N22 g_b1 (gf := (mkF m 74 #[.val (.int p0), .val (.int p1), .val (.int p2), .unset, .unset, .unset, .unset] [(.int (1114111 : Int32)), (.int (12 : Int32)), (.ref b1), (.ref b1)])) rfl rfl (hb hby at_74)
  refine Go.step (g' := (mkF m 75 #[.val (.int p0), .val (.int p1), .val (.int p2), .unset, .unset, .unset, .unset] [(.ref b1)])) st24 ?_
  refine Go.step (g' := (mkF m 76 #[.val (.int p0), .val (.int p1), .val (.int p2), .unset, .unset, .unset, .unset] [(.ref b1), (.ref b1)])) (fun _ k => XS.dup X24.here hx rfl (hb hby at_75) rfl rfl k) ?_
  refine Go.step (g' := (mkF m 78 #[.val (.int p0), .val (.int p1), .val (.int p2), .unset, .unset, .unset, .unset] [(.int (13 : Int32)), (.ref b1), (.ref b1)])) (fun _ k => XS.bipush X24.here hx rfl (hb hby at_76) k) ?_
  refine Go.step (g' := (mkF m 80 #[.val (.int p0), .val (.int p1), .val (.int p2), .unset, .unset, .unset, .unset] [(.int (1114112 : Int32)), (.int (13 : Int32)), (.ref b1), (.ref b1)])) (fun _ k => X24.ldcI hx hown (mvT hZ (hw _ (List.mem_of_getElem? (i := 9) rfl))) rfl (hb hby at_78) k) ?_
  obtain ⟨T25, h25, lc25, X25, e25, W25, N25, V25, st25⟩ := putAI X24 hx hZ e24 V24 (j := (13 : Int32)) (by decide) N24 g_b1 (gf := (mkF m 80 #[.val (.int p0), .val (.int p1), .val (.int p2), .unset, .unset, .unset, .unset] [(.int (1114112 : Int32)), (.int (13 : Int32)), (.ref b1), (.ref b1)])) rfl rfl (hb hby at_80)
  refine Go.step (g' := (mkF m 81 #[.val (.int p0), .val (.int p1), .val (.int p2), .unset, .unset, .unset, .unset] [(.ref b1)])) st25 ?_
  have Q26 := (Nat.le_trans (Nat.le_trans Q23 (Keep.of_wr W24).1) (Keep.of_wr W25).1)
  have Q27 := (((Q21.wr W22 (Or.inr sz_b1)).wr W24 (Or.inr sz_b1)).wr W25 (Or.inr sz_b1))
  refine Go.step (g' := (mkF m 82 #[.val (.int p0), .val (.int p1), .val (.int p2), .unset, .unset, .unset, .unset] [(.ref b1), (.ref b1)])) (fun _ k => XS.dup X25.here hx rfl (hb hby at_81) rfl rfl k) ?_
  refine Go.step (g' := (mkF m 84 #[.val (.int p0), .val (.int p1), .val (.int p2), .unset, .unset, .unset, .unset] [(.int (14 : Int32)), (.ref b1), (.ref b1)])) (fun _ k => XS.bipush X25.here hx rfl (hb hby at_82) k) ?_
  refine Go.step (g' := (mkF m 86 #[.val (.int p0), .val (.int p1), .val (.int p2), .unset, .unset, .unset, .unset] [(.int (-2147483648 : Int32)), (.int (14 : Int32)), (.ref b1), (.ref b1)])) (fun _ k => X25.ldcI hx hown (mvT hZ (hw _ (List.mem_of_getElem? (i := 10) rfl))) rfl (hb hby at_84) k) ?_
  obtain ⟨T28, h28, lc28, X28, e28, W28, N28, V28, st28⟩ := putAI X25 hx hZ e25 V25 (j := (14 : Int32)) (by decide) N25 g_b1 (gf := (mkF m 86 #[.val (.int p0), .val (.int p1), .val (.int p2), .unset, .unset, .unset, .unset] [(.int (-2147483648 : Int32)), (.int (14 : Int32)), (.ref b1), (.ref b1)])) rfl rfl (hb hby at_86)
  refine Go.step (g' := (mkF m 87 #[.val (.int p0), .val (.int p1), .val (.int p2), .unset, .unset, .unset, .unset] [(.ref b1)])) st28 ?_
  refine Go.step (g' := (mkF m 88 #[.val (.int p0), .val (.int p1), .val (.int p2), .unset, .unset, .unset, .unset] [(.ref b1), (.ref b1)])) (fun _ k => XS.dup X28.here hx rfl (hb hby at_87) rfl rfl k) ?_
  refine Go.step (g' := (mkF m 90 #[.val (.int p0), .val (.int p1), .val (.int p2), .unset, .unset, .unset, .unset] [(.int (15 : Int32)), (.ref b1), (.ref b1)])) (fun _ k => XS.bipush X28.here hx rfl (hb hby at_88) k) ?_
  refine Go.step (g' := (mkF m 92 #[.val (.int p0), .val (.int p1), .val (.int p2), .unset, .unset, .unset, .unset] [(.int (2147483647 : Int32)), (.int (15 : Int32)), (.ref b1), (.ref b1)])) (fun _ k => X28.ldcI hx hown (mvT hZ (hw _ (List.mem_of_getElem? (i := 11) rfl))) rfl (hb hby at_90) k) ?_
  obtain ⟨T29, h29, lc29, X29, e29, W29, N29, V29, st29⟩ := putAI X28 hx hZ e28 V28 (j := (15 : Int32)) (by decide) N28 g_b1 (gf := (mkF m 92 #[.val (.int p0), .val (.int p1), .val (.int p2), .unset, .unset, .unset, .unset] [(.int (2147483647 : Int32)), (.int (15 : Int32)), (.ref b1), (.ref b1)])) rfl rfl (hb hby at_92)
  refine Go.step (g' := (mkF m 93 #[.val (.int p0), .val (.int p1), .val (.int p2), .unset, .unset, .unset, .unset] [(.ref b1)])) st29 ?_
  have Q30 := (Nat.le_trans (Nat.le_trans Q26 (Keep.of_wr W28).1) (Keep.of_wr W29).1)
  refine Go.step (g' := (mkF m 94 #[.val (.int p0), .val (.int p1), .val (.int p2), .val (.ref b1), .unset, .unset, .unset] [])) (fun _ k => XS.astoreN X29.here hx rfl (hb hby at_93) rfl rfl (l' := #[.val (.int p0), .val (.int p1), .val (.int p2), .val (.ref b1), .unset, .unset, .unset]) rfl k) ?_
  refine Go.step (g' := (mkF m 95 #[.val (.int p0), .val (.int p1), .val (.int p2), .val (.ref b1), .unset, .unset, .unset] [(.ref b1)])) (fun _ k => XS.aloadN X29.here hx rfl (hb hby at_94) rfl rfl  k) ?_
  refine Go.step (g' := (mkF m 96 #[.val (.int p0), .val (.int p1), .val (.int p2), .val (.ref b1), .unset, .unset, .unset] [(.int p1), (.ref b1)])) (fun _ k => XS.iloadN X29.here hx rfl (hb hby at_95) rfl  k) ?_
  refine Go.step (g' := (mkF m 98 #[.val (.int p0), .val (.int p1), .val (.int p2), .val (.ref b1), .unset, .unset, .unset] [(.int (15 : Int32)), (.int p1), (.ref b1)])) (fun _ k => XS.bipush X29.here hx rfl (hb hby at_96) k) ?_
  refine Go.step (g' := (mkF m 99 #[.val (.int p0), .val (.int p1), .val (.int p2), .val (.ref b1), .unset, .unset, .unset] [(.int (p1 &&& (15 : Int32))), (.ref b1)])) (fun _ k => XS.iand X29.here hx rfl (hb hby at_98) rfl k) ?_
  refine Go.step (g' := (mkF m 100 #[.val (.int p0), .val (.int p1), .val (.int p2), .val (.ref b1), .unset, .unset, .unset] [(.int ((upd (upd (upd (upd (upd (upd (upd (upd (upd (upd (upd (upd (upd (upd (upd (upd (fun _ => (0 : Int32)) (0 : Int32).toNatClampNeg (0 : Int32)) (1 : Int32).toNatClampNeg (9 : Int32)) (2 : Int32).toNatClampNeg (10 : Int32)) (3 : Int32).toNatClampNeg (13 : Int32)) (4 : Int32).toNatClampNeg (32 : Int32)) (5 : Int32).toNatClampNeg (55295 : Int32)) (6 : Int32).toNatClampNeg (55296 : Int32)) (7 : Int32).toNatClampNeg (57343 : Int32)) (8 : Int32).toNatClampNeg (57344 : Int32)) (9 : Int32).toNatClampNeg (65533 : Int32)) (10 : Int32).toNatClampNeg (65534 : Int32)) (11 : Int32).toNatClampNeg (65536 : Int32)) (12 : Int32).toNatClampNeg (1114111 : Int32)) (13 : Int32).toNatClampNeg (1114112 : Int32)) (14 : Int32).toNatClampNeg (-2147483648 : Int32)) (15 : Int32).toNatClampNeg (2147483647 : Int32)) (p1 &&& (15 : Int32)).toNatClampNeg))])) (fun _ k => getAI X29 hx hZ e29 V29 (j := (p1 &&& (15 : Int32))) (own_in15 _) (gf := (mkF m 99 #[.val (.int p0), .val (.int p1), .val (.int p2), .val (.ref b1), .unset, .unset, .unset] [(.int (p1 &&& (15 : Int32))), (.ref b1)])) rfl rfl (hb hby at_99) k) ?_
  refine Go.step (g' := (mkF m 101 #[.val (.int p0), .val (.int p1), .val (.int p2), .val (.ref b1), .unset, .unset, .unset] [(.int p2), (.int ((upd (upd (upd (upd (upd (upd (upd (upd (upd (upd (upd (upd (upd (upd (upd (upd (fun _ => (0 : Int32)) (0 : Int32).toNatClampNeg (0 : Int32)) (1 : Int32).toNatClampNeg (9 : Int32)) (2 : Int32).toNatClampNeg (10 : Int32)) (3 : Int32).toNatClampNeg (13 : Int32)) (4 : Int32).toNatClampNeg (32 : Int32)) (5 : Int32).toNatClampNeg (55295 : Int32)) (6 : Int32).toNatClampNeg (55296 : Int32)) (7 : Int32).toNatClampNeg (57343 : Int32)) (8 : Int32).toNatClampNeg (57344 : Int32)) (9 : Int32).toNatClampNeg (65533 : Int32)) (10 : Int32).toNatClampNeg (65534 : Int32)) (11 : Int32).toNatClampNeg (65536 : Int32)) (12 : Int32).toNatClampNeg (1114111 : Int32)) (13 : Int32).toNatClampNeg (1114112 : Int32)) (14 : Int32).toNatClampNeg (-2147483648 : Int32)) (15 : Int32).toNatClampNeg (2147483647 : Int32)) (p1 &&& (15 : Int32)).toNatClampNeg))])) (fun _ k => XS.iloadN X29.here hx rfl (hb hby at_100) rfl  k) ?_
  refine Go.step (g' := (mkF m 102 #[.val (.int p0), .val (.int p1), .val (.int p2), .val (.ref b1), .unset, .unset, .unset] [(.int (3 : Int32)), (.int p2), (.int ((upd (upd (upd (upd (upd (upd (upd (upd (upd (upd (upd (upd (upd (upd (upd (upd (fun _ => (0 : Int32)) (0 : Int32).toNatClampNeg (0 : Int32)) (1 : Int32).toNatClampNeg (9 : Int32)) (2 : Int32).toNatClampNeg (10 : Int32)) (3 : Int32).toNatClampNeg (13 : Int32)) (4 : Int32).toNatClampNeg (32 : Int32)) (5 : Int32).toNatClampNeg (55295 : Int32)) (6 : Int32).toNatClampNeg (55296 : Int32)) (7 : Int32).toNatClampNeg (57343 : Int32)) (8 : Int32).toNatClampNeg (57344 : Int32)) (9 : Int32).toNatClampNeg (65533 : Int32)) (10 : Int32).toNatClampNeg (65534 : Int32)) (11 : Int32).toNatClampNeg (65536 : Int32)) (12 : Int32).toNatClampNeg (1114111 : Int32)) (13 : Int32).toNatClampNeg (1114112 : Int32)) (14 : Int32).toNatClampNeg (-2147483648 : Int32)) (15 : Int32).toNatClampNeg (2147483647 : Int32)) (p1 &&& (15 : Int32)).toNatClampNeg))])) (fun _ k => XS.iconst X29.here hx rfl (hb hby at_101) k) ?_
  refine Go.step (g' := (mkF m 103 #[.val (.int p0), .val (.int p1), .val (.int p2), .val (.ref b1), .unset, .unset, .unset] [(.int (p2 &&& (3 : Int32))), (.int ((upd (upd (upd (upd (upd (upd (upd (upd (upd (upd (upd (upd (upd (upd (upd (upd (fun _ => (0 : Int32)) (0 : Int32).toNatClampNeg (0 : Int32)) (1 : Int32).toNatClampNeg (9 : Int32)) (2 : Int32).toNatClampNeg (10 : Int32)) (3 : Int32).toNatClampNeg (13 : Int32)) (4 : Int32).toNatClampNeg (32 : Int32)) (5 : Int32).toNatClampNeg (55295 : Int32)) (6 : Int32).toNatClampNeg (55296 : Int32)) (7 : Int32).toNatClampNeg (57343 : Int32)) (8 : Int32).toNatClampNeg (57344 : Int32)) (9 : Int32).toNatClampNeg (65533 : Int32)) (10 : Int32).toNatClampNeg (65534 : Int32)) (11 : Int32).toNatClampNeg (65536 : Int32)) (12 : Int32).toNatClampNeg (1114111 : Int32)) (13 : Int32).toNatClampNeg (1114112 : Int32)) (14 : Int32).toNatClampNeg (-2147483648 : Int32)) (15 : Int32).toNatClampNeg (2147483647 : Int32)) (p1 &&& (15 : Int32)).toNatClampNeg))])) (fun _ k => XS.iand X29.here hx rfl (hb hby at_102) rfl k) ?_
  refine Go.step (g' := (mkF m 104 #[.val (.int p0), .val (.int p1), .val (.int p2), .val (.ref b1), .unset, .unset, .unset] [(.int (1 : Int32)), (.int (p2 &&& (3 : Int32))), (.int ((upd (upd (upd (upd (upd (upd (upd (upd (upd (upd (upd (upd (upd (upd (upd (upd (fun _ => (0 : Int32)) (0 : Int32).toNatClampNeg (0 : Int32)) (1 : Int32).toNatClampNeg (9 : Int32)) (2 : Int32).toNatClampNeg (10 : Int32)) (3 : Int32).toNatClampNeg (13 : Int32)) (4 : Int32).toNatClampNeg (32 : Int32)) (5 : Int32).toNatClampNeg (55295 : Int32)) (6 : Int32).toNatClampNeg (55296 : Int32)) (7 : Int32).toNatClampNeg (57343 : Int32)) (8 : Int32).toNatClampNeg (57344 : Int32)) (9 : Int32).toNatClampNeg (65533 : Int32)) (10 : Int32).toNatClampNeg (65534 : Int32)) (11 : Int32).toNatClampNeg (65536 : Int32)) (12 : Int32).toNatClampNeg (1114111 : Int32)) (13 : Int32).toNatClampNeg (1114112 : Int32)) (14 : Int32).toNatClampNeg (-2147483648 : Int32)) (15 : Int32).toNatClampNeg (2147483647 : Int32)) (p1 &&& (15 : Int32)).toNatClampNeg))])) (fun _ k => XS.iconst X29.here hx rfl (hb hby at_103) k) ?_
  refine Go.step (g' := (mkF m 105 #[.val (.int p0), .val (.int p1), .val (.int p2), .val (.ref b1), .unset, .unset, .unset] [(.int ((p2 &&& (3 : Int32)) - (1 : Int32))), (.int ((upd (upd (upd (upd (upd (upd (upd (upd (upd (upd (upd (upd (upd (upd (upd (upd (fun _ => (0 : Int32)) (0 : Int32).toNatClampNeg (0 : Int32)) (1 : Int32).toNatClampNeg (9 : Int32)) (2 : Int32).toNatClampNeg (10 : Int32)) (3 : Int32).toNatClampNeg (13 : Int32)) (4 : Int32).toNatClampNeg (32 : Int32)) (5 : Int32).toNatClampNeg (55295 : Int32)) (6 : Int32).toNatClampNeg (55296 : Int32)) (7 : Int32).toNatClampNeg (57343 : Int32)) (8 : Int32).toNatClampNeg (57344 : Int32)) (9 : Int32).toNatClampNeg (65533 : Int32)) (10 : Int32).toNatClampNeg (65534 : Int32)) (11 : Int32).toNatClampNeg (65536 : Int32)) (12 : Int32).toNatClampNeg (1114111 : Int32)) (13 : Int32).toNatClampNeg (1114112 : Int32)) (14 : Int32).toNatClampNeg (-2147483648 : Int32)) (15 : Int32).toNatClampNeg (2147483647 : Int32)) (p1 &&& (15 : Int32)).toNatClampNeg))])) (fun _ k => XS.isub X29.here hx rfl (hb hby at_104) rfl k) ?_
  refine Go.step (g' := (mkF m 106 #[.val (.int p0), .val (.int p1), .val (.int p2), .val (.ref b1), .unset, .unset, .unset] [(.int (((upd (upd (upd (upd (upd (upd (upd (upd (upd (upd (upd (upd (upd (upd (upd (upd (fun _ => (0 : Int32)) (0 : Int32).toNatClampNeg (0 : Int32)) (1 : Int32).toNatClampNeg (9 : Int32)) (2 : Int32).toNatClampNeg (10 : Int32)) (3 : Int32).toNatClampNeg (13 : Int32)) (4 : Int32).toNatClampNeg (32 : Int32)) (5 : Int32).toNatClampNeg (55295 : Int32)) (6 : Int32).toNatClampNeg (55296 : Int32)) (7 : Int32).toNatClampNeg (57343 : Int32)) (8 : Int32).toNatClampNeg (57344 : Int32)) (9 : Int32).toNatClampNeg (65533 : Int32)) (10 : Int32).toNatClampNeg (65534 : Int32)) (11 : Int32).toNatClampNeg (65536 : Int32)) (12 : Int32).toNatClampNeg (1114111 : Int32)) (13 : Int32).toNatClampNeg (1114112 : Int32)) (14 : Int32).toNatClampNeg (-2147483648 : Int32)) (15 : Int32).toNatClampNeg (2147483647 : Int32)) (p1 &&& (15 : Int32)).toNatClampNeg) + ((p2 &&& (3 : Int32)) - (1 : Int32))))])) (fun _ k => XS.iadd X29.here hx rfl (hb hby at_105) rfl k) ?_
  refine Go.step (g' := (mkF m 108 #[.val (.int p0), .val (.int p1), .val (.int p2), .val (.ref b1), .val (.int (((upd (upd (upd (upd (upd (upd (upd (upd (upd (upd (upd (upd (upd (upd (upd (upd (fun _ => (0 : Int32)) (0 : Int32).toNatClampNeg (0 : Int32)) (1 : Int32).toNatClampNeg (9 : Int32)) (2 : Int32).toNatClampNeg (10 : Int32)) (3 : Int32).toNatClampNeg (13 : Int32)) (4 : Int32).toNatClampNeg (32 : Int32)) (5 : Int32).toNatClampNeg (55295 : Int32)) (6 : Int32).toNatClampNeg (55296 : Int32)) (7 : Int32).toNatClampNeg (57343 : Int32)) (8 : Int32).toNatClampNeg (57344 : Int32)) (9 : Int32).toNatClampNeg (65533 : Int32)) (10 : Int32).toNatClampNeg (65534 : Int32)) (11 : Int32).toNatClampNeg (65536 : Int32)) (12 : Int32).toNatClampNeg (1114111 : Int32)) (13 : Int32).toNatClampNeg (1114112 : Int32)) (14 : Int32).toNatClampNeg (-2147483648 : Int32)) (15 : Int32).toNatClampNeg (2147483647 : Int32)) (p1 &&& (15 : Int32)).toNatClampNeg) + ((p2 &&& (3 : Int32)) - (1 : Int32)))), .unset, .unset] [])) (fun _ k => XS.istore X29.here hx rfl (hb hby at_106) rfl (l' := #[.val (.int p0), .val (.int p1), .val (.int p2), .val (.ref b1), .val (.int (((upd (upd (upd (upd (upd (upd (upd (upd (upd (upd (upd (upd (upd (upd (upd (upd (fun _ => (0 : Int32)) (0 : Int32).toNatClampNeg (0 : Int32)) (1 : Int32).toNatClampNeg (9 : Int32)) (2 : Int32).toNatClampNeg (10 : Int32)) (3 : Int32).toNatClampNeg (13 : Int32)) (4 : Int32).toNatClampNeg (32 : Int32)) (5 : Int32).toNatClampNeg (55295 : Int32)) (6 : Int32).toNatClampNeg (55296 : Int32)) (7 : Int32).toNatClampNeg (57343 : Int32)) (8 : Int32).toNatClampNeg (57344 : Int32)) (9 : Int32).toNatClampNeg (65533 : Int32)) (10 : Int32).toNatClampNeg (65534 : Int32)) (11 : Int32).toNatClampNeg (65536 : Int32)) (12 : Int32).toNatClampNeg (1114111 : Int32)) (13 : Int32).toNatClampNeg (1114112 : Int32)) (14 : Int32).toNatClampNeg (-2147483648 : Int32)) (15 : Int32).toNatClampNeg (2147483647 : Int32)) (p1 &&& (15 : Int32)).toNatClampNeg) + ((p2 &&& (3 : Int32)) - (1 : Int32)))), .unset, .unset]) rfl k) ?_
  generalize hnear : (((upd (upd (upd (upd (upd (upd (upd (upd (upd (upd (upd (upd (upd (upd (upd (upd (fun _ => (0 : Int32)) (0 : Int32).toNatClampNeg (0 : Int32)) (1 : Int32).toNatClampNeg (9 : Int32)) (2 : Int32).toNatClampNeg (10 : Int32)) (3 : Int32).toNatClampNeg (13 : Int32)) (4 : Int32).toNatClampNeg (32 : Int32)) (5 : Int32).toNatClampNeg (55295 : Int32)) (6 : Int32).toNatClampNeg (55296 : Int32)) (7 : Int32).toNatClampNeg (57343 : Int32)) (8 : Int32).toNatClampNeg (57344 : Int32)) (9 : Int32).toNatClampNeg (65533 : Int32)) (10 : Int32).toNatClampNeg (65534 : Int32)) (11 : Int32).toNatClampNeg (65536 : Int32)) (12 : Int32).toNatClampNeg (1114111 : Int32)) (13 : Int32).toNatClampNeg (1114112 : Int32)) (14 : Int32).toNatClampNeg (-2147483648 : Int32)) (15 : Int32).toNatClampNeg (2147483647 : Int32)) (p1 &&& (15 : Int32)).toNatClampNeg) + ((p2 &&& (3 : Int32)) - (1 : Int32))) = near
  rw [show f0_0 = (f0_108 p0 near) from (law_at _ _).symm]
  refine Go.step (g' := (mkF m 109 #[.val (.int p0), .val (.int p1), .val (.int p2), .val (.ref b1), .val (.int near), .unset, .unset] [(.int p0)])) (fun _ k => XS.iloadN X29.here hx rfl (hb hby at_108) rfl  k) ?_
  obtain ⟨_, _, ⟨T31, L31, k31, n31⟩, -, X31, ⟨Lc31, hQ31, l31, y31, z31⟩, st31⟩ := Jvm.LawKit.callS X29 hx (y := (⟨"com/example/zahlwerk/zahlwerk/io/XmlParser", "isCharacter", "(I)Z"⟩ : MethodName)) hown (mvT hZ (hw _ (List.mem_of_getElem? (i := 12) rfl))) (mvT hZ (hw _ (List.mem_of_getElem? (i := 13) rfl))) (mvT hZ (hw _ (List.mem_of_getElem? (i := 14) rfl))) (mvT hZ (hw _ (List.mem_of_getElem? (i := 15) rfl))) (by decide) (backOf (W := 0) (rm1 l Z a0 hw [] p0 h29 ) hZ (hw _ (List.mem_of_getElem? (i := 15) rfl)) (hw _ (List.mem_of_getElem? (i := 14) rfl)) (by decide) (by decide)) (g := (mkF m 109 #[.val (.int p0), .val (.int p1), .val (.int p2), .val (.ref b1), .val (.int near), .unset, .unset] [(.int p0)])) rfl (by rw [hml]; rfl) (argsL := [(.int p0)]) (rest := []) (lenOf pd_0 rfl) rfl (by show 2 * 0 + _ ≤ _; exact Nat.le_of_eq rfl) (hb hby at_109) (fun _ _ => ⟨rfl, e29, (by decide : (0 + 1) + 0 ≤ _), (by decide : (0 + 16) + 0 ≤ _)⟩)
  dsimp only [Pt.U, Pt.locs, Pt.cells, Pt.slots] at X31 l31 y31 z31 st31 hQ31
  subst l31 y31 z31
  obtain ⟨rfl, rfl, e31⟩ := hQ31
  try rw [List.append_nil] at X31
  refine Go.step (g' := (mkF m 112 #[.val (.int p0), .val (.int p1), .val (.int p2), .val (.ref b1), .val (.int near), .unset, .unset] [(.int (f1_0 p0))])) st31 ?_
  refine Go.step (g' := (mkF m 113 #[.val (.int p0), .val (.int p1), .val (.int p2), .val (.ref b1), .val (.int near), .unset, .unset] [(.int p0), (.int (f1_0 p0))])) (fun _ k => XS.iloadN X31.here hx rfl (hb hby at_112) rfl  k) ?_
  obtain ⟨_, _, ⟨T32, L32, k32, n32⟩, -, X32, ⟨Lc32, hQ32, l32, y32, z32⟩, st32⟩ := Jvm.LawKit.callS X31 hx (y := (⟨"com/example/zahlwerk/zahlwerk/io/XmlParserIsCharacterPinLaw", "reference", "(I)Z"⟩ : MethodName)) hown (mvT hZ (hw _ (List.mem_of_getElem? (i := 18) rfl))) (mvT hZ (hw _ (List.mem_of_getElem? (i := 19) rfl))) (mvT hZ (hw _ (List.mem_of_getElem? (i := 20) rfl))) (mvT hZ (hw _ (List.mem_of_getElem? (i := 21) rfl))) (by decide) (backOf (W := 1) (rm2 l Z a0 hw [] p0 h29 ) hZ (hw _ (List.mem_of_getElem? (i := 21) rfl)) (hw _ (List.mem_of_getElem? (i := 20) rfl)) (by decide) (by decide)) (g := (mkF m 113 #[.val (.int p0), .val (.int p1), .val (.int p2), .val (.ref b1), .val (.int near), .unset, .unset] [(.int p0), (.int (f1_0 p0))])) rfl (by rw [hml]; rfl) (argsL := [(.int p0)]) (rest := [(.int (f1_0 p0))]) (lenOf pd_0 rfl) rfl (by show 2 * 0 + _ ≤ _; exact Nat.le_of_eq rfl) (hb hby at_113) (fun _ _ => ⟨rfl, e31, (by decide : (0 + 1) + 0 ≤ _), (by decide : (0 + 16) + 0 ≤ _)⟩)
  dsimp only [Pt.U, Pt.locs, Pt.cells, Pt.slots] at X32 l32 y32 z32 st32 hQ32
  subst l32 y32 z32
  obtain ⟨rfl, rfl, e32⟩ := hQ32
  try rw [List.append_nil] at X32
  refine Go.step (g' := (mkF m 116 #[.val (.int p0), .val (.int p1), .val (.int p2), .val (.ref b1), .val (.int near), .unset, .unset] [(.int (f2_0 p0)), (.int (f1_0 p0))])) st32 ?_
  have t124 : ∀ (v124_s0 : Int32), Go p e below s room_1.cells room_1.slots (LawQ (some (.int (f0_124 near v124_s0))) n0) T32 (mkF m 124 #[.val (.int p0), .val (.int p1), .val (.int p2), .val (.ref b1), .val (.int near), .unset, .unset] [(.int v124_s0)]) := by
    intro v124_s0
    refine Go.step (g' := (mkF m 126 #[.val (.int p0), .val (.int p1), .val (.int p2), .val (.ref b1), .val (.int near), .val (.int v124_s0), .unset] [])) (fun _ k => XS.istore X32.here hx rfl (hb hby at_124) rfl (l' := #[.val (.int p0), .val (.int p1), .val (.int p2), .val (.ref b1), .val (.int near), .val (.int v124_s0), .unset]) rfl k) ?_
    refine Go.step (g' := (mkF m 128 #[.val (.int p0), .val (.int p1), .val (.int p2), .val (.ref b1), .val (.int near), .val (.int v124_s0), .unset] [(.int near)])) (fun _ k => XS.iload X32.here hx rfl (hb hby at_126) rfl  k) ?_
    obtain ⟨_, _, ⟨T33, L33, k33, n33⟩, -, X33, ⟨Lc33, hQ33, l33, y33, z33⟩, st33⟩ := Jvm.LawKit.callS X32 hx (y := (⟨"com/example/zahlwerk/zahlwerk/io/XmlParser", "isCharacter", "(I)Z"⟩ : MethodName)) hown (mvT hZ (hw _ (List.mem_of_getElem? (i := 12) rfl))) (mvT hZ (hw _ (List.mem_of_getElem? (i := 13) rfl))) (mvT hZ (hw _ (List.mem_of_getElem? (i := 14) rfl))) (mvT hZ (hw _ (List.mem_of_getElem? (i := 15) rfl))) (by decide) (backOf (W := 0) (rm1 l Z a0 hw [] near h29 ) hZ (hw _ (List.mem_of_getElem? (i := 15) rfl)) (hw _ (List.mem_of_getElem? (i := 14) rfl)) (by decide) (by decide)) (g := (mkF m 128 #[.val (.int p0), .val (.int p1), .val (.int p2), .val (.ref b1), .val (.int near), .val (.int v124_s0), .unset] [(.int near)])) rfl (by rw [hml]; rfl) (argsL := [(.int near)]) (rest := []) (lenOf pd_0 rfl) rfl (by show 2 * 0 + _ ≤ _; exact Nat.le_of_eq rfl) (hb hby at_128) (fun _ _ => ⟨rfl, e32, (by decide : (0 + 1) + 0 ≤ _), (by decide : (0 + 16) + 0 ≤ _)⟩)
    dsimp only [Pt.U, Pt.locs, Pt.cells, Pt.slots] at X33 l33 y33 z33 st33 hQ33
    subst l33 y33 z33
    obtain ⟨rfl, rfl, e33⟩ := hQ33
    try rw [List.append_nil] at X33
    refine Go.step (g' := (mkF m 131 #[.val (.int p0), .val (.int p1), .val (.int p2), .val (.ref b1), .val (.int near), .val (.int v124_s0), .unset] [(.int (f1_0 near))])) st33 ?_
    refine Go.step (g' := (mkF m 133 #[.val (.int p0), .val (.int p1), .val (.int p2), .val (.ref b1), .val (.int near), .val (.int v124_s0), .unset] [(.int near), (.int (f1_0 near))])) (fun _ k => XS.iload X33.here hx rfl (hb hby at_131) rfl  k) ?_
    obtain ⟨_, _, ⟨T34, L34, k34, n34⟩, -, X34, ⟨Lc34, hQ34, l34, y34, z34⟩, st34⟩ := Jvm.LawKit.callS X33 hx (y := (⟨"com/example/zahlwerk/zahlwerk/io/XmlParserIsCharacterPinLaw", "reference", "(I)Z"⟩ : MethodName)) hown (mvT hZ (hw _ (List.mem_of_getElem? (i := 18) rfl))) (mvT hZ (hw _ (List.mem_of_getElem? (i := 19) rfl))) (mvT hZ (hw _ (List.mem_of_getElem? (i := 20) rfl))) (mvT hZ (hw _ (List.mem_of_getElem? (i := 21) rfl))) (by decide) (backOf (W := 1) (rm2 l Z a0 hw [] near h29 ) hZ (hw _ (List.mem_of_getElem? (i := 21) rfl)) (hw _ (List.mem_of_getElem? (i := 20) rfl)) (by decide) (by decide)) (g := (mkF m 133 #[.val (.int p0), .val (.int p1), .val (.int p2), .val (.ref b1), .val (.int near), .val (.int v124_s0), .unset] [(.int near), (.int (f1_0 near))])) rfl (by rw [hml]; rfl) (argsL := [(.int near)]) (rest := [(.int (f1_0 near))]) (lenOf pd_0 rfl) rfl (by show 2 * 0 + _ ≤ _; exact Nat.le_of_eq rfl) (hb hby at_133) (fun _ _ => ⟨rfl, e33, (by decide : (0 + 1) + 0 ≤ _), (by decide : (0 + 16) + 0 ≤ _)⟩)
    dsimp only [Pt.U, Pt.locs, Pt.cells, Pt.slots] at X34 l34 y34 z34 st34 hQ34
    subst l34 y34 z34
    obtain ⟨rfl, rfl, e34⟩ := hQ34
    try rw [List.append_nil] at X34
    refine Go.step (g' := (mkF m 136 #[.val (.int p0), .val (.int p1), .val (.int p2), .val (.ref b1), .val (.int near), .val (.int v124_s0), .unset] [(.int (f2_0 near)), (.int (f1_0 near))])) st34 ?_
    have t144 : ∀ (v144_s0 : Int32), Go p e below s room_1.cells room_1.slots (LawQ (some (.int (f0_144 v124_s0 v144_s0))) n0) T34 (mkF m 144 #[.val (.int p0), .val (.int p1), .val (.int p2), .val (.ref b1), .val (.int near), .val (.int v124_s0), .unset] [(.int v144_s0)]) := by
      intro v144_s0
      refine Go.step (g' := (mkF m 146 #[.val (.int p0), .val (.int p1), .val (.int p2), .val (.ref b1), .val (.int near), .val (.int v124_s0), .val (.int v144_s0)] [])) (fun _ k => XS.istore X34.here hx rfl (hb hby at_144) rfl (l' := #[.val (.int p0), .val (.int p1), .val (.int p2), .val (.ref b1), .val (.int near), .val (.int v124_s0), .val (.int v144_s0)]) rfl k) ?_
      refine Go.step (g' := (mkF m 148 #[.val (.int p0), .val (.int p1), .val (.int p2), .val (.ref b1), .val (.int near), .val (.int v124_s0), .val (.int v144_s0)] [(.int v124_s0)])) (fun _ k => XS.iload X34.here hx rfl (hb hby at_146) rfl  k) ?_
      have t161 : ∀ (v161_s0 : Int32), Go p e below s room_1.cells room_1.slots (LawQ (some (.int (f0_161 v161_s0))) n0) T34 (mkF m 161 #[.val (.int p0), .val (.int p1), .val (.int p2), .val (.ref b1), .val (.int near), .val (.int v124_s0), .val (.int v144_s0)] [(.int v161_s0)]) := by
        intro v161_s0
        exact Go.retN X34 hx hlk (t := .boolean) Bd.returns (by simp) (hb hby at_161) (by decide) (by decide) ⟨rfl, N29⟩
      have t160 : Go p e below s room_1.cells room_1.slots (LawQ (some (.int f0_160)) n0) T34 (mkF m 160 #[.val (.int p0), .val (.int p1), .val (.int p2), .val (.ref b1), .val (.int near), .val (.int v124_s0), .val (.int v144_s0)] []) := by
        refine Go.step (g' := (mkF m 161 #[.val (.int p0), .val (.int p1), .val (.int p2), .val (.ref b1), .val (.int near), .val (.int v124_s0), .val (.int v144_s0)] [(.int (0 : Int32))])) (fun _ k => XS.iconst X34.here hx rfl (hb hby at_160) k) ?_
        rw [show f0_160 = (f0_161 (0 : Int32)) from rfl]
        exact t161 (0 : Int32)
      by_cases hc148 : v124_s0 = (0 : Int32)
      · rw [show (f0_144 v124_s0 v144_s0) = f0_160 from if_pos hc148]
        refine Go.step (g' := (mkF m 160 #[.val (.int p0), .val (.int p1), .val (.int p2), .val (.ref b1), .val (.int near), .val (.int v124_s0), .val (.int v144_s0)] [])) (fun _ k => XS.ifYes X34.here hx rfl (pc0 := 148) (pc' := 160) rfl (hb hby at_148) rfl ((if0 _ _).trans (teq hc148).1) (by decide) (by decide) k) ?_
        exact t160 
      · rw [show (f0_144 v124_s0 v144_s0) = (f0_151 v144_s0) from if_neg hc148]
        refine Go.step (g' := (mkF m 151 #[.val (.int p0), .val (.int p1), .val (.int p2), .val (.ref b1), .val (.int near), .val (.int v124_s0), .val (.int v144_s0)] [])) (fun _ k => XS.ifNo X34.here hx rfl (hb hby at_148) rfl ((if0 _ _).trans (feq hc148).1) k) ?_
        refine Go.step (g' := (mkF m 153 #[.val (.int p0), .val (.int p1), .val (.int p2), .val (.ref b1), .val (.int near), .val (.int v124_s0), .val (.int v144_s0)] [(.int v144_s0)])) (fun _ k => XS.iload X34.here hx rfl (hb hby at_151) rfl  k) ?_
        by_cases hc153 : v144_s0 = (0 : Int32)
        · rw [show (f0_151 v144_s0) = f0_160 from if_pos hc153]
          refine Go.step (g' := (mkF m 160 #[.val (.int p0), .val (.int p1), .val (.int p2), .val (.ref b1), .val (.int near), .val (.int v124_s0), .val (.int v144_s0)] [])) (fun _ k => XS.ifYes X34.here hx rfl (pc0 := 153) (pc' := 160) rfl (hb hby at_153) rfl ((if0 _ _).trans (teq hc153).1) (by decide) (by decide) k) ?_
          exact t160 
        · rw [show (f0_151 v144_s0) = f0_156 from if_neg hc153]
          refine Go.step (g' := (mkF m 156 #[.val (.int p0), .val (.int p1), .val (.int p2), .val (.ref b1), .val (.int near), .val (.int v124_s0), .val (.int v144_s0)] [])) (fun _ k => XS.ifNo X34.here hx rfl (hb hby at_153) rfl ((if0 _ _).trans (feq hc153).1) k) ?_
          refine Go.step (g' := (mkF m 157 #[.val (.int p0), .val (.int p1), .val (.int p2), .val (.ref b1), .val (.int near), .val (.int v124_s0), .val (.int v144_s0)] [(.int (1 : Int32))])) (fun _ k => XS.iconst X34.here hx rfl (hb hby at_156) k) ?_
          refine Go.step (g' := (mkF m 161 #[.val (.int p0), .val (.int p1), .val (.int p2), .val (.ref b1), .val (.int near), .val (.int v124_s0), .val (.int v144_s0)] [(.int (1 : Int32))])) (fun _ k => XS.goto X34.here hx rfl (pc0 := 157) (pc' := 161) rfl (hb hby at_157) (by decide) (by decide) k) ?_
          rw [show f0_156 = (f0_161 (1 : Int32)) from rfl]
          exact t161 (1 : Int32)
    by_cases hc136 : (f1_0 near) = (f2_0 near)
    · rw [show (f0_124 near v124_s0) = (f0_139 v124_s0) from if_pos hc136]
      refine Go.step (g' := (mkF m 139 #[.val (.int p0), .val (.int p1), .val (.int p2), .val (.ref b1), .val (.int near), .val (.int v124_s0), .unset] [])) (fun _ k => XS.icmpNo X34.here hx rfl (hb hby at_136) rfl (teq hc136).2 k) ?_
      refine Go.step (g' := (mkF m 140 #[.val (.int p0), .val (.int p1), .val (.int p2), .val (.ref b1), .val (.int near), .val (.int v124_s0), .unset] [(.int (1 : Int32))])) (fun _ k => XS.iconst X34.here hx rfl (hb hby at_139) k) ?_
      refine Go.step (g' := (mkF m 144 #[.val (.int p0), .val (.int p1), .val (.int p2), .val (.ref b1), .val (.int near), .val (.int v124_s0), .unset] [(.int (1 : Int32))])) (fun _ k => XS.goto X34.here hx rfl (pc0 := 140) (pc' := 144) rfl (hb hby at_140) (by decide) (by decide) k) ?_
      rw [show (f0_139 v124_s0) = (f0_144 v124_s0 (1 : Int32)) from rfl]
      exact t144 (1 : Int32)
    · rw [show (f0_124 near v124_s0) = (f0_143 v124_s0) from if_neg hc136]
      refine Go.step (g' := (mkF m 143 #[.val (.int p0), .val (.int p1), .val (.int p2), .val (.ref b1), .val (.int near), .val (.int v124_s0), .unset] [])) (fun _ k => XS.icmpYes X34.here hx rfl (pc0 := 136) (pc' := 143) rfl (hb hby at_136) rfl (feq hc136).2 (by decide) (by decide) k) ?_
      refine Go.step (g' := (mkF m 144 #[.val (.int p0), .val (.int p1), .val (.int p2), .val (.ref b1), .val (.int near), .val (.int v124_s0), .unset] [(.int (0 : Int32))])) (fun _ k => XS.iconst X34.here hx rfl (hb hby at_143) k) ?_
      rw [show (f0_143 v124_s0) = (f0_144 v124_s0 (0 : Int32)) from rfl]
      exact t144 (0 : Int32)
  by_cases hc116 : (f1_0 p0) = (f2_0 p0)
  · rw [show (f0_108 p0 near) = (f0_119 near) from if_pos hc116]
    refine Go.step (g' := (mkF m 119 #[.val (.int p0), .val (.int p1), .val (.int p2), .val (.ref b1), .val (.int near), .unset, .unset] [])) (fun _ k => XS.icmpNo X32.here hx rfl (hb hby at_116) rfl (teq hc116).2 k) ?_
    refine Go.step (g' := (mkF m 120 #[.val (.int p0), .val (.int p1), .val (.int p2), .val (.ref b1), .val (.int near), .unset, .unset] [(.int (1 : Int32))])) (fun _ k => XS.iconst X32.here hx rfl (hb hby at_119) k) ?_
    refine Go.step (g' := (mkF m 124 #[.val (.int p0), .val (.int p1), .val (.int p2), .val (.ref b1), .val (.int near), .unset, .unset] [(.int (1 : Int32))])) (fun _ k => XS.goto X32.here hx rfl (pc0 := 120) (pc' := 124) rfl (hb hby at_120) (by decide) (by decide) k) ?_
    rw [show (f0_119 near) = (f0_124 near (1 : Int32)) from rfl]
    exact t124 (1 : Int32)
  · rw [show (f0_108 p0 near) = (f0_123 near) from if_neg hc116]
    refine Go.step (g' := (mkF m 123 #[.val (.int p0), .val (.int p1), .val (.int p2), .val (.ref b1), .val (.int near), .unset, .unset] [])) (fun _ k => XS.icmpYes X32.here hx rfl (pc0 := 116) (pc' := 123) rfl (hb hby at_116) rfl (feq hc116).2 (by decide) (by decide) k) ?_
    refine Go.step (g' := (mkF m 124 #[.val (.int p0), .val (.int p1), .val (.int p2), .val (.ref b1), .val (.int near), .unset, .unset] [(.int (0 : Int32))])) (fun _ k => XS.iconst X32.here hx rfl (hb hby at_123) k) ?_
    rw [show (f0_123 near) = (f0_124 near (0 : Int32)) from rfl]
    exact t124 (0 : Int32)
set_option maxRecDepth 65536 in
set_option maxHeartbeats 40000000 in
theorem comes_1 {Post : Tables → Env → Array Value → State → Outcome → State → Prop} (hpost : ∀ tb e args s v u, (limb_1_1.after args s (.returned v) u = true ∧ limb_1_2.after args s (.returned v) u = true) → FrameEnd s (.returned v) u (Jvm.fieldLocs frame_1_writes args s ++ Jvm.arrayLocs frame_1_arrays args s ++ Jvm.staticLocs frame_1_statics s) 16 128 → Post tb e args s (.returned v) u) :
    ArmFor flags0 classFile x code maxLocals ret World_1 tables_1 room_1 Calls_1 rest_1 Pre_1 Post := by
  intro l hfl _ _ p e ha hc hk s m args below hf hA hF happ hP
  obtain ⟨hcalls, hrest, hpre⟩ := hP
  obtain ⟨-, -, -, hnamed, -, -, -, hat⟩ := (Spec.applies_iff hf).mp happ
  obtain ⟨hg, hn⟩ := and_e (Cond.before_iff.mp (show (Jvm.Cond.and given_1 narrow_1).before args s = true from hpre))
  obtain ⟨gc, hg⟩ := and_e hg
  obtain ⟨g0, hg⟩ := and_e hg
  obtain ⟨g1, hg⟩ := and_e hg
  have g2 := hg
  obtain ⟨w0, w1, w2, rfl⟩ : ∃ w0 w1 w2 : Value, args = #[w0, w1, w2] := by
    have hs : args.size = 3 := by simpa [Cond.value, given_1] using gc
    obtain ⟨L⟩ := args
    match L, hs with
    | [w0, w1, w2], _ => exact ⟨w0, w1, w2, rfl⟩
  have hw := fun d (hd : d ∈ tables_1) => atoms_spec (ws := Jvm.Cond.code x code maxLocals ret :: tables_1) hat d (List.mem_cons_of_mem _ hd)
  have hfit : Fit s := fun {y c} hc i hi => by
    obtain ⟨ha, rfl⟩ := Array.getElem?_eq_some_iff.mp hc
    have q := List.all_eq_true.mp ((Array.all_eq_true_iff_forall_mem.mp hF) _ (Array.getElem_mem ha)) i (List.mem_range.mpr hi)
    simpa [Array.getElem?_eq_getElem hi] using q
  obtain ⟨i0, ei0⟩ := is_v g0
  obtain rfl : w0 = (.int i0) := Option.some.inj ei0
  obtain ⟨i1, ei1⟩ := is_v g1
  obtain rfl : w1 = (.int i1) := Option.some.inj ei1
  obtain ⟨i2, ei2⟩ := is_v g2
  obtain rfl : w2 = (.int i2) := Option.some.inj ei2
  obtain ⟨n, o, h1, h2, h3, v, L, rfl, hQ, hq⟩ := rm0 l s _ hw tables_1 i0 i1 i2  s.heap s.heap.size (Nat.le_refl _)  p e ha hc hk s m _ below hf ((Spec.applies_iff_loose hf).mp happ).1 ⟨rfl, State.Warmed39.refl s, rfl⟩ trivial
  obtain ⟨rfl, N⟩ := hQ
  rw [show f0_0 = 1 from rfl] at *
  refine ⟨n, _, h1, h2, h3, hpost _ _ _ _ _ _ ⟨Cond.after_iff.mpr rfl, Cond.after_iff.mpr (eq_i res_at (Term.int_eval (1)) rfl)⟩ ⟨hq.1, hq.2.1, (hq.2.2.sift fun y hy => Or.inr (N y hy)).mono (by decide) (by decide)⟩⟩
theorem main_1_1 : Claimed_1_1 := comes_1 fun _ _ _ _ _ _ h hF => ⟨h.1, hF⟩
theorem main_1_2 : Claimed_1_2 := comes_1 fun _ _ _ _ _ _ h hF => ⟨h.2, hF⟩
end Jvm.Pilot.@@N@@
namespace Jvm.Pilot.@@N@@
open Jvm Jvm.ClassFile Sem Op Lib Jvm.Free Jvm.Stand Jvm.Pilot.@@N@@.Jvm.D
/-! MADE BY PROGRAM (witnessworld.py) out of the Statement's table words and the real class files: 9 classes; the members and pool entries that the words name. The judged class is class 1, her method 2. -/
namespace start1
open Jvm.ClassFile
def u (s : String) : CpInfo := .utf8 (stringToUtf16 s)
/-- a pool by its gaps: so many unusable entries, then the entry; so many at the end -/
def gap : Nat → List CpInfo → List CpInfo
  | 0, r => r
  | n + 1, r => .unusable :: gap n r
def poolList (es : List (Nat × CpInfo)) (last : Nat) : List CpInfo := es.foldr (fun e r => gap e.1 (e.2 :: r)) (gap last [])
def pool (es : List (Nat × CpInfo)) (last : Nat) : Array CpInfo := ⟨poolList es last⟩
def fileOf (pool : Array CpInfo) (this : Nat) (attrs : Array Attribute := #[]) (ms : Array MethodInfo := #[]) (fl : Nat := 33) (sup : Nat := 0) (ifs : Array Nat := #[]) (fds : Array FieldInfo := #[]) : ClassFile where
  minorVersion := 0
  majorVersion := 65
  constantPool := pool
  accessFlags := fl
  thisClass := this
  superClass := sup
  interfaces := ifs
  fields := fds
  methods := ms
  attributes := attrs
def plain (name : String) (sup : Option ClassId) : Class where
  name := name
  kind := .ordinary
  loader := none
  accessFlags := 33
  super := sup
  interfaces := #[]
  cf := none
  fields := #[]
  methods := #[]
  instanceTypes := #[]
  staticTypes := #[]
  resolved := #[]
  callSites := []
  init := .initialized
  statics := none
  mirror := none

def pool0 : Array CpInfo := pool [(5, u "<init>"), (0, u "()V"), (1, .class_ 10), (1, u "java/lang/Object")] 113

def k0m0 : Method := { name := "<init>", desc := "()V", sig := { parameters := [], returnType := none }, accessFlags := 1, code := none }
/-- java/lang/Object -/
def k0 : Class := { plain "java/lang/Object" none with
  accessFlags := 33
  interfaces := #[]
  cf := some (fileOf pool0 8 #[] #[{ accessFlags := 1, nameIndex := 5, descriptorIndex := 6, attributes := #[] }] 33 0 #[] #[])
  fields := #[]
  methods := #[k0m0]
  instanceTypes := #[]
  staticTypes := #[]
  resolved := Array.replicate 124 none
  statics := none }

def pool1 : Array CpInfo := pool [(2, .class_ 4), (1, u "java/lang/Object"), (0, u "<init>"), (0, u "()V"), (0, .integer 1114111), (0, .integer 55296), (0, .integer 57343), (0, .integer 65534), (0, .integer 65535), (0, .integer 55295), (0, .integer 57344), (0, .integer 65533), (0, .integer 65536), (0, .integer 1114112), (2, .integer 2147483648), (0, .integer 2147483647), (0, .methodref 22 23), (0, .class_ 24), (0, .nameAndType 25 26), (0, u "com/example/zahlwerk/zahlwerk/io/XmlParser"), (0, u "isCharacter"), (0, u "(I)Z"), (0, .methodref 28 29), (0, .class_ 30), (0, .nameAndType 31 26), (0, u "com/example/zahlwerk/zahlwerk/io/XmlParserIsCharacterPinLaw"), (0, u "reference"), (3, u "law"), (0, u "(III)Z")] 4

def k1m0 : Method := { name := "<init>", desc := "()V", sig := { parameters := [], returnType := none }, accessFlags := 2, code := none }
def k1c1 : Code := { maxStack := 2, maxLocals := 1, code := method_2_code, exceptionTable := #[], attributes := #[] }
def k1m1 : Method := { name := "reference", desc := "(I)Z", sig := { parameters := [.int], returnType := some .boolean }, accessFlags := 10, code := some k1c1 }
def k1c2 : Code := { maxStack := 4, maxLocals := 7, code := code, exceptionTable := #[], attributes := #[] }
def k1m2 : Method := { name := "law", desc := "(III)Z", sig := { parameters := [.int, .int, .int], returnType := some .boolean }, accessFlags := 9, code := some k1c2 }
/-- com/example/zahlwerk/zahlwerk/io/XmlParserIsCharacterPinLaw -/
def k1 : Class := { plain "com/example/zahlwerk/zahlwerk/io/XmlParserIsCharacterPinLaw" (some 0) with
  accessFlags := 49
  interfaces := #[]
  cf := some (fileOf pool1 28 #[] #[{ accessFlags := 2, nameIndex := 5, descriptorIndex := 6, attributes := #[] }, { accessFlags := 10, nameIndex := 31, descriptorIndex := 26, attributes := #[] }, { accessFlags := 9, nameIndex := 35, descriptorIndex := 36, attributes := #[] }] 49 2 #[] #[])
  fields := #[]
  methods := #[k1m0, k1m1, k1m2]
  instanceTypes := #[]
  staticTypes := #[]
  resolved := Array.replicate 41 none
  statics := none }

def pool2 : Array CpInfo := pool [(1, .class_ 2), (0, u "com/example/zahlwerk/zahlwerk/io/XmlParser"), (17, .class_ 21), (0, u "com/example/zahlwerk/zahlwerk/io/XmlParser$Room"), (7, .class_ 31), (1, u "java/lang/Object"), (3, u "mark"), (0, u "I"), (2, u "line"), (1, .class_ 43), (1, u "com/example/zahlwerk/zahlwerk/io/XmlParser$State"), (1, u "Lcom/example/zahlwerk/zahlwerk/io/XmlParser$State;"), (2, u "state"), (4, u "open"), (0, u "[Ljava/lang/String;"), (2, u "bindings"), (2, u "defaultBinding"), (2, u "attributes"), (2, u "rawNames"), (2, u "rawValues"), (2, u "symbols"), (0, u "Lcom/example/zahlwerk/zahlwerk/io/XmlParser$Symbols;"), (2, .class_ 78), (1, u "com/example/zahlwerk/zahlwerk/io/XmlParser$Symbols"), (3, u "buf"), (0, u "[B"), (3, u "text"), (0, u "[C"), (3, u "openBindings"), (0, u "[I"), (3, u "openNumbers"), (3, u "openNames"), (3, u "openNameStarts"), (3, u "openNameExtras"), (3, u "openNameSupplementary"), (3, u "hidden"), (3, u "raw"), (3, u "prefixBindings"), (0, u "Ljava/util/Map;"), (6, u "value"), (0, u "Ljava/lang/StringBuilder;"), (19, u "charset"), (0, u "Ljava/nio/charset/Charset;"), (17, u "source"), (0, u "Ljava/io/InputStream;"), (2, u "transcoded"), (0, u "Lcom/example/zahlwerk/zahlwerk/io/Utf8Input;"), (8, u "filled"), (13, u "stashed"), (0, u "B"), (2, u "current"), (2, u "attributeCount"), (2, u "depth"), (2, u "endedBindings"), (2, u "bindingsUsed"), (31, u "textLength"), (2, u "textCodePointCount"), (2, u "passed"), (0, u "J"), (2, u "pos"), (2, u "lineStart"), (2, u "extra"), (2, u "lineStartExtra"), (2, u "supplementary"), (2, u "lineStartSupplementary"), (2, u "emptyElementEnds"), (0, u "Z"), (8, .class_ 289), (1, u "com/example/zahlwerk/zahlwerk/io/XmlParser$Event"), (7, u "inCdata"), (6, u "(I)Z"), (36, u "NAME"), (66, u "textSinceTag"), (8, u "limit"), (5, u "PLAIN_TEXT"), (0, u "[Z"), (9, u "isCharacter"), (34, .integer 65536), (4, u "sequenceLength"), (43, u "pieceSupplementary"), (8, u "nameColon"), (2, u "markExtra"), (27, u "markOpening"), (2, u "boundColumn"), (97, .integer 55295), (3, .integer 65533), (7, u "PLAIN_VALUE"), (110, u "UTF_8_NAME"), (8, .integer 57344), (0, .integer 1114111), (0, .class_ 794), (0, u "com/example/zahlwerk/zahlwerk/io/XmlParser$XmlException"), (4, .class_ 801), (1, u "com/example/zahlwerk/zahlwerk/io/XmlParser$Problem"), (28, u "boundLine"), (5, u "sourceEnded"), (7, u "UTF_8_BYTE_ORDER_MARK"), (5, u "UTF_16BE_BYTE_ORDER_MARK"), (2, u "UTF_16BE_OPENING"), (5, u "UTF_16LE_BYTE_ORDER_MARK"), (2, u "UTF_16LE_OPENING"), (21, u "DECLARATION_END"), (5, u "DECLARATION_START"), (2, u "ENCODING_SETTING"), (25, u "MAX_DEPTH"), (2, u "MAX_TEXT"), (0, u "MAX_TAG"), (0, u "DEEPER_THAN_BOUND"), (0, u "Ljava/lang/String;"), (0, u "TEXT_BEYOND_BOUND"), (0, u "TAG_BEYOND_BOUND"), (0, u "BUFFER"), (0, u "BYTES_AT_A_TIME"), (1, u "TAG_IN_REACH"), (1, u "HEAD"), (1, u "FIRST_READ"), (1, u "XML_NS"), (0, u "XMLNS_NS"), (0, u "CDATA_START"), (0, u "NOT_QUALIFIED"), (0, u "LOWER_CASE"), (1, u "FEW_ATTRIBUTES"), (1, u "NAME_START"), (1, u "NAME_PART")] 93

def k2c0 : Code := { maxStack := 2, maxLocals := 1, code := prog_77_method_73_code, exceptionTable := #[], attributes := #[] }
def k2m0 : Method := { name := "isCharacter", desc := "(I)Z", sig := { parameters := [.int], returnType := some .boolean }, accessFlags := 8, code := some k2c0 }
/-- com/example/zahlwerk/zahlwerk/io/XmlParser -/
def k2 : Class := { plain "com/example/zahlwerk/zahlwerk/io/XmlParser" (some 0) with
  accessFlags := 48
  interfaces := #[]
  cf := some (fileOf pool2 1 #[.nestMembers #[76, 20, 793, 799, 41, 287]] #[{ accessFlags := 8, nameIndex := 434, descriptorIndex := 304, attributes := #[] }] 48 29 #[] #[{ accessFlags := 24, nameIndex := 919, descriptorIndex := 36, attributes := #[] }, { accessFlags := 24, nameIndex := 922, descriptorIndex := 36, attributes := #[] }, { accessFlags := 24, nameIndex := 923, descriptorIndex := 36, attributes := #[] }, { accessFlags := 26, nameIndex := 924, descriptorIndex := 925, attributes := #[] }, { accessFlags := 26, nameIndex := 926, descriptorIndex := 925, attributes := #[] }, { accessFlags := 26, nameIndex := 927, descriptorIndex := 925, attributes := #[] }, { accessFlags := 26, nameIndex := 928, descriptorIndex := 36, attributes := #[] }, { accessFlags := 26, nameIndex := 929, descriptorIndex := 36, attributes := #[] }, { accessFlags := 26, nameIndex := 931, descriptorIndex := 36, attributes := #[] }, { accessFlags := 26, nameIndex := 933, descriptorIndex := 36, attributes := #[] }, { accessFlags := 26, nameIndex := 935, descriptorIndex := 36, attributes := #[] }, { accessFlags := 26, nameIndex := 844, descriptorIndex := 83, attributes := #[] }, { accessFlags := 26, nameIndex := 850, descriptorIndex := 83, attributes := #[] }, { accessFlags := 26, nameIndex := 859, descriptorIndex := 83, attributes := #[] }, { accessFlags := 26, nameIndex := 853, descriptorIndex := 83, attributes := #[] }, { accessFlags := 26, nameIndex := 862, descriptorIndex := 83, attributes := #[] }, { accessFlags := 26, nameIndex := 890, descriptorIndex := 83, attributes := #[] }, { accessFlags := 26, nameIndex := 884, descriptorIndex := 83, attributes := #[] }, { accessFlags := 26, nameIndex := 893, descriptorIndex := 83, attributes := #[] }, { accessFlags := 26, nameIndex := 937, descriptorIndex := 925, attributes := #[] }, { accessFlags := 26, nameIndex := 938, descriptorIndex := 925, attributes := #[] }, { accessFlags := 26, nameIndex := 939, descriptorIndex := 925, attributes := #[] }, { accessFlags := 26, nameIndex := 940, descriptorIndex := 925, attributes := #[] }, { accessFlags := 26, nameIndex := 782, descriptorIndex := 83, attributes := #[] }, { accessFlags := 26, nameIndex := 941, descriptorIndex := 36, attributes := #[] }, { accessFlags := 26, nameIndex := 943, descriptorIndex := 36, attributes := #[] }, { accessFlags := 26, nameIndex := 945, descriptorIndex := 202, attributes := #[] }, { accessFlags := 26, nameIndex := 947, descriptorIndex := 202, attributes := #[] }, { accessFlags := 26, nameIndex := 341, descriptorIndex := 83, attributes := #[] }, { accessFlags := 26, nameIndex := 423, descriptorIndex := 424, attributes := #[] }, { accessFlags := 26, nameIndex := 671, descriptorIndex := 424, attributes := #[] }, { accessFlags := 18, nameIndex := 154, descriptorIndex := 155, attributes := #[] }, { accessFlags := 18, nameIndex := 173, descriptorIndex := 174, attributes := #[] }, { accessFlags := 18, nameIndex := 177, descriptorIndex := 178, attributes := #[] }, { accessFlags := 18, nameIndex := 82, descriptorIndex := 83, attributes := #[] }, { accessFlags := 2, nameIndex := 259, descriptorIndex := 36, attributes := #[] }, { accessFlags := 2, nameIndex := 417, descriptorIndex := 36, attributes := #[] }, { accessFlags := 2, nameIndex := 187, descriptorIndex := 36, attributes := #[] }, { accessFlags := 2, nameIndex := 201, descriptorIndex := 202, attributes := #[] }, { accessFlags := 2, nameIndex := 836, descriptorIndex := 278, attributes := #[] }, { accessFlags := 2, nameIndex := 35, descriptorIndex := 36, attributes := #[] }, { accessFlags := 2, nameIndex := 558, descriptorIndex := 36, attributes := #[] }, { accessFlags := 2, nameIndex := 830, descriptorIndex := 36, attributes := #[] }, { accessFlags := 2, nameIndex := 561, descriptorIndex := 36, attributes := #[] }, { accessFlags := 2, nameIndex := 255, descriptorIndex := 256, attributes := #[] }, { accessFlags := 2, nameIndex := 262, descriptorIndex := 256, attributes := #[] }, { accessFlags := 2, nameIndex := 39, descriptorIndex := 36, attributes := #[] }, { accessFlags := 2, nameIndex := 265, descriptorIndex := 256, attributes := #[] }, { accessFlags := 2, nameIndex := 268, descriptorIndex := 256, attributes := #[] }, { accessFlags := 2, nameIndex := 530, descriptorIndex := 256, attributes := #[] }, { accessFlags := 2, nameIndex := 271, descriptorIndex := 256, attributes := #[] }, { accessFlags := 2, nameIndex := 274, descriptorIndex := 256, attributes := #[] }, { accessFlags := 2, nameIndex := 474, descriptorIndex := 36, attributes := #[] }, { accessFlags := 18, nameIndex := 72, descriptorIndex := 73, attributes := #[] }, { accessFlags := 2, nameIndex := 48, descriptorIndex := 45, attributes := #[] }, { accessFlags := 2, nameIndex := 277, descriptorIndex := 278, attributes := #[] }, { accessFlags := 2, nameIndex := 297, descriptorIndex := 278, attributes := #[] }, { accessFlags := 18, nameIndex := 53, descriptorIndex := 54, attributes := #[] }, { accessFlags := 18, nameIndex := 92, descriptorIndex := 93, attributes := #[] }, { accessFlags := 18, nameIndex := 97, descriptorIndex := 93, attributes := #[] }, { accessFlags := 2, nameIndex := 211, descriptorIndex := 36, attributes := #[] }, { accessFlags := 2, nameIndex := 101, descriptorIndex := 83, attributes := #[] }, { accessFlags := 18, nameIndex := 105, descriptorIndex := 93, attributes := #[] }, { accessFlags := 18, nameIndex := 109, descriptorIndex := 93, attributes := #[] }, { accessFlags := 18, nameIndex := 113, descriptorIndex := 93, attributes := #[] }, { accessFlags := 2, nameIndex := 57, descriptorIndex := 54, attributes := #[] }, { accessFlags := 2, nameIndex := 117, descriptorIndex := 93, attributes := #[] }, { accessFlags := 2, nameIndex := 217, descriptorIndex := 36, attributes := #[] }, { accessFlags := 2, nameIndex := 214, descriptorIndex := 36, attributes := #[] }, { accessFlags := 2, nameIndex := 60, descriptorIndex := 36, attributes := #[] }, { accessFlags := 18, nameIndex := 125, descriptorIndex := 126, attributes := #[] }, { accessFlags := 2, nameIndex := 205, descriptorIndex := 36, attributes := #[] }, { accessFlags := 2, nameIndex := 63, descriptorIndex := 54, attributes := #[] }, { accessFlags := 2, nameIndex := 208, descriptorIndex := 36, attributes := #[] }, { accessFlags := 2, nameIndex := 121, descriptorIndex := 93, attributes := #[] }, { accessFlags := 2, nameIndex := 66, descriptorIndex := 54, attributes := #[] }, { accessFlags := 2, nameIndex := 69, descriptorIndex := 54, attributes := #[] }, { accessFlags := 18, nameIndex := 133, descriptorIndex := 134, attributes := #[] }, { accessFlags := 2, nameIndex := 527, descriptorIndex := 36, attributes := #[] }, { accessFlags := 2, nameIndex := 87, descriptorIndex := 88, attributes := #[] }, { accessFlags := 2, nameIndex := 249, descriptorIndex := 36, attributes := #[] }, { accessFlags := 2, nameIndex := 252, descriptorIndex := 36, attributes := #[] }, { accessFlags := 2, nameIndex := 518, descriptorIndex := 36, attributes := #[] }, { accessFlags := 2, nameIndex := 408, descriptorIndex := 36, attributes := #[] }])
  fields := #[{ name := "MAX_DEPTH", type := .int, accessFlags := 24, slot := 0, constantValue := 0 }, { name := "MAX_TEXT", type := .int, accessFlags := 24, slot := 1, constantValue := 0 }, { name := "MAX_TAG", type := .int, accessFlags := 24, slot := 2, constantValue := 0 }, { name := "DEEPER_THAN_BOUND", type := (.object "java/lang/String"), accessFlags := 26, slot := 3, constantValue := 0 }, { name := "TEXT_BEYOND_BOUND", type := (.object "java/lang/String"), accessFlags := 26, slot := 4, constantValue := 0 }, { name := "TAG_BEYOND_BOUND", type := (.object "java/lang/String"), accessFlags := 26, slot := 5, constantValue := 0 }, { name := "BUFFER", type := .int, accessFlags := 26, slot := 6, constantValue := 0 }, { name := "BYTES_AT_A_TIME", type := .int, accessFlags := 26, slot := 7, constantValue := 0 }, { name := "TAG_IN_REACH", type := .int, accessFlags := 26, slot := 8, constantValue := 0 }, { name := "HEAD", type := .int, accessFlags := 26, slot := 9, constantValue := 0 }, { name := "FIRST_READ", type := .int, accessFlags := 26, slot := 10, constantValue := 0 }, { name := "UTF_8_BYTE_ORDER_MARK", type := (.array .byte), accessFlags := 26, slot := 11, constantValue := 0 }, { name := "UTF_16BE_BYTE_ORDER_MARK", type := (.array .byte), accessFlags := 26, slot := 12, constantValue := 0 }, { name := "UTF_16LE_BYTE_ORDER_MARK", type := (.array .byte), accessFlags := 26, slot := 13, constantValue := 0 }, { name := "UTF_16BE_OPENING", type := (.array .byte), accessFlags := 26, slot := 14, constantValue := 0 }, { name := "UTF_16LE_OPENING", type := (.array .byte), accessFlags := 26, slot := 15, constantValue := 0 }, { name := "DECLARATION_START", type := (.array .byte), accessFlags := 26, slot := 16, constantValue := 0 }, { name := "DECLARATION_END", type := (.array .byte), accessFlags := 26, slot := 17, constantValue := 0 }, { name := "ENCODING_SETTING", type := (.array .byte), accessFlags := 26, slot := 18, constantValue := 0 }, { name := "XML_NS", type := (.object "java/lang/String"), accessFlags := 26, slot := 19, constantValue := 0 }, { name := "XMLNS_NS", type := (.object "java/lang/String"), accessFlags := 26, slot := 20, constantValue := 0 }, { name := "CDATA_START", type := (.object "java/lang/String"), accessFlags := 26, slot := 21, constantValue := 0 }, { name := "NOT_QUALIFIED", type := (.object "java/lang/String"), accessFlags := 26, slot := 22, constantValue := 0 }, { name := "UTF_8_NAME", type := (.array .byte), accessFlags := 26, slot := 23, constantValue := 0 }, { name := "LOWER_CASE", type := .int, accessFlags := 26, slot := 24, constantValue := 0 }, { name := "FEW_ATTRIBUTES", type := .int, accessFlags := 26, slot := 25, constantValue := 0 }, { name := "NAME_START", type := .byte, accessFlags := 26, slot := 26, constantValue := 0 }, { name := "NAME_PART", type := .byte, accessFlags := 26, slot := 27, constantValue := 0 }, { name := "NAME", type := (.array .byte), accessFlags := 26, slot := 28, constantValue := 0 }, { name := "PLAIN_TEXT", type := (.array .boolean), accessFlags := 26, slot := 29, constantValue := 0 }, { name := "PLAIN_VALUE", type := (.array .boolean), accessFlags := 26, slot := 30, constantValue := 0 }, { name := "charset", type := (.object "java/nio/charset/Charset"), accessFlags := 18, slot := 0, constantValue := 0 }, { name := "source", type := (.object "java/io/InputStream"), accessFlags := 18, slot := 1, constantValue := 0 }, { name := "transcoded", type := (.object "com/example/zahlwerk/zahlwerk/io/Utf8Input"), accessFlags := 18, slot := 2, constantValue := 0 }, { name := "buf", type := (.array .byte), accessFlags := 18, slot := 3, constantValue := 0 }, { name := "pos", type := .int, accessFlags := 2, slot := 4, constantValue := 0 }, { name := "limit", type := .int, accessFlags := 2, slot := 5, constantValue := 0 }, { name := "filled", type := .int, accessFlags := 2, slot := 6, constantValue := 0 }, { name := "stashed", type := .byte, accessFlags := 2, slot := 7, constantValue := 0 }, { name := "sourceEnded", type := .boolean, accessFlags := 2, slot := 8, constantValue := 0 }, { name := "mark", type := .int, accessFlags := 2, slot := 9, constantValue := 0 }, { name := "markOpening", type := .int, accessFlags := 2, slot := 10, constantValue := 0 }, { name := "boundLine", type := .int, accessFlags := 2, slot := 11, constantValue := 0 }, { name := "boundColumn", type := .int, accessFlags := 2, slot := 12, constantValue := 0 }, { name := "passed", type := .long, accessFlags := 2, slot := 13, constantValue := 0 }, { name := "lineStart", type := .long, accessFlags := 2, slot := 14, constantValue := 0 }, { name := "line", type := .int, accessFlags := 2, slot := 15, constantValue := 0 }, { name := "extra", type := .long, accessFlags := 2, slot := 16, constantValue := 0 }, { name := "lineStartExtra", type := .long, accessFlags := 2, slot := 17, constantValue := 0 }, { name := "markExtra", type := .long, accessFlags := 2, slot := 18, constantValue := 0 }, { name := "supplementary", type := .long, accessFlags := 2, slot := 19, constantValue := 0 }, { name := "lineStartSupplementary", type := .long, accessFlags := 2, slot := 20, constantValue := 0 }, { name := "sequenceLength", type := .int, accessFlags := 2, slot := 21, constantValue := 0 }, { name := "symbols", type := (.object "com/example/zahlwerk/zahlwerk/io/XmlParser$Symbols"), accessFlags := 18, slot := 22, constantValue := 0 }, { name := "state", type := (.object "com/example/zahlwerk/zahlwerk/io/XmlParser$State"), accessFlags := 2, slot := 23, constantValue := 0 }, { name := "emptyElementEnds", type := .boolean, accessFlags := 2, slot := 24, constantValue := 0 }, { name := "inCdata", type := .boolean, accessFlags := 2, slot := 25, constantValue := 0 }, { name := "open", type := (.array (.object "java/lang/String")), accessFlags := 18, slot := 26, constantValue := 0 }, { name := "openBindings", type := (.array .int), accessFlags := 18, slot := 27, constantValue := 0 }, { name := "openNumbers", type := (.array .int), accessFlags := 18, slot := 28, constantValue := 0 }, { name := "depth", type := .int, accessFlags := 2, slot := 29, constantValue := 0 }, { name := "openNames", type := (.array .byte), accessFlags := 2, slot := 30, constantValue := 0 }, { name := "openNameStarts", type := (.array .int), accessFlags := 18, slot := 31, constantValue := 0 }, { name := "openNameExtras", type := (.array .int), accessFlags := 18, slot := 32, constantValue := 0 }, { name := "openNameSupplementary", type := (.array .int), accessFlags := 18, slot := 33, constantValue := 0 }, { name := "bindings", type := (.array (.object "java/lang/String")), accessFlags := 2, slot := 34, constantValue := 0 }, { name := "hidden", type := (.array .int), accessFlags := 2, slot := 35, constantValue := 0 }, { name := "bindingsUsed", type := .int, accessFlags := 2, slot := 36, constantValue := 0 }, { name := "endedBindings", type := .int, accessFlags := 2, slot := 37, constantValue := 0 }, { name := "defaultBinding", type := .int, accessFlags := 2, slot := 38, constantValue := 0 }, { name := "prefixBindings", type := (.object "java/util/Map"), accessFlags := 18, slot := 39, constantValue := 0 }, { name := "current", type := .int, accessFlags := 2, slot := 40, constantValue := 0 }, { name := "attributes", type := (.array (.object "java/lang/String")), accessFlags := 2, slot := 41, constantValue := 0 }, { name := "attributeCount", type := .int, accessFlags := 2, slot := 42, constantValue := 0 }, { name := "raw", type := (.array .int), accessFlags := 2, slot := 43, constantValue := 0 }, { name := "rawNames", type := (.array (.object "java/lang/String")), accessFlags := 2, slot := 44, constantValue := 0 }, { name := "rawValues", type := (.array (.object "java/lang/String")), accessFlags := 2, slot := 45, constantValue := 0 }, { name := "value", type := (.object "java/lang/StringBuilder"), accessFlags := 18, slot := 46, constantValue := 0 }, { name := "nameColon", type := .int, accessFlags := 2, slot := 47, constantValue := 0 }, { name := "text", type := (.array .char), accessFlags := 2, slot := 48, constantValue := 0 }, { name := "textLength", type := .int, accessFlags := 2, slot := 49, constantValue := 0 }, { name := "textCodePointCount", type := .int, accessFlags := 2, slot := 50, constantValue := 0 }, { name := "pieceSupplementary", type := .int, accessFlags := 2, slot := 51, constantValue := 0 }, { name := "textSinceTag", type := .int, accessFlags := 2, slot := 52, constantValue := 0 }]
  methods := #[k2m0]
  instanceTypes := #[(.object "java/nio/charset/Charset"), (.object "java/io/InputStream"), (.object "com/example/zahlwerk/zahlwerk/io/Utf8Input"), (.array .byte), .int, .int, .int, .byte, .boolean, .int, .int, .int, .int, .long, .long, .int, .long, .long, .long, .long, .long, .int, (.object "com/example/zahlwerk/zahlwerk/io/XmlParser$Symbols"), (.object "com/example/zahlwerk/zahlwerk/io/XmlParser$State"), .boolean, .boolean, (.array (.object "java/lang/String")), (.array .int), (.array .int), .int, (.array .byte), (.array .int), (.array .int), (.array .int), (.array (.object "java/lang/String")), (.array .int), .int, .int, .int, (.object "java/util/Map"), .int, (.array (.object "java/lang/String")), .int, (.array .int), (.array (.object "java/lang/String")), (.array (.object "java/lang/String")), (.object "java/lang/StringBuilder"), .int, (.array .char), .int, .int, .int, .int]
  staticTypes := #[.int, .int, .int, (.object "java/lang/String"), (.object "java/lang/String"), (.object "java/lang/String"), .int, .int, .int, .int, .int, (.array .byte), (.array .byte), (.array .byte), (.array .byte), (.array .byte), (.array .byte), (.array .byte), (.array .byte), (.object "java/lang/String"), (.object "java/lang/String"), (.object "java/lang/String"), (.object "java/lang/String"), (.array .byte), .int, .int, .byte, .byte, (.array .byte), (.array .boolean), (.array .boolean)]
  resolved := Array.replicate 1041 none
  statics := none }

def pool3 : Array CpInfo := pool [(1, u "java/lang/Cloneable"), (0, .class_ 1), (0, u "java/lang/Object"), (0, .class_ 3)] 3

/-- java/lang/Cloneable -/
def k3 : Class := { plain "java/lang/Cloneable" (some 0) with
  accessFlags := 1537
  interfaces := #[]
  cf := some (fileOf pool3 2 #[] #[] 1537 4 #[] #[])
  fields := #[]
  methods := #[]
  instanceTypes := #[]
  staticTypes := #[]
  resolved := Array.replicate 8 none
  statics := none }

def pool4 : Array CpInfo := pool [(1, u "java/io/Serializable"), (0, .class_ 1), (0, u "java/lang/Object"), (0, .class_ 3)] 3

/-- java/io/Serializable -/
def k4 : Class := { plain "java/io/Serializable" (some 0) with
  accessFlags := 1537
  interfaces := #[]
  cf := some (fileOf pool4 2 #[] #[] 1537 4 #[] #[])
  fields := #[]
  methods := #[]
  instanceTypes := #[]
  staticTypes := #[]
  resolved := Array.replicate 8 none
  statics := none }

/-- the primitive byte -/
def k5 : Class := { plain "byte" none with kind := .primitive 'B', accessFlags := 0x411 }
/-- [B -/
def k6 : Class := { plain "[B" (some 0) with kind := .array 5 .byte, interfaces := #[3, 4], accessFlags := 1041 }

/-- the primitive int -/
def k7 : Class := { plain "int" none with kind := .primitive 'I', accessFlags := 0x411 }
/-- [I -/
def k8 : Class := { plain "[I" (some 0) with kind := .array 7 .int, interfaces := #[3, 4], accessFlags := 1041 }

def heap : Heap := #[]
def classes : Array Class := #[k0, k1, k2, k3, k4, k5, k6, k7, k8]
def interned : List (Array UInt16 × Addr) := []
def slotsUsed : Nat := 0
def theMethod : MethodId := ⟨1, 2⟩
def args0 : Array Value := #[.int 65, .int 3, .int 2]
def aboutOver (below : List Frame) : State where
  vm := { classes := classes, interned := interned.toArray }
  heap := heap
  slotsUsed := slotsUsed
  threads := #[{ frames := .invoking theMethod args0 :: below }]
def below0 : List Frame := [.native { method := ⟨0, 0⟩, args := #[] }]
def about1 : State := aboutOver below0
def p0 : Program := .bare "" "" ""
def e0 : Env := launch0.env 0 0 0
theorem w_frames : about1.frames = Frame.invoking theMethod args0 :: below0 := rfl
set_option maxRecDepth 65536 in
theorem w_args : argsFit about1.vm theMethod args0 = true := by decide +kernel
set_option maxRecDepth 65536 in
theorem w_heap : heapFits about1 = true := by decide +kernel
set_option maxRecDepth 65536 in
theorem w_runnable : about1.curStatus? = some .runnable := by decide +kernel
set_option maxRecDepth 65536 in
theorem w_alone : about1.alone = true := by decide +kernel
set_option maxRecDepth 65536 in
theorem w_named : about1.methodNamed? x = some theMethod := by decide +kernel
set_option maxRecDepth 65536 in
theorem w_hears : about1.hears theMethod below0 = true := by decide +kernel
set_option maxRecDepth 65536 in
theorem w_ripe : about1.ripe theMethod args0 below0 = true := by decide +kernel
theorem w_running : about1.status = .running := rfl
set_option maxRecDepth 65536 in
theorem w_room : about1.hasRoom e0.platform room_1 = true :=
  launch0.hasRoom_least _ room_1 (by decide +kernel) (by decide +kernel) (by decide +kernel) (by decide +kernel) (by decide +kernel) (by decide +kernel)
theorem allAtoms_all (ts : List Jvm.Cond) (a : Array Jvm.Value) (st : Jvm.State) : (allAtoms ts).before a st = ts.all (fun c => c.before a st) := by
  induction ts with
  | nil => rfl
  | cons c t ih =>
    show (Jvm.Cond.and c (allAtoms t)).before a st = _
    rw [Jvm.Cond.before_and, ih, List.all_cons]
def words1 : List Jvm.Cond := Jvm.Cond.code x code maxLocals ret :: tables_1
/-- a 'code' word, met by the world's own term for the bytes: nothing is compared byte by byte -/
theorem code_word {y : MethodName} {bytes : ByteArray} {mx : Nat} {rt : Option FieldType} {a : Array Value} {s : State} {m : MethodId} {meth : Method} {c : Code} (h1 : s.methodNamed? y = some m) (h2 : s.vm.method? m = some meth) (h3 : meth.code = some c) (h4 : c.code = bytes)
    (h5 : (c.maxLocals == mx && c.exceptionTable.isEmpty && decide (c.maxStack ≤ mostOperands) && decide (meth.sig.returnType = rt) && !meth.locks && decide (parseMethodDescriptor y.desc = some meth.sig)) = true) : (Jvm.Cond.code y bytes mx rt).before a s = true := by
  simp only [Bool.and_eq_true, beq_iff_eq, Bool.not_eq_true', decide_eq_true_eq] at h5
  obtain ⟨⟨⟨⟨⟨g1, g2⟩, g3⟩, g4⟩, g5⟩, g6⟩ := h5
  simp [Cond.before, Cond.holds, Cond.value, h1, h2, h3, h4, g1, g2, g3, g4, g5, g6]
def isCode : Jvm.Cond → Bool
  | .code _ _ _ _ => true
  | _ => false
theorem all_split {L : List Jvm.Cond} {P : Jvm.Cond → Bool} (h1 : L.all (fun c => isCode c || P c) = true) (h2 : ∀ c ∈ L.filter isCode, P c = true) : L.all P = true := by
  refine List.all_eq_true.mpr fun c hc => ?_
  have h := List.all_eq_true.mp h1 c hc
  rcases Bool.eq_false_or_eq_true (isCode c) with hi | hi
  · exact h2 c (List.mem_filter.mpr ⟨hc, hi⟩)
  · simpa [hi] using h
set_option maxRecDepth 65536 in
theorem w_c0 : (Jvm.Cond.code x code maxLocals ret).before args0 about1 = true := code_word (m := ⟨1, 2⟩) (meth := k1m2) (c := k1c2) (by decide +kernel) rfl rfl rfl (by decide +kernel)
set_option maxRecDepth 65536 in
theorem w_c1 : (Jvm.Cond.code ({ cls := "com/example/zahlwerk/zahlwerk/io/XmlParser", name := "isCharacter", desc := "(I)Z" } : Jvm.MethodName) prog_77_method_73_code (1 : Nat) (Option.some Jvm.ClassFile.FieldType.boolean)).before args0 about1 = true := code_word (m := ⟨2, 0⟩) (meth := k2m0) (c := k2c0) (by decide +kernel) rfl rfl rfl (by decide +kernel)
set_option maxRecDepth 65536 in
theorem w_c2 : (Jvm.Cond.code ({ cls := "com/example/zahlwerk/zahlwerk/io/XmlParserIsCharacterPinLaw", name := "reference", desc := "(I)Z" } : Jvm.MethodName) method_2_code (1 : Nat) (Option.some Jvm.ClassFile.FieldType.boolean)).before args0 about1 = true := code_word (m := ⟨1, 1⟩) (meth := k1m1) (c := k1c1) (by decide +kernel) rfl rfl rfl (by decide +kernel)
def codes1 : List Jvm.Cond := [Jvm.Cond.code x code maxLocals ret, Jvm.Cond.code ({ cls := "com/example/zahlwerk/zahlwerk/io/XmlParser", name := "isCharacter", desc := "(I)Z" } : Jvm.MethodName) prog_77_method_73_code (1 : Nat) (Option.some Jvm.ClassFile.FieldType.boolean), Jvm.Cond.code ({ cls := "com/example/zahlwerk/zahlwerk/io/XmlParserIsCharacterPinLaw", name := "reference", desc := "(I)Z" } : Jvm.MethodName) method_2_code (1 : Nat) (Option.some Jvm.ClassFile.FieldType.boolean)]
set_option maxRecDepth 65536 in
theorem codes_eq : words1.filter isCode = codes1 := rfl
theorem w_codes : ∀ c ∈ words1.filter isCode, c.before args0 about1 = true := by
  rw [codes_eq]
  intro c hc
  simp only [codes1, List.mem_cons, List.not_mem_nil, or_false] at hc
  rcases hc with rfl | rfl | rfl
  · exact w_c0
  · exact w_c1
  · exact w_c2
set_option maxRecDepth 65536 in
theorem w_t1 : (words1.take 24).all (fun c => isCode c || c.before args0 about1) = true := by decide +kernel
set_option maxRecDepth 65536 in
theorem w_t2 : (words1.drop 24).all (fun c => isCode c || c.before args0 about1) = true := by decide +kernel
theorem w_tables : (allAtoms (Jvm.Cond.code x code maxLocals ret :: tables_1)).before args0 about1 = true := by
  rw [allAtoms_all]
  show words1.all (fun c => c.before args0 about1) = true
  refine all_split ?_ w_codes
  rw [← List.take_append_drop 24 words1, List.all_append, w_t1, w_t2]
  rfl
set_option maxRecDepth 65536 in
theorem w_case : (Jvm.Cond.and given_1 narrow_1).before args0 about1 = true := by decide +kernel
theorem w_applies : (headSpec (Jvm.Cond.code x code maxLocals ret :: tables_1) room_1).applies x e0.platform about1 = true :=
  (Spec.applies_iff w_frames).mpr ⟨w_running, w_runnable, w_alone, w_named, w_hears, w_ripe, w_room, w_tables⟩
theorem atStart : AtStart classFile x code maxLocals ret World_1 tables_1 room_1 Calls_1 rest_1 Pre_1 launch0 p0 e0 about1 theMethod args0 below0 :=
  ⟨lists_1, trivial, launch0.admits_env _ _ _, launch0.least_env, fairChoices_fair.cas, fairChoices_fair.clock, w_frames, w_args, w_heap, w_applies, trivial, trivial, w_case⟩
end start1
theorem witness_1 : WitnessClaimed_1 := ⟨start1.p0, start1.e0, start1.about1, start1.theMethod, start1.args0, start1.below0, start1.atStart⟩
end Jvm.Pilot.@@N@@
