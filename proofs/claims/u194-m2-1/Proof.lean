import JvmDerived
import JvmDerived.Pilot.@@N@@Statement
import JvmDerived.Pilot.@@N@@Code
set_option linter.unusedVariables false
set_option linter.unusedSimpArgs false
namespace Jvm.Pilot.@@N@@
open Jvm Jvm.ClassFile Sem Op Lib Jvm.Free Jvm.Stand Jvm.LawKit Jvm.RoadKit Bundle Jvm.Pilot.@@N@@.Jvm.D
/-! from a frame on, the body comes to its end as Q says -/
section OwnKit
variable {p : Program} {l : Launch} {e : Env} {R : Room} {s : State} {m : MethodId} {args : Array Value} {below : List Frame} {meth : Method} {c : Code} {T T' : State} {locs : List Loc} {cells slots C D : Nat} {Q Q' : Option Value → Heap → List Loc → Prop} {g g' : JFrame}
def Go (p : Program) (e : Env) (below : List Frame) (s : State) (C D : Nat) (Q : Option Value → Heap → List Loc → Prop) (T : State) (g : JFrame) : Prop :=
  ∃ u o, Steps p.tables e below (T.setTop g) u ∧ u.status = .running ∧ Ended u below o ∧ ∃ v L, o = .returned v ∧ Q v u.heap L ∧ FrameEnd s o u L C D
def PureQ (r : Value) (h0 : Heap) (v : Option Value) (h : Heap) (L : List Loc) : Prop := v = some r ∧ L = [] ∧ h = h0
theorem Go.step (k : ∀ t, Steps p.tables e below (T'.setTop g') t → Steps p.tables e below (T.setTop g) t) (h : Go p e below s C D Q T' g') : Go p e below s C D Q T g := by
  obtain ⟨u, o, h1, r⟩ := h
  exact ⟨u, o, k _ h1, r⟩
theorem Go.mono (h : Go p e below s C D Q T g) (q : ∀ v h L, Q v h L → Q' v h L) : Go p e below s C D Q' T g := by
  obtain ⟨u, o, h1, h2, h3, v, L, h4, h5, h6⟩ := h
  exact ⟨u, o, h1, h2, h3, v, L, h4, q _ _ _ h5, h6⟩
theorem Go.retN (X : Stand p l e R s m args below meth c T locs cells slots) (hx : p.tables.exec = Jvm.exec) (hlk : meth.locks = false) {pc : Nat} {Ls : Array Slot} {z : Int32} {t : FieldType} {rest : List Value} (hret : meth.sig.returnType = some t) (ht : t = .boolean ∨ t = .byte ∨ t = .char ∨ t = .short)
    (hd : decode c.code pc = .ok (.ireturn, 1)) (hC : cells ≤ C) (hD : slots ≤ D) (hq : Q (some (.int (nar t z))) T.heap locs) : Go p e below s C D Q T (mkF m pc Ls (.int z :: rest)) := by
  obtain ⟨fs, hr, hrun, hended, hW, hsame⟩ := X.leave (v := some (.int (nar t z))) (fun h => by rw [hret] at h; cases h) hlk
  exact ⟨_, _, Jvm.RoadKit.retN X hx hret ht hd hr, hrun, hended, _, _, rfl, hq, ⟨_, rfl⟩, hW, hsame.mono hC hD⟩
theorem Go.retW (X : Stand p l e R s m args below meth c T locs cells slots) (hx : p.tables.exec = Jvm.exec) (hlk : meth.locks = false) {pc : Nat} {Ls : Array Slot} {w : Value} {t : FieldType} {i : Instr} {rest : List Value} (hret : meth.sig.returnType = some t) (hn : narrow t w = w)
    (hi : (i = .ireturn ∧ (t = .int ∨ t = .boolean ∨ t = .byte ∨ t = .char ∨ t = .short) ∧ ∃ z, w = .int z) ∨ (i = .lreturn ∧ t = .long ∧ ∃ z, w = .long z) ∨ (i = .dreturn ∧ t = .double ∧ ∃ z, w = .double z) ∨ (i = .freturn ∧ t = .float ∧ ∃ z, w = .float z) ∨ (i = .areturn ∧ t.isReference = true ∧ w.isRef = true))
    (hd : decode c.code pc = .ok (i, 1)) (hC : cells ≤ C) (hD : slots ≤ D) (hq : Q (some w) T.heap locs) : Go p e below s C D Q T (mkF m pc Ls (w :: rest)) := by
  obtain ⟨fs, hr, hrun, hended, hW, hsame⟩ := X.leave (v := some w) (fun h => by rw [hret] at h; cases h) hlk
  exact ⟨_, _, retOut X hx hret hn hi hd hr, hrun, hended, _, _, rfl, hq, ⟨_, rfl⟩, hW, hsame.mono hC hD⟩
theorem Go.ret0 (X : Stand p l e R s m args below meth c T locs cells slots) (hx : p.tables.exec = Jvm.exec) (hlk : meth.locks = false) {pc : Nat} {Ls : Array Slot} (hret : meth.sig.returnType = none)
    (hd : decode c.code pc = .ok (.return_, 1)) (hC : cells ≤ C) (hD : slots ≤ D) (hq : Q none T.heap locs) : Go p e below s C D Q T (mkF m pc Ls []) := by
  obtain ⟨fs, hr, hrun, hended, hW, hsame⟩ := X.leave (v := none) (fun _ => rfl) hlk
  exact ⟨_, _, X.returnOut hx hret hd hr, hrun, hended, _, _, rfl, hq, ⟨_, rfl⟩, hW, hsame.mono hC hD⟩
end OwnKit
theorem pd_0 : parseMethodDescriptor "(JJ)J" = some ⟨[.long, .long], some .long⟩ := by decide +kernel
theorem pd_1 : parseMethodDescriptor "(IID)D" = some ⟨[.int, .int, .double], some .double⟩ := by decide +kernel
section OwnHeap
variable {p : Program} {l : Launch} {e : Env} {R : Room} {s : State} {m : MethodId} {args : Array Value} {below : List Frame} {meth : Method} {c : Code} {T : State} {locs : List Loc} {cells slots n0 : Nat}
variable {Z : State} {h h' : Heap} {a b : Addr} {ty : FieldType} {n sl : Nat} {f : Nat → Value} {v : Value} {ws : List Addr} {j : Int32} {gf : JFrame} {rest : List Value}
def IA (Z : State) (h : Heap) (a : Addr) (ty : FieldType) (n : Nat) (f : Nat → Value) : Prop := ∃ c : Cell, Arr Z h a c ty ∧ c.slots.size = n ∧ ∀ k, k < n → c.slots[k]? = some (f k)
def upd {α : Type} (g : Nat → α) (j : Nat) (v : α) (k : Nat) : α := if k = j then v else g k
theorem IA.lt (F : IA Z h a ty n f) : a < h.size := by obtain ⟨c, A, -⟩ := F; exact A.lt
theorem IA.ext (F : IA Z h a ty n f) (E : Ext h h') : IA Z h' a ty n f := by obtain ⟨c, A, r⟩ := F; exact ⟨c, A.ext E, r⟩
theorem IA.other (F : IA Z h b ty n f) (W : Wr h h' a sl v) (q : b ≠ a) : IA Z h' b ty n f := by obtain ⟨c, A, r⟩ := F; exact ⟨c, A.other W q, r⟩
theorem IA.keep (F : IA Z h a ty n f) (K : Keep h h' ws) (q : a ∉ ws) : IA Z h' a ty n f := by obtain ⟨c, A, r⟩ := F; exact ⟨c, ⟨K.2.1 a c A.1 q, A.2⟩, r⟩
theorem IA.of_new {k : ClassId} {z : Int32} (A : Arr Z h a (newA k ty z) ty) (hn : z.toNatClampNeg = n) : IA Z h a ty n (fun _ => defaultValue ty) :=
  ⟨_, A, (sz_new _ _ _).trans hn, fun i hi => by subst hn; simp [newA, hi]⟩
theorem IA.set {c : Cell} {F : Nat → Value} (A : Arr Z h a c ty) (S : c.slots.size = n) (H : ∀ k, k < n → c.slots[k]? = some (F k)) (hj : ¬ (j < 0 ∨ n ≤ j.toNatClampNeg)) (W : Wr h h' a j.toNatClampNeg v) : IA Z h' a ty n (upd F j.toNatClampNeg v) := by
  refine ⟨_, A.same W, (sz_set _ _ _).trans S, fun k hk => ?_⟩
  by_cases q : k = j.toNatClampNeg
  · subst q; simp [Cell.setSlot, upd, S, hk]
  · simp only [Cell.setSlot, upd, if_neg q]
    rw [Array.getElem?_setIfInBounds_ne (Ne.symm q)]; exact H k hk
theorem IA.cong {f' : Nat → Value} (F : IA Z h a ty n f) (q : ∀ k, k < n → f k = f' k) : IA Z h a ty n f' := by
  obtain ⟨c, A, S, H⟩ := F; exact ⟨c, A, S, fun k hk => by rw [H k hk, q k hk]⟩
theorem own_pack (X : Stand p l e R s m args below meth c T locs cells slots) (N : Fr n0 locs) : ∃ lc, Stand p l e R s m args below meth c T lc cells slots ∧ Fr n0 lc := ⟨_, X, N⟩
theorem own_more {C D : Nat} (X : Stand p l e R s m args below meth c T locs cells slots) (hC : cells ≤ C) (hD : slots ≤ D) : Stand p l e R s m args below meth c T locs C D := X.more hC hD
theorem putAI {g : Nat → Int32} {x : Int32} (X : Stand p l e R s m args below meth c T locs cells slots) (hx : p.tables.exec = Jvm.exec) (hZ : Z.Warmed39 s.vm) (eT : T.heap = h) (F : IA Z h a .int n (fun k => .int (g k))) (hj : ¬ (j < 0 ∨ n ≤ j.toNatClampNeg)) (N : Fr n0 locs) (ha : n0 ≤ a) (hg : gf.method = m) (hs : gf.stack = .int x :: .int j :: .ref a :: rest) (hd : decode c.code gf.pc = .ok (.iastore, 1)) :
    ∃ T' h' lc, Stand p l e R s m args below meth c T' lc cells slots ∧ T'.heap = h' ∧ Wr h h' a j.toNatClampNeg (.int x) ∧ Fr n0 lc ∧ IA Z h' a .int n (fun k => .int (upd g j.toNatClampNeg x k)) ∧ ∀ target, Steps p.tables e below (T'.setTop { gf with pc := gf.pc + 1, stack := rest }) target → Steps p.tables e below (T.setTop gf) target := by
  obtain ⟨cl, A, S, H⟩ := F
  obtain ⟨T', h', X', e', W, st⟩ := stI X hx hZ eT A (j := j) (x := x) (by rw [S]; exact hj) hg hs hd
  exact ⟨T', h', _, X', e', W, Fr.snoc X' N ha, (IA.set A S H hj W).cong fun k _ => by simp only [upd]; split <;> rfl, st⟩
theorem putAJ {g : Nat → Int64} {x : Int64} (X : Stand p l e R s m args below meth c T locs cells slots) (hx : p.tables.exec = Jvm.exec) (hZ : Z.Warmed39 s.vm) (eT : T.heap = h) (F : IA Z h a .long n (fun k => .long (g k))) (hj : ¬ (j < 0 ∨ n ≤ j.toNatClampNeg)) (N : Fr n0 locs) (ha : n0 ≤ a) (hg : gf.method = m) (hs : gf.stack = .long x :: .int j :: .ref a :: rest) (hd : decode c.code gf.pc = .ok (.lastore, 1)) :
    ∃ T' h' lc, Stand p l e R s m args below meth c T' lc cells slots ∧ T'.heap = h' ∧ Wr h h' a j.toNatClampNeg (.long x) ∧ Fr n0 lc ∧ IA Z h' a .long n (fun k => .long (upd g j.toNatClampNeg x k)) ∧ ∀ target, Steps p.tables e below (T'.setTop { gf with pc := gf.pc + 1, stack := rest }) target → Steps p.tables e below (T.setTop gf) target := by
  obtain ⟨cl, A, S, H⟩ := F
  obtain ⟨T', h', X', e', W, st⟩ := stJ X hx hZ eT A (j := j) (x := x) (by rw [S]; exact hj) hg hs hd
  exact ⟨T', h', _, X', e', W, Fr.snoc X' N ha, (IA.set A S H hj W).cong fun k _ => by simp only [upd]; split <;> rfl, st⟩
theorem putAC {g : Nat → Int32} {x : Int32} (X : Stand p l e R s m args below meth c T locs cells slots) (hx : p.tables.exec = Jvm.exec) (hZ : Z.Warmed39 s.vm) (eT : T.heap = h) (F : IA Z h a .char n (fun k => .int (g k))) (hj : ¬ (j < 0 ∨ n ≤ j.toNatClampNeg)) (N : Fr n0 locs) (ha : n0 ≤ a) (hg : gf.method = m) (hs : gf.stack = .int x :: .int j :: .ref a :: rest) (hd : decode c.code gf.pc = .ok (.castore, 1)) :
    ∃ T' h' lc, Stand p l e R s m args below meth c T' lc cells slots ∧ T'.heap = h' ∧ Wr h h' a j.toNatClampNeg (.int (nar .char x)) ∧ Fr n0 lc ∧ IA Z h' a .char n (fun k => .int (upd g j.toNatClampNeg (nar .char x) k)) ∧ ∀ target, Steps p.tables e below (T'.setTop { gf with pc := gf.pc + 1, stack := rest }) target → Steps p.tables e below (T.setTop gf) target := by
  obtain ⟨cl, A, S, H⟩ := F
  obtain ⟨T', h', X', e', W, st⟩ := stC X hx hZ eT A (j := j) (x := x) (by rw [S]; exact hj) hg hs hd
  exact ⟨T', h', _, X', e', W, Fr.snoc X' N ha, (IA.set A S H hj W).cong fun k _ => by simp only [upd]; split <;> rfl, st⟩
theorem putAB {g : Nat → Int32} {x : Int32} (X : Stand p l e R s m args below meth c T locs cells slots) (hx : p.tables.exec = Jvm.exec) (hZ : Z.Warmed39 s.vm) (eT : T.heap = h) (F : IA Z h a .byte n (fun k => .int (g k))) (hj : ¬ (j < 0 ∨ n ≤ j.toNatClampNeg)) (N : Fr n0 locs) (ha : n0 ≤ a) (hg : gf.method = m) (hs : gf.stack = .int x :: .int j :: .ref a :: rest) (hd : decode c.code gf.pc = .ok (.bastore, 1)) :
    ∃ T' h' lc, Stand p l e R s m args below meth c T' lc cells slots ∧ T'.heap = h' ∧ Wr h h' a j.toNatClampNeg (.int (nar .byte x)) ∧ Fr n0 lc ∧ IA Z h' a .byte n (fun k => .int (upd g j.toNatClampNeg (nar .byte x) k)) ∧ ∀ target, Steps p.tables e below (T'.setTop { gf with pc := gf.pc + 1, stack := rest }) target → Steps p.tables e below (T.setTop gf) target := by
  obtain ⟨cl, A, S, H⟩ := F
  obtain ⟨T', h', X', e', W, st⟩ := stB X hx hZ eT A (j := j) (x := x) (by rw [S]; exact hj) hg hs hd
  exact ⟨T', h', _, X', e', W, Fr.snoc X' N ha, (IA.set A S H hj W).cong fun k _ => by simp only [upd]; split <;> rfl, st⟩
theorem putAD {g : Nat → UInt64} {x : UInt64} (X : Stand p l e R s m args below meth c T locs cells slots) (hx : p.tables.exec = Jvm.exec) (hZ : Z.Warmed39 s.vm) (eT : T.heap = h) (F : IA Z h a .double n (fun k => .double (g k))) (hj : ¬ (j < 0 ∨ n ≤ j.toNatClampNeg)) (N : Fr n0 locs) (ha : n0 ≤ a) (hg : gf.method = m) (hs : gf.stack = .double x :: .int j :: .ref a :: rest) (hd : decode c.code gf.pc = .ok (.dastore, 1)) :
    ∃ T' h' lc, Stand p l e R s m args below meth c T' lc cells slots ∧ T'.heap = h' ∧ Wr h h' a j.toNatClampNeg (.double x) ∧ Fr n0 lc ∧ IA Z h' a .double n (fun k => .double (upd g j.toNatClampNeg x k)) ∧ ∀ target, Steps p.tables e below (T'.setTop { gf with pc := gf.pc + 1, stack := rest }) target → Steps p.tables e below (T.setTop gf) target := by
  obtain ⟨cl, A, S, H⟩ := F
  have hj' : ¬ (j < 0 ∨ cl.slots.size ≤ j.toNatClampNeg) := by rw [S]; exact hj
  obtain ⟨X', st⟩ := X.dastore hx (x := x) (by rw [eT]; exact A.1) (State.isArrayOf_alike hZ.alike A.2.1) A.2.2 hj' hg hs hd
  have W : Wr h (T.setCell a (cl.setSlot j.toNatClampNeg (.double x))).heap a j.toNatClampNeg (.double x) := ⟨cl, A.1, A.plain, Nat.lt_of_not_le fun q => hj' (Or.inr q), by rw [← eT]; rfl⟩
  exact ⟨_, _, _, X', rfl, W, Fr.snoc X' N ha, (IA.set A S H hj W).cong fun k _ => by simp only [upd]; split <;> rfl, st⟩
theorem getAI {g : Nat → Int32} {t : State} (X : Stand p l e R s m args below meth c T locs cells slots) (hx : p.tables.exec = Jvm.exec) (hZ : Z.Warmed39 s.vm) (eT : T.heap = h) (F : IA Z h a .int n (fun k => .int (g k))) (hj : ¬ (j < 0 ∨ n ≤ j.toNatClampNeg)) (hg : gf.method = m) (hs : gf.stack = .int j :: .ref a :: rest) (hd : decode c.code gf.pc = .ok (.iaload, 1))
    (hr : Steps p.tables e below (T.setTop { gf with pc := gf.pc + 1, stack := .int (g j.toNatClampNeg) :: rest }) t) : Steps p.tables e below (T.setTop gf) t := by
  obtain ⟨cl, A, S, H⟩ := F
  exact X.iaload hx (by rw [eT]; exact A.1) (State.isArrayOf_alike hZ.alike A.2.1) A.2.2 (by rw [S]; exact hj) (H _ (Nat.lt_of_not_le fun q => hj (Or.inr q))) hg hs hd _ hr
theorem getAJ {g : Nat → Int64} {t : State} (X : Stand p l e R s m args below meth c T locs cells slots) (hx : p.tables.exec = Jvm.exec) (hZ : Z.Warmed39 s.vm) (eT : T.heap = h) (F : IA Z h a .long n (fun k => .long (g k))) (hj : ¬ (j < 0 ∨ n ≤ j.toNatClampNeg)) (hg : gf.method = m) (hs : gf.stack = .int j :: .ref a :: rest) (hd : decode c.code gf.pc = .ok (.laload, 1))
    (hr : Steps p.tables e below (T.setTop { gf with pc := gf.pc + 1, stack := .long (g j.toNatClampNeg) :: rest }) t) : Steps p.tables e below (T.setTop gf) t := by
  obtain ⟨cl, A, S, H⟩ := F
  exact X.laload hx (by rw [eT]; exact A.1) (State.isArrayOf_alike hZ.alike A.2.1) A.2.2 (by rw [S]; exact hj) (H _ (Nat.lt_of_not_le fun q => hj (Or.inr q))) hg hs hd _ hr
theorem getAC {g : Nat → Int32} {t : State} (X : Stand p l e R s m args below meth c T locs cells slots) (hx : p.tables.exec = Jvm.exec) (hZ : Z.Warmed39 s.vm) (eT : T.heap = h) (F : IA Z h a .char n (fun k => .int (g k))) (hj : ¬ (j < 0 ∨ n ≤ j.toNatClampNeg)) (hg : gf.method = m) (hs : gf.stack = .int j :: .ref a :: rest) (hd : decode c.code gf.pc = .ok (.caload, 1))
    (hr : Steps p.tables e below (T.setTop { gf with pc := gf.pc + 1, stack := .int (g j.toNatClampNeg) :: rest }) t) : Steps p.tables e below (T.setTop gf) t := by
  obtain ⟨cl, A, S, H⟩ := F
  exact X.caload hx (by rw [eT]; exact A.1) (State.isArrayOf_alike hZ.alike A.2.1) A.2.2 (by rw [S]; exact hj) (H _ (Nat.lt_of_not_le fun q => hj (Or.inr q))) hg hs hd _ hr
theorem getAB {g : Nat → Int32} {t : State} (X : Stand p l e R s m args below meth c T locs cells slots) (hx : p.tables.exec = Jvm.exec) (hZ : Z.Warmed39 s.vm) (eT : T.heap = h) (F : IA Z h a .byte n (fun k => .int (g k))) (hj : ¬ (j < 0 ∨ n ≤ j.toNatClampNeg)) (hg : gf.method = m) (hs : gf.stack = .int j :: .ref a :: rest) (hd : decode c.code gf.pc = .ok (.baload, 1))
    (hr : Steps p.tables e below (T.setTop { gf with pc := gf.pc + 1, stack := .int (g j.toNatClampNeg) :: rest }) t) : Steps p.tables e below (T.setTop gf) t := by
  obtain ⟨cl, A, S, H⟩ := F
  exact X.baloadBytes hx (by rw [eT]; exact A.1) (State.isArrayOf_alike hZ.alike A.2.1) A.2.2 (by rw [S]; exact hj) (H _ (Nat.lt_of_not_le fun q => hj (Or.inr q))) hg hs hd _ hr
theorem getAD {g : Nat → UInt64} {t : State} (X : Stand p l e R s m args below meth c T locs cells slots) (hx : p.tables.exec = Jvm.exec) (hZ : Z.Warmed39 s.vm) (eT : T.heap = h) (F : IA Z h a .double n (fun k => .double (g k))) (hj : ¬ (j < 0 ∨ n ≤ j.toNatClampNeg)) (hg : gf.method = m) (hs : gf.stack = .int j :: .ref a :: rest) (hd : decode c.code gf.pc = .ok (.daload, 1))
    (hr : Steps p.tables e below (T.setTop { gf with pc := gf.pc + 1, stack := .double (g j.toNatClampNeg) :: rest }) t) : Steps p.tables e below (T.setTop gf) t := by
  obtain ⟨cl, A, S, H⟩ := F
  exact X.daload hx (by rw [eT]; exact A.1) (State.isArrayOf_alike hZ.alike A.2.1) A.2.2 (by rw [S]; exact hj) (H _ (Nat.lt_of_not_le fun q => hj (Or.inr q))) hg hs hd _ hr
theorem getLen {t : State} {z : Int32} (X : Stand p l e R s m args below meth c T locs cells slots) (hx : p.tables.exec = Jvm.exec) (hZ : Z.Warmed39 s.vm) (eT : T.heap = h) (F : IA Z h a ty n f) (hz : n.toInt32 = z) (hg : gf.method = m) (hs : gf.stack = .ref a :: rest) (hd : decode c.code gf.pc = .ok (.arraylength, 1))
    (hr : Steps p.tables e below (T.setTop { gf with pc := gf.pc + 1, stack := .int z :: rest }) t) : Steps p.tables e below (T.setTop gf) t := by
  obtain ⟨cl, A, S, H⟩ := F
  exact X.arraylength hx (by rw [eT]; exact A.1) (State.isArrayOf_alike hZ.alike A.2.1) hg hs hd _ (by rw [S, hz]; exact hr)
end OwnHeap
section OwnMono
open Jvm.FP.Core
/-- rounding is monotone: A / B ≤ A' / B', both in units of the least number -/
theorem own_mono {A B A' B' : Nat} (hB : 0 < B) (hB' : 0 < B') (h : A * B' ≤ A' * B) {t t' : Bool} {c c' : Nat} {q q' : Int}
    (hV : roundRatio b64 false A B b64.qmin = .fin t c q) (hV' : roundRatio b64 false A' B' b64.qmin = .fin t' c' q') : inUnits c q b64.qmin ≤ inUnits c' q' b64.qmin := by
  have f1 : Jvm.FP.Core.fits b64 (.fin t c q) := hV ▸ roundRatio_fits good_b64 false A hB b64.qmin
  have f2 : Jvm.FP.Core.fits b64 (.fin t' c' q') := hV' ▸ roundRatio_fits good_b64 false A' hB' b64.qmin
  have le1 := zmag_roundRatio_le good_b64 (s := false) (A := A) (B := B) (e := b64.qmin) (e0 := b64.qmin) hB f2 (by intro q; cases q) (Int.le_refl _) (Int.le_refl _)
  have ge1 := zmag_roundRatio_ge good_b64 (s := false) (A := A') (B := B') (e := b64.qmin) (e0 := b64.qmin) hB' f1 (Int.le_refl _) (Int.le_refl _)
  have n1 := roundRatio_nearest good_b64 hB hV f2.1 f2.2.1 (Int.le_refl _) (Int.le_refl _)
  have n2 := roundRatio_nearest good_b64 hB' hV' f1.1 f1.2.1 (Int.le_refl _) (Int.le_refl _)
  rw [hV] at le1
  rw [hV'] at ge1
  change _ → inUnits c q b64.qmin ≤ inUnits c' q' b64.qmin at le1
  change _ → inUnits c q b64.qmin ≤ inUnits c' q' b64.qmin at ge1
  change inUnits A b64.qmin b64.qmin ≤ inUnits c' q' b64.qmin * _ * B → _ at le1
  change inUnits c q b64.qmin * _ * B' ≤ inUnits A' b64.qmin b64.qmin → _ at ge1
  unfold distance at n1 n2
  have u : ∀ a, inUnits a b64.qmin b64.qmin = a := fun a => by unfold inUnits; rw [Int.sub_self]; exact Nat.mul_one a
  rw [u] at le1 ge1 n1 n2
  rw [Int.sub_self, show (2 : Nat) ^ (0 : Int).toNat = 1 from rfl, Nat.mul_one] at le1 ge1
  rcases Nat.lt_or_ge (inUnits c' q' b64.qmin) (inUnits c q b64.qmin) with hlt | hge
  · have he : ¬ A * B' = A' * B := by
      intro e
      have k := roundRatio_congr (f := b64) (s := false) (e := b64.qmin) (e' := b64.qmin) hB hB' (by rw [Int.sub_self]; exact congrArg (· * _) e)
      rw [hV, hV'] at k
      cases k
      exact absurd hlt (Nat.lt_irrefl _)
    generalize inUnits c q b64.qmin = n at *
    generalize inUnits c' q' b64.qmin = n' at *
    exfalso
    have a1 : n' * B < A := by
      rcases Nat.lt_or_ge (n' * B) A with g | g
      · exact g
      · have := le1 g; omega
    have a2 : A' < n * B' := by
      rcases Nat.lt_or_ge A' (n * B') with g | g
      · exact g
      · have := ge1 g; omega
    have b1 : A * B' < n * B * B' := by
      have := (Nat.mul_lt_mul_right hB).mpr a2
      rw [Nat.mul_right_comm] at this
      omega
    have b2 : A < n * B := Nat.lt_of_mul_lt_mul_right b1
    have b3 : n' * B' * B < A' * B := by
      have := (Nat.mul_lt_mul_right hB').mpr a1
      rw [Nat.mul_right_comm] at this
      omega
    have b4 : n' * B' < A' := Nat.lt_of_mul_lt_mul_right b3
    rw [← Int.natCast_mul, ← Int.natCast_mul] at n1 n2
    have c1 : n * B + n' * B ≤ 2 * A := by omega
    have c2 : 2 * A' ≤ n * B' + n' * B' := by omega
    have d1 := Nat.mul_le_mul_right B' c1
    have d2 := Nat.mul_le_mul_right B c2
    rw [Nat.add_mul] at d1 d2
    rw [Nat.mul_assoc 2] at d1 d2
    rw [Nat.mul_right_comm n B' B, Nat.mul_right_comm n' B' B] at d2
    omega
  · exact hge
/-- x is the number n times the least number, with the sign + -/
def Ps (x : UInt64) (n : Nat) : Prop := ∃ c q, val64 x = .fin false c q ∧ inUnits c q b64.qmin = n
theorem own_qm : b64.qmin = -1074 := by decide
theorem own_up {s : Bool} {c : Nat} {q : Int} (h : b64.qmin ≤ q) : roundRatio b64 s c 1 q = roundRatio b64 s (inUnits c q b64.qmin) 1 b64.qmin := by
  apply roundRatio_congr (by decide) (by decide)
  rw [show (b64.qmin - q).toNat = 0 by omega]
  unfold inUnits; simp
theorem own_padd {x y : UInt64} {n m : Nat} (hx : Ps x n) (hy : Ps y m) : val64 (FP.dadd x y) = roundRatio b64 false (n + m) 1 b64.qmin := by
  obtain ⟨c, q, h1, rfl⟩ := hx
  obtain ⟨d, r, h2, rfl⟩ := hy
  have f1 : Jvm.FP.Core.fits b64 (.fin false c q) := h1 ▸ val64_fits x
  have f2 : Jvm.FP.Core.fits b64 (.fin false d r) := h2 ▸ val64_fits y
  obtain ⟨sg, k, e, h3, h4, h5⟩ := sum_units f1 f2
  have hs : sg = false := by
    have := congrArg Jvm.FP.Core.sgn h3
    rw [show Jvm.FP.Core.sgn (.fin sg k e) = sg from rfl] at this
    rw [← this]
    show sumSign false false (sumUnits false c q false d r (min q r)) = false
    unfold sumSign sumUnits signed
    simp only [Bool.false_eq_true, if_false, Bool.and_self]
    split
    · rfl
    · simp; omega
  subst hs
  rw [val64_dadd, h1, h2, h3]
  show roundRatio b64 false k 1 e = _
  rw [own_up h4]
  have e5 : (inUnits k e b64.qmin : Int) = (inUnits c q b64.qmin : Int) + (inUnits d r b64.qmin : Int) := h5
  rw [show inUnits k e b64.qmin = inUnits c q b64.qmin + inUnits d r b64.qmin by omega]
theorem own_pmul {x y : UInt64} {n m : Nat} (hx : Ps x n) (hy : Ps y m) : val64 (FP.dmul x y) = roundRatio b64 false (n * m) (2 ^ 1074) b64.qmin := by
  obtain ⟨c, q, h1, rfl⟩ := hx
  obtain ⟨d, r, h2, rfl⟩ := hy
  have f1 : Jvm.FP.Core.fits b64 (.fin false c q) := h1 ▸ val64_fits x
  have f2 : Jvm.FP.Core.fits b64 (.fin false d r) := h2 ▸ val64_fits y
  have g1 := f1.2.1
  have g2 := f2.2.1
  rw [val64_dmul, h1, h2]
  show roundRatio b64 false (c * d) 1 (q + r) = _
  apply roundRatio_congr (by decide) (Nat.two_pow_pos _)
  unfold inUnits
  rw [own_qm] at g1 g2 ⊢
  rw [Nat.mul_one, Nat.mul_assoc (c * d), ← Nat.pow_add, Nat.mul_mul_mul_comm c, ← Nat.pow_add, Nat.mul_assoc (c * d), ← Nat.pow_add]
  congr 2
  omega
theorem own_ac (c d a b a' b' : Nat) (h : a + b = a' + 1074 + b') : c * (d * 2 ^ a) * 2 ^ b = c * 2 ^ a' * 2 ^ 1074 * d * 2 ^ b' := by
  have e : 2 ^ a * 2 ^ b = 2 ^ a' * 2 ^ 1074 * 2 ^ b' := by rw [← Nat.pow_add, ← Nat.pow_add, ← Nat.pow_add, h]
  generalize 2 ^ a = w1 at *
  generalize 2 ^ b = w2 at *
  generalize 2 ^ a' = w3 at *
  generalize 2 ^ 1074 = w4 at *
  generalize 2 ^ b' = w5 at *
  calc c * (d * w1) * w2 = c * d * (w1 * w2) := by ac_rfl
    _ = c * d * (w3 * w4 * w5) := by rw [e]
    _ = c * w3 * w4 * d * w5 := by ac_rfl
theorem own_pdiv {x y : UInt64} {n m : Nat} (hx : Ps x n) (hy : Ps y m) (hm : 0 < m) : val64 (FP.ddiv x y) = roundRatio b64 false (n * 2 ^ 1074) m b64.qmin := by
  obtain ⟨c, q, h1, rfl⟩ := hx
  obtain ⟨d, r, h2, rfl⟩ := hy
  have f1 : Jvm.FP.Core.fits b64 (.fin false c q) := h1 ▸ val64_fits x
  have f2 : Jvm.FP.Core.fits b64 (.fin false d r) := h2 ▸ val64_fits y
  have g1 := f1.2.1
  have g2 := f2.2.1
  have hd : 0 < d := by
    rcases Nat.eq_zero_or_pos d with z | z
    · subst z; unfold inUnits at hm; rw [Nat.zero_mul] at hm; exact absurd hm (Nat.lt_irrefl _)
    · exact z
  rw [val64_ddiv, h1, h2]
  show (if d = 0 then (if c = 0 then Datum.nan else .inf (false != false)) else roundRatio b64 (false != false) c d (q - r)) = _
  rw [if_neg (by omega)]
  apply roundRatio_congr hd hm
  unfold inUnits
  rw [own_qm] at g1 g2 ⊢
  exact own_ac c d _ _ _ _ (by omega)
/-- what is at most 2^k rounds to at most 2^k; likewise at least -/
theorem own_pw (k : Nat) (hk : k ≤ 2000) : ∃ c q, Jvm.FP.Core.fits b64 (.fin false c q) ∧ inUnits c q b64.qmin = 2 ^ k := by
  obtain ⟨c', q', h1, h2⟩ := round_exact good_b64 false (c := 1) (q := (k : Int) - 1074) (by decide) (by rw [own_qm]; omega) (by rw [show b64.qmax = 971 from by decide +kernel]; omega)
  refine ⟨c', q', h1 ▸ round_fits good_b64 _, ?_⟩
  rw [h2, own_qm]; unfold inUnits
  rw [show ((k : Int) - 1074 - -1074).toNat = k by omega, Nat.one_mul]
theorem own_fin {A B k : Nat} (hB : 0 < B) (hk : k ≤ 2000) (h : A ≤ 2 ^ k * B) : ∃ c q, roundRatio b64 false A B b64.qmin = .fin false c q ∧ inUnits c q b64.qmin ≤ 2 ^ k := by
  obtain ⟨c', q', f, e⟩ := own_pw k hk
  have u : inUnits A b64.qmin b64.qmin = A := by unfold inUnits; rw [Int.sub_self]; exact Nat.mul_one A
  have le1 := zmag_roundRatio_le good_b64 (s := false) (A := A) (B := B) (e := b64.qmin) (e0 := b64.qmin) hB f (by intro q; cases q) (Int.le_refl _) (Int.le_refl _) (by
    show inUnits A b64.qmin b64.qmin ≤ inUnits c' q' b64.qmin * _ * B
    rw [u, e, Int.sub_self, show (2 : Nat) ^ (0 : Int).toNat = 1 from rfl, Nat.mul_one]; exact h)
  have hs := sgn_roundRatio b64 false A B b64.qmin
  cases hv : roundRatio b64 false A B b64.qmin with
  | nan => exact absurd hv (roundRatio_ne_nan _ _ _ _ _)
  | inf s =>
    rw [hv] at le1
    exfalso
    have l : b64.tails * 2 ^ (b64.exps - 2) ≤ inUnits c' q' b64.qmin := le1
    rw [e, show b64.tails = 2 ^ 52 from by decide, show b64.exps - 2 = 2046 from by decide, ← Nat.pow_add] at l
    exact absurd ((Nat.pow_le_pow_iff_right (by decide : 1 < 2)).mp l) (by omega)
  | fin s c q =>
    rw [hv] at le1 hs
    cases hs
    exact ⟨c, q, rfl, e ▸ le1⟩
theorem own_lo2 {A B k : Nat} (hB : 0 < B) (hk : k ≤ 2000) (h : 2 ^ k * B ≤ A) {c : Nat} {q : Int} (hv : roundRatio b64 false A B b64.qmin = .fin false c q) : 2 ^ k ≤ inUnits c q b64.qmin := by
  obtain ⟨c', q', f, e⟩ := own_pw k hk
  have u : inUnits A b64.qmin b64.qmin = A := by unfold inUnits; rw [Int.sub_self]; exact Nat.mul_one A
  have ge1 := zmag_roundRatio_ge good_b64 (s := false) (A := A) (B := B) (e := b64.qmin) (e0 := b64.qmin) hB f (Int.le_refl _) (Int.le_refl _) (by
    show inUnits c' q' b64.qmin * _ * B ≤ inUnits A b64.qmin b64.qmin
    rw [u, e, Int.sub_self, show (2 : Nat) ^ (0 : Int).toNat = 1 from rfl, Nat.mul_one]; exact h)
  rw [hv] at ge1
  exact e ▸ ge1
/-- n = c * 2^j is a number of the format -/
theorem own_rep (c j : Nat) (hc : c < 9007199254740992) (hj : j ≤ 2000) : ∃ c' q', Jvm.FP.Core.fits b64 (.fin false c' q') ∧ inUnits c' q' b64.qmin = c * 2 ^ j := by
  obtain ⟨c', q', h1, h2⟩ := round_exact good_b64 false (c := c) (q := (j : Int) - 1074) (by rw [show (2 : Nat) ^ b64.p = 9007199254740992 from by decide +kernel]; exact hc) (by rw [own_qm]; omega) (by rw [show b64.qmax = 971 from by decide +kernel]; omega)
  refine ⟨c', q', h1 ▸ round_fits good_b64 _, ?_⟩
  rw [h2, own_qm]; unfold inUnits
  rw [show ((j : Int) - 1074 - -1074).toNat = j by omega]
theorem own_le {A B n c j : Nat} (hB : 0 < B) (hc : c < 9007199254740992) (hj : j ≤ 2000) (hn : n = c * 2 ^ j) (h : A ≤ n * B) {c' : Nat} {q' : Int} (hv : roundRatio b64 false A B b64.qmin = .fin false c' q') : inUnits c' q' b64.qmin ≤ n := by
  obtain ⟨d, r, f, e⟩ := own_rep c j hc hj
  have u : inUnits A b64.qmin b64.qmin = A := by unfold inUnits; rw [Int.sub_self]; exact Nat.mul_one A
  have le1 := zmag_roundRatio_le good_b64 (s := false) (A := A) (B := B) (e := b64.qmin) (e0 := b64.qmin) hB f (by intro q; cases q) (Int.le_refl _) (Int.le_refl _) (by
    show inUnits A b64.qmin b64.qmin ≤ inUnits d r b64.qmin * _ * B
    rw [u, e, ← hn, Int.sub_self, show (2 : Nat) ^ (0 : Int).toNat = 1 from rfl, Nat.mul_one]; exact h)
  rw [hv] at le1
  rw [hn, ← e]; exact le1
theorem own_ge {A B n c j : Nat} (hB : 0 < B) (hc : c < 9007199254740992) (hj : j ≤ 2000) (hn : n = c * 2 ^ j) (h : n * B ≤ A) {c' : Nat} {q' : Int} (hv : roundRatio b64 false A B b64.qmin = .fin false c' q') : n ≤ inUnits c' q' b64.qmin := by
  obtain ⟨d, r, f, e⟩ := own_rep c j hc hj
  have u : inUnits A b64.qmin b64.qmin = A := by unfold inUnits; rw [Int.sub_self]; exact Nat.mul_one A
  have ge1 := zmag_roundRatio_ge good_b64 (s := false) (A := A) (B := B) (e := b64.qmin) (e0 := b64.qmin) hB f (Int.le_refl _) (Int.le_refl _) (by
    show inUnits d r b64.qmin * _ * B ≤ inUnits A b64.qmin b64.qmin
    rw [u, e, ← hn, Int.sub_self, show (2 : Nat) ^ (0 : Int).toNat = 1 from rfl, Nat.mul_one]; exact h)
  rw [hv] at ge1
  rw [hn, ← e]; exact ge1
/-- x is the rounding of A / B, and n is what came out -/
def Rd (x : UInt64) (A B n : Nat) : Prop := 0 < B ∧ val64 x = roundRatio b64 false A B b64.qmin ∧ Ps x n
theorem Rd.mk {x : UInt64} {A B k : Nat} (hB : 0 < B) (hv : val64 x = roundRatio b64 false A B b64.qmin) (hk : k ≤ 2000) (h : A ≤ 2 ^ k * B) : ∃ n, n ≤ 2 ^ k ∧ Rd x A B n := by
  obtain ⟨c, q, h1, h2⟩ := own_fin hB hk h
  exact ⟨_, h2, hB, hv, c, q, hv.trans h1, rfl⟩
theorem Rd.le {x : UInt64} {A B n v c j : Nat} (R : Rd x A B n) (hc : c < 9007199254740992) (hj : j ≤ 2000) (hn : v = c * 2 ^ j) (h : A ≤ v * B) : n ≤ v := by
  obtain ⟨hB, hv, c', q', h1, rfl⟩ := R
  exact own_le hB hc hj hn h (hv.symm.trans h1)
theorem Rd.ge {x : UInt64} {A B n v c j : Nat} (R : Rd x A B n) (hc : c < 9007199254740992) (hj : j ≤ 2000) (hn : v = c * 2 ^ j) (h : v * B ≤ A) : v ≤ n := by
  obtain ⟨hB, hv, c', q', h1, rfl⟩ := R
  exact own_ge hB hc hj hn h (hv.symm.trans h1)
theorem Rd.exact {x : UInt64} {A B n v c j : Nat} (R : Rd x A B n) (hc : c < 9007199254740992) (hj : j ≤ 2000) (hn : v = c * 2 ^ j) (h : A = v * B) : n = v :=
  Nat.le_antisymm (R.le hc hj hn (Nat.le_of_eq h)) (R.ge hc hj hn (Nat.le_of_eq h.symm))
theorem Rd.mono {x y : UInt64} {A B n A' B' n' : Nat} (R : Rd x A B n) (R' : Rd y A' B' n') (h : A * B' ≤ A' * B) : n ≤ n' := by
  obtain ⟨hB, hv, c, q, h1, rfl⟩ := R
  obtain ⟨hB', hv', c', q', h1', rfl⟩ := R'
  exact own_mono hB hB' h (hv.symm.trans h1) (hv'.symm.trans h1')
theorem Rd.uniq {x y : UInt64} {A B n n' : Nat} (R : Rd x A B n) (R' : Rd y A B n') : n = n' := Nat.le_antisymm (R.mono R' (Nat.le_refl _)) (R'.mono R (Nat.le_refl _))
theorem Ps.nn {x : UInt64} {n : Nat} (h : Ps x n) : val64 x ≠ .nan := by
  obtain ⟨c, q, h, -⟩ := h; rw [h]; intro q; cases q
theorem Ps.noNaN {x : UInt64} {n : Nat} (h : Ps x n) : Jvm.Free.Fl.NoNaN64 x := (Jvm.Free.Fl.noNaN64_iff x).mpr ((ne_nan x).mp h.nn)
theorem Ps.zv {x : UInt64} {n : Nat} (h : Ps x n) : zval b64 (val64 x) = n := by
  obtain ⟨c, q, h, rfl⟩ := h; rw [h]; rfl
theorem Ps.cmp {x y : UInt64} {n m : Nat} (hx : Ps x n) (hy : Ps y m) : FP.dcmp x y = some (compare (n : Int) (m : Int)) := by
  have h := order_zval good_b64 (val64_fits x) (val64_fits y) hx.nn hy.nn
  rw [hx.zv, hy.zv] at h; exact h
theorem Ps.eq0 {x y : UInt64} {n : Nat} (hx : Ps x n) (hy : Ps y n) (o : CmpOp) : cmpValue (FP.dcmp x y) o = 0 := by
  rw [hx.cmp hy, show compare (n : Int) (n : Int) = .eq by simp [compare, compareOfLessAndEq]]; rfl
theorem Ps.gt {x y : UInt64} {n m : Nat} (hx : Ps x n) (hy : Ps y m) (h : m < n) (o : CmpOp) : cmpValue (FP.dcmp x y) o = 1 := by
  rw [hx.cmp hy, show compare (n : Int) (m : Int) = .gt by simp [compare, compareOfLessAndEq, show ¬ (n : Int) < m by omega, show ¬ (n : Int) = m by omega]]; rfl
theorem Ps.lt {x y : UInt64} {n m : Nat} (hx : Ps x n) (hy : Ps y m) (h : n < m) (o : CmpOp) : cmpValue (FP.dcmp x y) o = -1 := by
  rw [hx.cmp hy, show compare (n : Int) (m : Int) = .lt by simp [compare, compareOfLessAndEq, show (n : Int) < m by omega]]; rfl
theorem Ps.ofI {z : Int32} {f : Nat} (e : z.toInt = f) : Ps (FP.i2d z) (f * 2 ^ 1074) := by
  have hf : f < 2147483648 := by have := z.toInt_lt; omega
  have hv : val64 (FP.i2d z) = roundRatio b64 false (f * 2 ^ 1074) 1 b64.qmin := by
    rw [show val64 (FP.i2d z) = round b64 (ofInt z.toInt) from val64_i2d z, e]
    show roundRatio b64 (decide ((f : Int) < 0)) (f : Int).natAbs 1 0 = _
    rw [show decide ((f : Int) < 0) = false by simp, Int.natAbs_natCast, own_up (by rw [own_qm]; decide), own_qm]
    rfl
  obtain ⟨n, -, R⟩ := Rd.mk (by decide) hv (k := 1110) (by decide) (by
    rw [Nat.mul_one, show (1110 : Nat) = 36 + 1074 from rfl, Nat.pow_add]
    exact Nat.mul_le_mul_right _ (by omega))
  have := R.exact (c := f) (j := 1074) (by omega) (by decide) rfl (Nat.mul_one _).symm
  rw [this] at R
  exact R.2.2
theorem own_ex {x : UInt64} {A B v c j : Nat} (hB : 0 < B) (hv : val64 x = roundRatio b64 false A B b64.qmin) (hc : c < 9007199254740992) (hj : j ≤ 1900) (hn : v = c * 2 ^ j) (h : A = v * B) : Rd x A B v := by
  obtain ⟨n, -, R⟩ := Rd.mk hB hv (k := 53 + j) (by omega) (by
    rw [h, hn, Nat.pow_add]
    exact Nat.mul_le_mul_right _ (Nat.mul_le_mul_right _ (Nat.le_trans (Nat.le_of_lt hc) (by decide))))
  have := R.exact hc (by omega) hn h
  rw [this] at R; exact R
theorem own_W : Ps 4604930618986332160 (3 * 2 ^ 1072) := ⟨3 * 2 ^ 51, -53, by decide +kernel, by rw [own_qm]; unfold inUnits; rw [show ((-53 : Int) - -1074).toNat = 1021 from by decide, Nat.mul_assoc, ← Nat.pow_add]⟩
theorem own_Q : Ps 4598175219545276416 (2 ^ 1072) := ⟨2 ^ 52, -54, by decide +kernel, by rw [own_qm]; unfold inUnits; rw [show ((-54 : Int) - -1074).toNat = 1020 from by decide, ← Nat.pow_add]⟩
theorem own_K : Ps 4608083138725491507 (5404319552844595 * 2 ^ 1022) := ⟨5404319552844595, -52, by decide +kernel, by rw [own_qm]; unfold inUnits; rw [show ((-52 : Int) - -1074).toNat = 1022 from by decide]⟩
theorem own_K4 : Ps 4599075939470750515 (5404319552844595 * 2 ^ 1020) := ⟨5404319552844595, -54, by decide +kernel, by rw [own_qm]; unfold inUnits; rw [show ((-54 : Int) - -1074).toNat = 1020 from by decide]⟩
theorem own_U : (2 : Nat) ^ 1074 = 4 * 2 ^ 1072 := by rw [show (1074 : Nat) = 2 + 1072 from rfl, Nat.pow_add]
theorem own_KU : 2 ^ 1074 ≤ 5404319552844595 * 2 ^ 1022 ∧ 5404319552844595 * 2 ^ 1022 ≤ 2 ^ 1075 := by
  rw [show (1074 : Nat) = 52 + 1022 from rfl, show (1075 : Nat) = 53 + 1022 from rfl, Nat.pow_add, Nat.pow_add]
  exact ⟨Nat.mul_le_mul_right _ (by decide), Nat.mul_le_mul_right _ (by decide)⟩
/-- the six steps of tfPart -/
def Tf (f l : Int32) (mn : UInt64) (fN lN mN n2 n3 n4 n5 nr : Nat) : Prop :=
  Rd (FP.ddiv (FP.dmul 4604930618986332160 (FP.i2d l)) mn) (3 * lN * 2 ^ 1072 * 2 ^ 1074) (mN * 2 ^ 1074) n2 ∧
  Rd (FP.dadd 4598175219545276416 (FP.ddiv (FP.dmul 4604930618986332160 (FP.i2d l)) mn)) (2 ^ 1072 + n2) 1 n3 ∧
  Rd (FP.dmul 4608083138725491507 (FP.dadd 4598175219545276416 (FP.ddiv (FP.dmul 4604930618986332160 (FP.i2d l)) mn))) (5404319552844595 * 2 ^ 1022 * n3) (2 ^ 1074) n4 ∧
  Rd (FP.dadd (FP.i2d f) (FP.dmul 4608083138725491507 (FP.dadd 4598175219545276416 (FP.ddiv (FP.dmul 4604930618986332160 (FP.i2d l)) mn)))) (fN * 2 ^ 1074 + n4) 1 n5 ∧
  Rd (FP.ddiv (FP.i2d f) (FP.dadd (FP.i2d f) (FP.dmul 4608083138725491507 (FP.dadd 4598175219545276416 (FP.ddiv (FP.dmul 4604930618986332160 (FP.i2d l)) mn))))) (fN * 2 ^ 1074 * 2 ^ 1074) n5 nr ∧
  2 ^ 1072 ≤ n4 ∧ (4 * fN + 1) * 2 ^ 1072 ≤ n5 ∧ n5 ≤ 2 ^ 1108
theorem own_x1 {l : Int32} {lN : Nat} (hl : l.toInt = lN) : Rd (FP.dmul 4604930618986332160 (FP.i2d l)) (3 * 2 ^ 1072 * (lN * 2 ^ 1074)) (2 ^ 1074) (3 * lN * 2 ^ 1072) := by
  have hf : lN < 2147483648 := by have := l.toInt_lt; omega
  refine own_ex (c := 3 * lN) (j := 1072) (Nat.two_pow_pos _) (own_pmul own_W (Ps.ofI hl)) (by omega) (by decide) rfl ?_
  generalize 2 ^ 1072 = V
  generalize 2 ^ 1074 = U
  ac_rfl
theorem own_tf {f l : Int32} {mn : UInt64} {fN lN mN : Nat} (hf : f.toInt = fN) (hl : l.toInt = lN) (hm : Ps mn (mN * 2 ^ 1074)) (h1 : 1 ≤ mN) : ∃ n2 n3 n4 n5 nr, Tf f l mn fN lN mN n2 n3 n4 n5 nr := by
  have bf : fN < 2147483648 := by have := f.toInt_lt; omega
  have bl : lN < 2147483648 := by have := l.toInt_lt; omega
  have pm : 0 < mN * 2 ^ 1074 := Nat.mul_pos h1 (Nat.two_pow_pos _)
  obtain ⟨n2, u2, R2⟩ := Rd.mk pm (own_pdiv (own_x1 hl).2.2 hm pm) (k := 1105) (by decide) (by
    rw [show (1105 : Nat) = 33 + 1072 from rfl, Nat.pow_add]
    have e : 3 * lN ≤ 2 ^ 33 * mN := Nat.le_trans (show 3 * lN ≤ 2 ^ 33 * 1 by omega) (Nat.mul_le_mul_left _ h1)
    have := Nat.mul_le_mul_right (2 ^ 1074) (Nat.mul_le_mul_right (2 ^ 1072) e)
    generalize 2 ^ 1072 = V at *
    generalize 2 ^ 1074 = U at *
    generalize 2 ^ 33 = W at *
    rw [show W * V * (mN * U) = W * mN * V * U by ac_rfl]; exact this)
  obtain ⟨n3, u3, R3⟩ := Rd.mk (by decide) (own_padd own_Q R2.2.2) (k := 1106) (by decide) (by
    rw [show (1105 : Nat) = 33 + 1072 from rfl, Nat.pow_add] at u2
    rw [show (1106 : Nat) = 34 + 1072 from rfl, Nat.pow_add]
    generalize 2 ^ 1072 = V at *
    omega)
  have l3 : 2 ^ 1072 ≤ n3 := R3.ge (c := 1) (j := 1072) (by decide) (by decide) (Nat.one_mul _).symm (by rw [Nat.mul_one]; exact Nat.le_add_right _ _)
  obtain ⟨n4, u4, R4⟩ := Rd.mk (Nat.two_pow_pos _) (own_pmul own_K R3.2.2) (k := 1107) (by decide) (by
    have := Nat.mul_le_mul own_KU.2 u3
    rw [← Nat.pow_add] at this ⊢
    exact this)
  have l4 : 2 ^ 1072 ≤ n4 := R4.ge (c := 1) (j := 1072) (by decide) (by decide) (Nat.one_mul _).symm (by
    have := Nat.mul_le_mul own_KU.1 l3
    rw [Nat.mul_comm]; exact this)
  obtain ⟨n5, u5, R5⟩ := Rd.mk (by decide) (own_padd (Ps.ofI hf) R4.2.2) (k := 1108) (by decide) (by
    rw [show (1107 : Nat) = 35 + 1072 from rfl, Nat.pow_add] at u4
    rw [show (1108 : Nat) = 36 + 1072 from rfl, Nat.pow_add, own_U]
    have := Nat.mul_le_mul_right (2 ^ 1072) (show fN ≤ 2 ^ 31 by omega)
    generalize 2 ^ 1072 = V at *
    rw [show fN * (4 * V) = 4 * (fN * V) by ac_rfl]
    generalize fN * V = fV at *
    omega)
  have l5 : (4 * fN + 1) * 2 ^ 1072 ≤ n5 := R5.ge (c := 4 * fN + 1) (j := 1072) (by omega) (by decide) rfl (by
    rw [own_U, Nat.mul_one]
    generalize 2 ^ 1072 = V at *
    rw [Nat.add_mul, Nat.one_mul, show fN * (4 * V) = 4 * fN * V by ac_rfl]
    omega)
  have p5 : 0 < n5 := Nat.lt_of_lt_of_le (Nat.mul_pos (by omega) (Nat.two_pow_pos _)) l5
  obtain ⟨nr, ur, Rr⟩ := Rd.mk p5 (own_pdiv (Ps.ofI hf) R5.2.2 p5) (k := 1074) (by decide) (by
    rw [Nat.mul_comm]
    refine Nat.mul_le_mul_left _ (Nat.le_trans ?_ l5)
    rw [own_U]
    generalize 2 ^ 1072 = V
    rw [Nat.add_mul, Nat.one_mul, show fN * (4 * V) = 4 * fN * V by ac_rfl]
    omega)
  exact ⟨n2, n3, n4, n5, nr, R2, R3, R4, R5, Rr, l4, l5, u5⟩
theorem Tf.zero {f l : Int32} {mn : UInt64} {lN mN n2 n3 n4 n5 nr : Nat} (T : Tf f l mn 0 lN mN n2 n3 n4 n5 nr) : nr = 0 := by
  obtain ⟨-, -, -, -, R, -⟩ := T
  exact R.exact (c := 0) (j := 0) (by decide) (by decide) rfl (by rw [Nat.zero_mul, Nat.zero_mul, Nat.zero_mul])
theorem Tf.pos {f l : Int32} {mn : UInt64} {fN lN mN n2 n3 n4 n5 nr : Nat} (T : Tf f l mn fN lN mN n2 n3 n4 n5 nr) (h : 1 ≤ fN) : 0 < nr := by
  obtain ⟨-, -, -, -, R, -, -, u⟩ := T
  refine Nat.lt_of_lt_of_le (Nat.two_pow_pos 1040) (R.ge (c := 1) (j := 1040) (by decide) (by decide) (Nat.one_mul _).symm ?_)
  refine Nat.le_trans (Nat.mul_le_mul_left _ u) ?_
  rw [← Nat.pow_add, Nat.mul_assoc, ← Nat.pow_add]
  exact Nat.le_mul_of_pos_left _ h
theorem Tf.one {f l : Int32} {mn : UInt64} {fN lN mN n2 n3 n4 n5 nr : Nat} (T : Tf f l mn fN lN mN n2 n3 n4 n5 nr) (h : fN < 2147483648) : nr < 2 ^ 1074 := by
  obtain ⟨-, -, -, -, R, -, l5, -⟩ := T
  have k : nr ≤ 9007199254740991 * 2 ^ 1021 := R.le (c := 9007199254740991) (j := 1021) (by decide) (by decide) rfl (by
    refine Nat.le_trans ?_ (Nat.mul_le_mul_left _ l5)
    rw [show fN * 2 ^ 1074 * 2 ^ 1074 = fN * 4 * 2 ^ 1074 * 2 ^ 1072 by rw [own_U]; generalize 2 ^ 1072 = V; ac_rfl, ← Nat.mul_assoc]
    refine Nat.mul_le_mul_right _ ?_
    rw [show (1074 : Nat) = 53 + 1021 from rfl, Nat.pow_add, ← Nat.mul_assoc, Nat.mul_right_comm 9007199254740991]
    refine Nat.mul_le_mul_right _ ?_
    rw [show (2 : Nat) ^ 53 = 9007199254740992 from rfl]
    omega)
  refine Nat.lt_of_le_of_lt k ?_
  rw [show (1074 : Nat) = 53 + 1021 from rfl, Nat.pow_add]
  exact (Nat.mul_lt_mul_right (Nat.two_pow_pos _)).mpr (by decide)
theorem Tf.n4m {f l : Int32} {mn : UInt64} {fN mN n2 n3 n4 n5 nr : Nat} (T : Tf f l mn fN mN mN n2 n3 n4 n5 nr) : n4 = 5404319552844595 * 2 ^ 1022 := by
  obtain ⟨R2, R3, R4, -⟩ := T
  have e2 : n2 = 3 * 2 ^ 1072 := R2.exact (c := 3) (j := 1072) (by decide) (by decide) rfl (by generalize 2 ^ 1072 = V; generalize 2 ^ 1074 = U; ac_rfl)
  rw [e2] at R3
  have e3 : n3 = 2 ^ 1074 := R3.exact (c := 4) (j := 1072) (by decide) (by decide) own_U (by rw [own_U]; generalize 2 ^ 1072 = V; omega)
  rw [e3] at R4
  refine R4.exact (v := 5404319552844595 * 2 ^ 1022) (c := 5404319552844595) (j := 1022) (by decide) (by decide) ?_ ?_
  · rfl
  · rfl
theorem Tf.n40 {f l : Int32} {mn : UInt64} {fN mN n2 n3 n4 n5 nr : Nat} (T : Tf f l mn fN 0 mN n2 n3 n4 n5 nr) : n4 = 5404319552844595 * 2 ^ 1020 := by
  obtain ⟨R2, R3, R4, -⟩ := T
  have e2 : n2 = 0 := R2.exact (c := 0) (j := 0) (by decide) (by decide) rfl (by rw [Nat.mul_zero, Nat.zero_mul, Nat.zero_mul, Nat.zero_mul])
  rw [e2] at R3
  have e3 : n3 = 2 ^ 1072 := R3.exact (c := 1) (j := 1072) (by decide) (by decide) (Nat.one_mul _).symm (by rw [Nat.add_zero, Nat.mul_one])
  rw [e3] at R4
  refine R4.exact (v := 5404319552844595 * 2 ^ 1020) (c := 5404319552844595) (j := 1020) (by decide) (by decide) ?_ ?_
  · rfl
  · rw [Nat.mul_assoc, ← Nat.pow_add, Nat.mul_assoc, ← Nat.pow_add]
theorem Tf.same {f l : Int32} {mn K : UInt64} {fN lN mN n2 n3 n4 n5 nr : Nat} (T : Tf f l mn fN lN mN n2 n3 n4 n5 nr) (hf : f.toInt = fN) (hK : Ps K n4) : Ps (FP.dadd (FP.i2d f) K) n5 ∧ Ps (FP.ddiv (FP.i2d f) (FP.dadd (FP.i2d f) K)) nr := by
  obtain ⟨-, -, -, R5, R, -⟩ := T
  have p5 : Ps (FP.dadd (FP.i2d f) K) n5 := by
    obtain ⟨c, q, h, e⟩ := R5.2.2
    exact ⟨c, q, (own_padd (Ps.ofI hf) hK).trans (R5.2.1.symm.trans h), e⟩
  refine ⟨p5, ?_⟩
  obtain ⟨c, q, h, e⟩ := R.2.2
  exact ⟨c, q, (own_pdiv (Ps.ofI hf) p5 R.1).trans (R.2.1.symm.trans h), e⟩
theorem Tf.anti {f l l' : Int32} {mn mn' : UInt64} {fN lN mN n2 n3 n4 n5 nr lN' mN' n2' n3' n4' n5' nr' : Nat} (T : Tf f l mn fN lN mN n2 n3 n4 n5 nr) (T' : Tf f l' mn' fN lN' mN' n2' n3' n4' n5' nr') (h : lN * mN' ≤ lN' * mN) : nr' ≤ nr := by
  obtain ⟨R2, R3, R4, R5, R, -⟩ := T
  obtain ⟨S2, S3, S4, S5, S, -⟩ := T'
  have k2 : n2 ≤ n2' := R2.mono S2 (by
    have := Nat.mul_le_mul_right (3 * 2 ^ 1072 * 2 ^ 1074 * 2 ^ 1074) h
    generalize 2 ^ 1072 = V at *
    generalize 2 ^ 1074 = U at *
    rw [show 3 * lN * V * U * (mN' * U) = lN * mN' * (3 * V * U * U) by ac_rfl, show 3 * lN' * V * U * (mN * U) = lN' * mN * (3 * V * U * U) by ac_rfl]; exact this)
  have k3 : n3 ≤ n3' := R3.mono S3 (Nat.mul_le_mul_right _ (Nat.add_le_add_left k2 _))
  have k4 : n4 ≤ n4' := R4.mono S4 (Nat.mul_le_mul_right _ (Nat.mul_le_mul_left _ k3))
  have k5 : n5 ≤ n5' := R5.mono S5 (Nat.mul_le_mul_right _ (Nat.add_le_add_left k4 _))
  exact S.mono R (Nat.mul_le_mul_left _ k5)
/-- the error of a rounding -/
theorem own_rel {x : UInt64} {X n : Nat} (R : Rd x X 1 n) (h1 : 2 ^ 1072 ≤ X) (h2 : X < 2 ^ 1200) : n * 2251799813685248 ≤ X * 2251799813685248 + X ∧ X * 2251799813685248 ≤ n * 2251799813685248 + X := by
  have hX : X ≠ 0 := by intro z; rw [z] at h1; exact absurd h1 (Nat.not_le.mpr (Nat.two_pow_pos _))
  have l1 : 2 ^ X.log2 ≤ X := Nat.log2_self_le hX
  have l2 : X < 2 ^ (X.log2 + 1) := Nat.lt_log2_self
  have l3 : X.log2 < 1200 := (Nat.pow_lt_pow_iff_right (by decide : 1 < 2)).mp (Nat.lt_of_le_of_lt l1 h2)
  have l4 : 1072 < X.log2 + 1 := (Nat.pow_lt_pow_iff_right (by decide : 1 < 2)).mp (Nat.lt_of_le_of_lt h1 l2)
  obtain ⟨j, hj⟩ : ∃ j, X.log2 = 51 + j := ⟨X.log2 - 51, by omega⟩
  rw [hj, Nat.pow_add] at l1
  rw [hj, show 51 + j + 1 = 52 + j by omega, Nat.pow_add] at l2
  have hP := Nat.two_pow_pos j
  have g1 : X / 2 ^ j * 2 ^ j ≤ X := Nat.div_mul_le_self _ _
  have g2 : X < (X / 2 ^ j + 1) * 2 ^ j := by
    rw [Nat.add_mul, Nat.one_mul]
    have e := Nat.div_add_mod X (2 ^ j)
    have l := Nat.mod_lt X hP
    rw [Nat.mul_comm] at e
    omega
  have g3 : X / 2 ^ j < 2 ^ 52 := by rw [Nat.div_lt_iff_lt_mul hP]; exact l2
  have a := R.ge (c := X / 2 ^ j) (j := j) (by omega) (by omega) rfl (by rw [Nat.mul_one]; exact g1)
  have b := R.le (c := X / 2 ^ j + 1) (j := j) (by omega) (by omega) rfl (by rw [Nat.mul_one]; exact Nat.le_of_lt g2)
  rw [Nat.add_mul, Nat.one_mul] at b g2
  rw [show (2 : Nat) ^ 51 = 2251799813685248 from rfl] at l1
  clear h1 h2 l2 g3 hX
  generalize X / 2 ^ j * 2 ^ j = v at *
  generalize 2 ^ j = P at *
  omega
theorem Tf.up {f f' l : Int32} {mn : UInt64} {g lN mN n2 n3 n4 n5 nr n2' n3' n4' n5' nr' : Nat} (T : Tf f l mn g lN mN n2 n3 n4 n5 nr) (T' : Tf f' l mn (g + 1) lN mN n2' n3' n4' n5' nr') (hg : g < 1048576) : nr ≤ nr' := by
  obtain ⟨R2, R3, R4, R5, R, l4, l5, u5⟩ := T
  obtain ⟨S2, S3, S4, S5, S, -, -, v5⟩ := T'
  have e2 := R2.uniq S2
  rw [← e2] at S3
  have e3 := R3.uniq S3
  rw [← e3] at S4
  have e4 := R4.uniq S4
  rw [← e4] at S5
  have w : ∀ {y : UInt64} {X n : Nat}, Rd y X 1 n → n ≤ 2 ^ 1108 → 2 ^ 1072 ≤ X → X < 2 ^ 1200 := by
    intro y X n Q hn hX
    rcases Nat.lt_or_ge X (2 ^ 1200) with q | q
    · exact q
    · have := Q.ge (c := 1) (j := 1200) (by decide) (by decide) (Nat.one_mul _).symm (by rw [Nat.mul_one]; exact q)
      exact absurd ((Nat.pow_le_pow_iff_right (by decide : 1 < 2)).mp (Nat.le_trans this hn)) (by decide)
  have x1 : 2 ^ 1072 ≤ g * 2 ^ 1074 + n4 := Nat.le_trans l4 (Nat.le_add_left _ _)
  have x2 : 2 ^ 1072 ≤ (g + 1) * 2 ^ 1074 + n4 := Nat.le_trans l4 (Nat.le_add_left _ _)
  obtain ⟨-, a⟩ := own_rel R5 x1 (w R5 u5 x1)
  obtain ⟨b, -⟩ := own_rel S5 x2 (w S5 v5 x2)
  refine R.mono S ?_
  suffices k : g * n5' ≤ (g + 1) * n5 by
    have := Nat.mul_le_mul_right (2 ^ 1074 * 2 ^ 1074) k
    generalize 2 ^ 1074 = U at *
    rw [show g * U * U * n5' = g * n5' * (U * U) by ac_rfl, show (g + 1) * U * U * n5 = (g + 1) * n5 * (U * U) by ac_rfl]; exact this
  rw [own_U] at a b
  clear R2 R3 R4 R5 R S2 S3 S4 S5 S u5 v5 l5 x1 x2 w
  generalize 2 ^ 1072 = V at *
  rw [show g * (4 * V) = 4 * (g * V) by ac_rfl] at a
  rw [show (g + 1) * (4 * V) = 4 * (g * V) + 4 * V by rw [Nat.add_mul, Nat.one_mul]; congr 1; ac_rfl] at b
  have hY : g * (4 * (g * V) + 4 * V + n4) = 4 * (g * (g * V)) + 4 * (g * V) + g * n4 := by
    rw [Nat.mul_add, Nat.mul_add]; congr 1; congr 1 <;> ac_rfl
  have hX : (g + 1) * (4 * (g * V) + n4) = 4 * (g * (g * V)) + g * n4 + (4 * (g * V) + n4) := by
    rw [Nat.add_mul, Nat.one_mul, Nat.mul_add]; congr 1; congr 1; ac_rfl
  have m1 := Nat.mul_le_mul_left g b
  have m2 := Nat.mul_le_mul_left (g + 1) a
  rw [Nat.mul_add g, ← Nat.mul_assoc g n5' 2251799813685248, ← Nat.mul_assoc g (4 * (g * V) + 4 * V + n4) 2251799813685248, hY] at m1
  rw [Nat.mul_add (g + 1) (n5 * 2251799813685248), ← Nat.mul_assoc (g + 1) n5 2251799813685248, ← Nat.mul_assoc (g + 1) (4 * (g * V) + n4) 2251799813685248, hX] at m2
  have z1 : g * V ≤ 1048576 * n4 := Nat.mul_le_mul (Nat.le_of_lt hg) l4
  have z2 : g * (g * V) ≤ 1048576 * (1048576 * n4) := Nat.mul_le_mul (Nat.le_of_lt hg) z1
  have z3 : g * n4 ≤ 1048576 * n4 := Nat.mul_le_mul_right _ (Nat.le_of_lt hg)
  clear hY hX a b
  generalize g * (g * V) = G2 at *
  generalize g * V = GV at *
  generalize g * n4 = GN at *
  generalize g * n5' = A at *
  generalize (g + 1) * n5 = B at *
  omega
end OwnMono

def OkT (f l : Int32) (mn : UInt64) : Prop := ∃ fN lN mN n2 n3 n4 n5 nr : Nat, l.toInt = lN ∧ Tf f l mn fN lN mN n2 n3 n4 n5 nr
theorem own_n15 {f l : Int32} {mn : UInt64} (h : OkT f l mn) : Jvm.Free.Fl.NoNaN64 (FP.dmul (4604930618986332160 : UInt64) (FP.i2d l)) := by
  obtain ⟨_, _, _, _, _, _, _, _, hl, T⟩ := h
  exact (own_x1 hl).2.2.noNaN
theorem own_n17 {f l : Int32} {mn : UInt64} (h : OkT f l mn) : Jvm.Free.Fl.NoNaN64 (FP.ddiv (FP.dmul (4604930618986332160 : UInt64) (FP.i2d l)) mn) := by
  obtain ⟨_, _, _, _, _, _, _, _, hl, T⟩ := h
  exact T.1.2.2.noNaN
theorem own_n18 {f l : Int32} {mn : UInt64} (h : OkT f l mn) : Jvm.Free.Fl.NoNaN64 (FP.dadd (4598175219545276416 : UInt64) (FP.ddiv (FP.dmul (4604930618986332160 : UInt64) (FP.i2d l)) mn)) := by
  obtain ⟨_, _, _, _, _, _, _, _, hl, T⟩ := h
  exact T.2.1.2.2.noNaN
theorem own_n19 {f l : Int32} {mn : UInt64} (h : OkT f l mn) : Jvm.Free.Fl.NoNaN64 (FP.dmul (4608083138725491507 : UInt64) (FP.dadd (4598175219545276416 : UInt64) (FP.ddiv (FP.dmul (4604930618986332160 : UInt64) (FP.i2d l)) mn))) := by
  obtain ⟨_, _, _, _, _, _, _, _, hl, T⟩ := h
  exact T.2.2.1.2.2.noNaN
theorem own_n20 {f l : Int32} {mn : UInt64} (h : OkT f l mn) : Jvm.Free.Fl.NoNaN64 (FP.dadd (FP.i2d f) (FP.dmul (4608083138725491507 : UInt64) (FP.dadd (4598175219545276416 : UInt64) (FP.ddiv (FP.dmul (4604930618986332160 : UInt64) (FP.i2d l)) mn)))) := by
  obtain ⟨_, _, _, _, _, _, _, _, hl, T⟩ := h
  exact T.2.2.2.1.2.2.noNaN
theorem own_n21 {f l : Int32} {mn : UInt64} (h : OkT f l mn) : Jvm.Free.Fl.NoNaN64 (FP.ddiv (FP.i2d f) (FP.dadd (FP.i2d f) (FP.dmul (4608083138725491507 : UInt64) (FP.dadd (4598175219545276416 : UInt64) (FP.ddiv (FP.dmul (4604930618986332160 : UInt64) (FP.i2d l)) mn))))) := by
  obtain ⟨_, _, _, _, _, _, _, _, hl, T⟩ := h
  exact T.2.2.2.2.1.2.2.noNaN
theorem d1_0 : decode jdk_29_method_70_code 0 = .ok (.lload_n 0, 1) := by decide +kernel
theorem d1_1 : decode jdk_29_method_70_code 1 = .ok (.lload_n 2, 1) := by decide +kernel
theorem d1_2 : decode jdk_29_method_70_code 2 = .ok (.lcmp, 1) := by decide +kernel
theorem d1_3 : decode jdk_29_method_70_code 3 = .ok (.ifCond .gt 7, 3) := by decide +kernel
theorem d1_6 : decode jdk_29_method_70_code 6 = .ok (.lload_n 0, 1) := by decide +kernel
theorem d1_7 : decode jdk_29_method_70_code 7 = .ok (.goto 4, 3) := by decide +kernel
theorem d1_10 : decode jdk_29_method_70_code 10 = .ok (.lload_n 2, 1) := by decide +kernel
theorem d1_11 : decode jdk_29_method_70_code 11 = .ok (.lreturn, 1) := by decide +kernel

theorem ef_1 (m : MethodId) (q0 : Int64) (q1 : Int64) : entryFrame m #[(.long q0), (.long q1)] 4 = mkF m 0 #[.val (.long q0), .second, .val (.long q1), .second] [] := by first | (simp [entryFrame, mkF, argsToLocals, Value.category]; done) | rfl
def f1_11 (v11_s0 : Int64) : Int64 := v11_s0
def f1_10 (q1 : Int64) : Int64 := (f1_11 q1)
def f1_6 (q0 : Int64) : Int64 := (f1_11 q0)
def f1_0 (q0 : Int64) (q1 : Int64) : Int64 := if (0 : Int32) < (lcmpW q0 q1) then (f1_10 q1) else (f1_6 q0)
set_option maxRecDepth 65536 in
set_option maxHeartbeats 40000000 in
theorem rm1 (l : Launch) (Z : State) (a0 : Array Value) (hw : ∀ d ∈ tables_1, d.before a0 Z = true) (ws : List Jvm.Cond) (q0 : Int64) (q1 : Int64)  (h0 : Heap) :
    MetFree l (⟨"java/lang/Math", "min", "(JJ)J"⟩ : MethodName) (head1 (Jvm.Cond.code (⟨"java/lang/Math", "min", "(JJ)J"⟩ : MethodName) jdk_29_method_70_code 4 (some .long) :: ws) ({ frames := 0, cells := 0, slots := 0, locals := 0 } : Room)) (fun a U => a = #[(.long q0), (.long q1)] ∧ Z.Warmed39 U.vm ∧ U.heap = h0) (fun _ _ _ _ _ => True) (fun _ U o U' => ∃ v L, o = .returned v ∧ (PureQ (.long (f1_0 q0 q1)) h0) v U'.heap L ∧ FrameEnd U o U' L ({ frames := 0, cells := 0, slots := 0, locals := 0 } : Room).cells ({ frames := 0, cells := 0, slots := 0, locals := 0 } : Room).slots) := by
  refine MetFree.of_bodySF (Jvm.Free.JP.mathPlain rfl (by decide +kernel)) hisR ?_
  intro p e s m args below meth c s₁ Bd hml0 hP hK
  obtain ⟨rfl, hZ, hh⟩ := hP
  have hx := Bd.exec
  have hby := Bd.bytes
  have hlk : meth.locks = false := BodyLoose.notSynchronized Bd
  have hml : c.maxLocals = 4 := hml0
  have hown : s.vm.findClass "java/lang/Math" = some m.cls := findClass_of_methodNamed Bd.named
  have hnm := (name_of_methodNamed Bd.named Bd.method).1
  have X0 : Stand p l e ({ frames := 0, cells := 0, slots := 0, locals := 0 } : Room) s m #[(.long q0), (.long q1)] below meth c s₁ ([] : List Loc) 0 0 := Stand.of_body Bd
  have e0 : s₁.heap = h0 := by rw [← hh, Bd.state]; rfl
  show Go p e below s 0 0 (PureQ (.long (f1_0 q0 q1)) h0) s₁ (entryFrame m #[(.long q0), (.long q1)] 4)
  rw [ef_1 m q0 q1]
  refine Go.step (g' := (mkF m 1 #[.val (.long q0), .second, .val (.long q1), .second] [(.long q0)])) (fun _ k => XS.lloadN X0.here hx rfl (hb hby d1_0) rfl  k) ?_
  refine Go.step (g' := (mkF m 2 #[.val (.long q0), .second, .val (.long q1), .second] [(.long q1), (.long q0)])) (fun _ k => XS.lloadN X0.here hx rfl (hb hby d1_1) rfl  k) ?_
  refine Go.step (g' := (mkF m 3 #[.val (.long q0), .second, .val (.long q1), .second] [(.int (lcmpW q0 q1))])) (fun _ k => XS.lcmp X0.here hx rfl (hb hby d1_2) rfl k) ?_
  have t11 : ∀ (v11_s0 : Int64), Go p e below s 0 0 (PureQ (.long (f1_11 v11_s0)) h0) s₁ (mkF m 11 #[.val (.long q0), .second, .val (.long q1), .second] [(.long v11_s0)]) := by
    intro v11_s0
    exact Go.retW X0 hx hlk (t := .long) Bd.returns rfl (Or.inr (Or.inl ⟨rfl, rfl, _, rfl⟩)) (hb hby d1_11) (by decide) (by decide) ⟨rfl, rfl, e0⟩
  by_cases hc3 : (0 : Int32) < (lcmpW q0 q1)
  · rw [show (f1_0 q0 q1) = (f1_10 q1) from if_pos hc3]
    refine Go.step (g' := (mkF m 10 #[.val (.long q0), .second, .val (.long q1), .second] [])) (fun _ k => XS.ifYes X0.here hx rfl (pc0 := 3) (pc' := 10) rfl (hb hby d1_3) rfl ((if0 _ _).trans (tlt hc3).2.2.1) (by decide) (by decide) k) ?_
    refine Go.step (g' := (mkF m 11 #[.val (.long q0), .second, .val (.long q1), .second] [(.long q1)])) (fun _ k => XS.lloadN X0.here hx rfl (hb hby d1_10) rfl  k) ?_
    rw [show (f1_10 q1) = (f1_11 q1) from rfl]
    exact t11 q1
  · rw [show (f1_0 q0 q1) = (f1_6 q0) from if_neg hc3]
    refine Go.step (g' := (mkF m 6 #[.val (.long q0), .second, .val (.long q1), .second] [])) (fun _ k => XS.ifNo X0.here hx rfl (hb hby d1_3) rfl ((if0 _ _).trans (flt hc3).2.2.1) k) ?_
    refine Go.step (g' := (mkF m 7 #[.val (.long q0), .second, .val (.long q1), .second] [(.long q0)])) (fun _ k => XS.lloadN X0.here hx rfl (hb hby d1_6) rfl  k) ?_
    refine Go.step (g' := (mkF m 11 #[.val (.long q0), .second, .val (.long q1), .second] [(.long q0)])) (fun _ k => XS.goto X0.here hx rfl (pc0 := 7) (pc' := 11) rfl (hb hby d1_7) (by decide) (by decide) k) ?_
    rw [show (f1_6 q0) = (f1_11 q0) from rfl]
    exact t11 q0
theorem d2_0 : decode prog_18_method_3_code 0 = .ok (.iload_n 0, 1) := by decide +kernel
theorem d2_1 : decode prog_18_method_3_code 1 = .ok (.i2d, 1) := by decide +kernel
theorem d2_2 : decode prog_18_method_3_code 2 = .ok (.iload_n 0, 1) := by decide +kernel
theorem d2_3 : decode prog_18_method_3_code 3 = .ok (.i2d, 1) := by decide +kernel
theorem d2_4 : decode prog_18_method_3_code 4 = .ok (.ldc2_w 17, 3) := by decide +kernel
theorem d2_7 : decode prog_18_method_3_code 7 = .ok (.ldc2_w 19, 3) := by decide +kernel
theorem d2_10 : decode prog_18_method_3_code 10 = .ok (.ldc2_w 21, 3) := by decide +kernel
theorem d2_13 : decode prog_18_method_3_code 13 = .ok (.iload_n 1, 1) := by decide +kernel
theorem d2_14 : decode prog_18_method_3_code 14 = .ok (.i2d, 1) := by decide +kernel
theorem d2_15 : decode prog_18_method_3_code 15 = .ok (.dmul, 1) := by decide +kernel
theorem d2_16 : decode prog_18_method_3_code 16 = .ok (.dload_n 2, 1) := by decide +kernel
theorem d2_17 : decode prog_18_method_3_code 17 = .ok (.ddiv, 1) := by decide +kernel
theorem d2_18 : decode prog_18_method_3_code 18 = .ok (.dadd, 1) := by decide +kernel
theorem d2_19 : decode prog_18_method_3_code 19 = .ok (.dmul, 1) := by decide +kernel
theorem d2_20 : decode prog_18_method_3_code 20 = .ok (.dadd, 1) := by decide +kernel
theorem d2_21 : decode prog_18_method_3_code 21 = .ok (.ddiv, 1) := by decide +kernel
theorem d2_22 : decode prog_18_method_3_code 22 = .ok (.dreturn, 1) := by decide +kernel
theorem pn_2 : plainName "com/example/laelaps/laelaps/testbed/Bm25" = true := by first | (simp [plainName, overriddenIn]; done) | decide +kernel
theorem ef_2 (m : MethodId) (p0 : Int32) (p1 : Int32) (d2 : UInt64) : entryFrame m #[(.int p0), (.int p1), (.double d2)] 4 = mkF m 0 #[.val (.int p0), .val (.int p1), .val (.double d2), .second] [] := by first | (simp [entryFrame, mkF, argsToLocals, Value.category]; done) | rfl
def f2_0 (p0 : Int32) (p1 : Int32) (d2 : UInt64) : UInt64 := (FP.ddiv (FP.i2d p0) (FP.dadd (FP.i2d p0) (FP.dmul (4608083138725491507 : UInt64) (FP.dadd (4598175219545276416 : UInt64) (FP.ddiv (FP.dmul (4604930618986332160 : UInt64) (FP.i2d p1)) d2)))))
set_option maxRecDepth 65536 in
set_option maxHeartbeats 40000000 in
theorem rm2 (l : Launch) (Z : State) (a0 : Array Value) (hw : ∀ d ∈ tables_1, d.before a0 Z = true) (ws : List Jvm.Cond) (p0 : Int32) (p1 : Int32) (d2 : UInt64)  (h0 : Heap) (hT : OkT p0 p1 d2) :
    MetFree l (⟨"com/example/laelaps/laelaps/testbed/Bm25", "tfPart", "(IID)D"⟩ : MethodName) (head1 (Jvm.Cond.code (⟨"com/example/laelaps/laelaps/testbed/Bm25", "tfPart", "(IID)D"⟩ : MethodName) prog_18_method_3_code 4 (some .double) :: ws) ({ frames := 0, cells := 0, slots := 0, locals := 0 } : Room)) (fun a U => a = #[(.int p0), (.int p1), (.double d2)] ∧ Z.Warmed39 U.vm ∧ U.heap = h0) (fun _ _ _ _ _ => True) (fun _ U o U' => ∃ v L, o = .returned v ∧ (PureQ (.double (f2_0 p0 p1 d2)) h0) v U'.heap L ∧ FrameEnd U o U' L ({ frames := 0, cells := 0, slots := 0, locals := 0 } : Room).cells ({ frames := 0, cells := 0, slots := 0, locals := 0 } : Room).slots) := by
  refine MetFree.of_bodySF (plainFor_of_name pn_2) hisR ?_
  intro p e s m args below meth c s₁ Bd hml0 hP hK
  obtain ⟨rfl, hZ, hh⟩ := hP
  have hx := Bd.exec
  have hby := Bd.bytes
  have hlk : meth.locks = false := BodyLoose.notSynchronized Bd
  have hml : c.maxLocals = 4 := hml0
  have hown : s.vm.findClass "com/example/laelaps/laelaps/testbed/Bm25" = some m.cls := findClass_of_methodNamed Bd.named
  have hnm := (name_of_methodNamed Bd.named Bd.method).1
  have X0 : Stand p l e ({ frames := 0, cells := 0, slots := 0, locals := 0 } : Room) s m #[(.int p0), (.int p1), (.double d2)] below meth c s₁ ([] : List Loc) 0 0 := Stand.of_body Bd
  have e0 : s₁.heap = h0 := by rw [← hh, Bd.state]; rfl
  show Go p e below s 0 0 (PureQ (.double (f2_0 p0 p1 d2)) h0) s₁ (entryFrame m #[(.int p0), (.int p1), (.double d2)] 4)
  rw [ef_2 m p0 p1 d2]
  refine Go.step (g' := (mkF m 1 #[.val (.int p0), .val (.int p1), .val (.double d2), .second] [(.int p0)])) (fun _ k => XS.iloadN X0.here hx rfl (hb hby d2_0) rfl  k) ?_
  refine Go.step (g' := (mkF m 2 #[.val (.int p0), .val (.int p1), .val (.double d2), .second] [(.double (FP.i2d p0))])) (fun _ k => XS.i2dS X0.here hx rfl (hb hby d2_1) rfl rfl k) ?_
  refine Go.step (g' := (mkF m 3 #[.val (.int p0), .val (.int p1), .val (.double d2), .second] [(.int p0), (.double (FP.i2d p0))])) (fun _ k => XS.iloadN X0.here hx rfl (hb hby d2_2) rfl  k) ?_
  refine Go.step (g' := (mkF m 4 #[.val (.int p0), .val (.int p1), .val (.double d2), .second] [(.double (FP.i2d p0)), (.double (FP.i2d p0))])) (fun _ k => XS.i2dS X0.here hx rfl (hb hby d2_3) rfl rfl k) ?_
  have kd1 : (Jvm.Cond.constantDouble "com/example/laelaps/laelaps/testbed/Bm25" 17 (4608083138725491507 : UInt64)).before #[(.int p0), (.int p1), (.double d2)] s = true := mvT hZ (hw _ (List.mem_of_getElem? (i := 13) rfl))
  refine Go.step (g' := (mkF m 7 #[.val (.int p0), .val (.int p1), .val (.double d2), .second] [(.double (4608083138725491507 : UInt64)), (.double (FP.i2d p0)), (.double (FP.i2d p0))])) (fun _ k => X0.ldc2DoubleC hx hown kd1 (g := (mkF m 4 #[.val (.int p0), .val (.int p1), .val (.double d2), .second] [(.double (FP.i2d p0)), (.double (FP.i2d p0))])) rfl (hb hby d2_4) _ k) ?_
  have kd2 : (Jvm.Cond.constantDouble "com/example/laelaps/laelaps/testbed/Bm25" 19 (4598175219545276416 : UInt64)).before #[(.int p0), (.int p1), (.double d2)] s = true := mvT hZ (hw _ (List.mem_of_getElem? (i := 14) rfl))
  refine Go.step (g' := (mkF m 10 #[.val (.int p0), .val (.int p1), .val (.double d2), .second] [(.double (4598175219545276416 : UInt64)), (.double (4608083138725491507 : UInt64)), (.double (FP.i2d p0)), (.double (FP.i2d p0))])) (fun _ k => X0.ldc2DoubleC hx hown kd2 (g := (mkF m 7 #[.val (.int p0), .val (.int p1), .val (.double d2), .second] [(.double (4608083138725491507 : UInt64)), (.double (FP.i2d p0)), (.double (FP.i2d p0))])) rfl (hb hby d2_7) _ k) ?_
  have kd3 : (Jvm.Cond.constantDouble "com/example/laelaps/laelaps/testbed/Bm25" 21 (4604930618986332160 : UInt64)).before #[(.int p0), (.int p1), (.double d2)] s = true := mvT hZ (hw _ (List.mem_of_getElem? (i := 15) rfl))
  refine Go.step (g' := (mkF m 13 #[.val (.int p0), .val (.int p1), .val (.double d2), .second] [(.double (4604930618986332160 : UInt64)), (.double (4598175219545276416 : UInt64)), (.double (4608083138725491507 : UInt64)), (.double (FP.i2d p0)), (.double (FP.i2d p0))])) (fun _ k => X0.ldc2DoubleC hx hown kd3 (g := (mkF m 10 #[.val (.int p0), .val (.int p1), .val (.double d2), .second] [(.double (4598175219545276416 : UInt64)), (.double (4608083138725491507 : UInt64)), (.double (FP.i2d p0)), (.double (FP.i2d p0))])) rfl (hb hby d2_10) _ k) ?_
  refine Go.step (g' := (mkF m 14 #[.val (.int p0), .val (.int p1), .val (.double d2), .second] [(.int p1), (.double (4604930618986332160 : UInt64)), (.double (4598175219545276416 : UInt64)), (.double (4608083138725491507 : UInt64)), (.double (FP.i2d p0)), (.double (FP.i2d p0))])) (fun _ k => XS.iloadN X0.here hx rfl (hb hby d2_13) rfl  k) ?_
  refine Go.step (g' := (mkF m 15 #[.val (.int p0), .val (.int p1), .val (.double d2), .second] [(.double (FP.i2d p1)), (.double (4604930618986332160 : UInt64)), (.double (4598175219545276416 : UInt64)), (.double (4608083138725491507 : UInt64)), (.double (FP.i2d p0)), (.double (FP.i2d p0))])) (fun _ k => XS.i2dS X0.here hx rfl (hb hby d2_14) rfl rfl k) ?_
  refine Go.step (g' := (mkF m 16 #[.val (.int p0), .val (.int p1), .val (.double d2), .second] [(.double (FP.dmul (4604930618986332160 : UInt64) (FP.i2d p1))), (.double (4598175219545276416 : UInt64)), (.double (4608083138725491507 : UInt64)), (.double (FP.i2d p0)), (.double (FP.i2d p0))])) (fun _ k => XS.dmulS X0.here hx rfl (hb hby d2_15) rfl (own_n15 hT) rfl k) ?_
  refine Go.step (g' := (mkF m 17 #[.val (.int p0), .val (.int p1), .val (.double d2), .second] [(.double d2), (.double (FP.dmul (4604930618986332160 : UInt64) (FP.i2d p1))), (.double (4598175219545276416 : UInt64)), (.double (4608083138725491507 : UInt64)), (.double (FP.i2d p0)), (.double (FP.i2d p0))])) (fun _ k => XS.dloadN X0.here hx rfl (hb hby d2_16) rfl k) ?_
  refine Go.step (g' := (mkF m 18 #[.val (.int p0), .val (.int p1), .val (.double d2), .second] [(.double (FP.ddiv (FP.dmul (4604930618986332160 : UInt64) (FP.i2d p1)) d2)), (.double (4598175219545276416 : UInt64)), (.double (4608083138725491507 : UInt64)), (.double (FP.i2d p0)), (.double (FP.i2d p0))])) (fun _ k => XS.ddivS X0.here hx rfl (hb hby d2_17) rfl (own_n17 hT) rfl k) ?_
  refine Go.step (g' := (mkF m 19 #[.val (.int p0), .val (.int p1), .val (.double d2), .second] [(.double (FP.dadd (4598175219545276416 : UInt64) (FP.ddiv (FP.dmul (4604930618986332160 : UInt64) (FP.i2d p1)) d2))), (.double (4608083138725491507 : UInt64)), (.double (FP.i2d p0)), (.double (FP.i2d p0))])) (fun _ k => XS.daddS X0.here hx rfl (hb hby d2_18) rfl (own_n18 hT) rfl k) ?_
  refine Go.step (g' := (mkF m 20 #[.val (.int p0), .val (.int p1), .val (.double d2), .second] [(.double (FP.dmul (4608083138725491507 : UInt64) (FP.dadd (4598175219545276416 : UInt64) (FP.ddiv (FP.dmul (4604930618986332160 : UInt64) (FP.i2d p1)) d2)))), (.double (FP.i2d p0)), (.double (FP.i2d p0))])) (fun _ k => XS.dmulS X0.here hx rfl (hb hby d2_19) rfl (own_n19 hT) rfl k) ?_
  refine Go.step (g' := (mkF m 21 #[.val (.int p0), .val (.int p1), .val (.double d2), .second] [(.double (FP.dadd (FP.i2d p0) (FP.dmul (4608083138725491507 : UInt64) (FP.dadd (4598175219545276416 : UInt64) (FP.ddiv (FP.dmul (4604930618986332160 : UInt64) (FP.i2d p1)) d2))))), (.double (FP.i2d p0))])) (fun _ k => XS.daddS X0.here hx rfl (hb hby d2_20) rfl (own_n20 hT) rfl k) ?_
  refine Go.step (g' := (mkF m 22 #[.val (.int p0), .val (.int p1), .val (.double d2), .second] [(.double (FP.ddiv (FP.i2d p0) (FP.dadd (FP.i2d p0) (FP.dmul (4608083138725491507 : UInt64) (FP.dadd (4598175219545276416 : UInt64) (FP.ddiv (FP.dmul (4604930618986332160 : UInt64) (FP.i2d p1)) d2))))))])) (fun _ k => XS.ddivS X0.here hx rfl (hb hby d2_21) rfl (own_n21 hT) rfl k) ?_
  exact Go.retW X0 hx hlk (t := .double) Bd.returns rfl (Or.inr (Or.inr (Or.inl ⟨rfl, rfl, _, rfl⟩))) (hb hby d2_22) (by decide) (by decide) ⟨rfl, rfl, e0⟩
theorem own_ps {f l : Int32} {mn : UInt64} {fN lN mN n2 n3 n4 n5 nr : Nat} (T : Tf f l mn fN lN mN n2 n3 n4 n5 nr) : Ps (f2_0 f l mn) nr := T.2.2.2.2.1.2.2
theorem own_p0 : Ps 0 0 := ⟨0, Jvm.FP.Core.b64.qmin, by decide +kernel, by unfold Jvm.FP.Core.inUnits; rw [Nat.zero_mul]⟩
theorem own_p1 : Ps 4607182418800017408 (2 ^ 1074) := ⟨2 ^ 52, -52, by decide +kernel, by rw [own_qm]; unfold Jvm.FP.Core.inUnits; rw [show ((-52 : Int) - -1074).toNat = 1022 from by decide, ← Nat.pow_add]⟩
theorem own_k84 {f l : Int32} {mn : UInt64} {fN lN mN n2 n3 n4 n5 nr : Nat} (T : Tf f l mn fN lN mN n2 n3 n4 n5 nr) (h : fN = 0) : cmpValue (FP.dcmp (f2_0 f l mn) (0 : UInt64)) .l = (0 : Int32) := by
  subst h
  have p := own_ps T
  rw [T.zero] at p
  exact p.eq0 own_p0 .l
theorem own_k101 {f l : Int32} {mn : UInt64} {fN lN mN n2 n3 n4 n5 nr : Nat} (T : Tf f l mn fN lN mN n2 n3 n4 n5 nr) (h : 1 ≤ fN) : (0 : Int32) < cmpValue (FP.dcmp (f2_0 f l mn) (0 : UInt64)) .l := by
  rw [(own_ps T).gt own_p0 (T.pos h)]; decide
theorem own_k108 {f l : Int32} {mn : UInt64} {fN lN mN n2 n3 n4 n5 nr : Nat} (T : Tf f l mn fN lN mN n2 n3 n4 n5 nr) (h : fN < 2147483648) : cmpValue (FP.dcmp (f2_0 f l mn) (4607182418800017408 : UInt64)) .g < (0 : Int32) := by
  rw [(own_ps T).lt own_p1 (T.one h)]; decide
theorem own_kle {x y : UInt64} {n m : Nat} (hx : Ps x n) (hy : Ps y m) (h : n ≤ m) : ¬ ((0 : Int32) < cmpValue (FP.dcmp x y) .g) := by
  rcases Nat.lt_or_eq_of_le h with q | q
  · rw [hx.lt hy q]; decide
  · rw [← q] at hy; rw [hx.eq0 hy]; decide
theorem own_kge {x y : UInt64} {n m : Nat} (hx : Ps x n) (hy : Ps y m) (h : m ≤ n) : ¬ (cmpValue (FP.dcmp x y) .l < (0 : Int32)) := by
  rcases Nat.lt_or_eq_of_le h with q | q
  · rw [hx.gt hy q]; decide
  · rw [q] at hy; rw [hx.eq0 hy]; decide
theorem own_z {x : Int32} {N : Nat} (h : x.toInt = N) (e : x = (0 : Int32)) : N = 0 := by
  rw [e] at h; have q : (0 : Int32).toInt = 0 := by decide
  omega
theorem own_nz {x : Int32} {N : Nat} (h : x.toInt = N) (e : ¬ x = (0 : Int32)) : 1 ≤ N := by
  rcases Nat.eq_zero_or_pos N with z | z
  · exact absurd (Int32.toInt_inj.mp (show x.toInt = (0 : Int32).toInt by rw [h, z]; decide)) e
  · exact z
theorem own_nn (p : Int32) : ∃ N : Nat, (p &&& (2147483647 : Int32)).toInt = N ∧ N < 2147483648 := by
  have e : (p &&& (2147483647 : Int32)).toInt = p.toInt % (2 ^ 31 : Nat) := c_mask p 2147483647 31 (by decide) (by decide)
  exact ⟨(p.toInt % (2 ^ 31 : Nat)).toNat, by omega, by omega⟩
theorem own_g (p : Int32) : ∃ N : Nat, (p &&& (1048575 : Int32)).toInt = N ∧ N < 1048576 := by
  have e : (p &&& (1048575 : Int32)).toInt = p.toInt % (2 ^ 20 : Nat) := c_mask p 1048575 20 (by decide) (by decide)
  exact ⟨(p.toInt % (2 ^ 20 : Nat)).toNat, by omega, by omega⟩
theorem own_g1 {g : Int32} {N : Nat} (h : g.toInt = N) (b : N < 1048576) : (g + (1 : Int32)).toInt = ((N + 1 : Nat) : Int) := by
  have e2 := c_iadd g (1 : Int32)
  have q : (1 : Int32).toInt = 1 := by decide
  have r := rng32 (g + (1 : Int32))
  omega
theorem own_m (p : Int32) : ∃ N : Nat, ((p &&& (1073741823 : Int32)) + (1 : Int32)).toInt = N ∧ 1 ≤ N ∧ N ≤ 1073741824 := by
  have e : (p &&& (1073741823 : Int32)).toInt = p.toInt % (2 ^ 30 : Nat) := c_mask p 1073741823 30 (by decide) (by decide)
  have e2 := c_iadd (p &&& (1073741823 : Int32)) (1 : Int32)
  have q : (1 : Int32).toInt = 1 := by decide
  have r := rng32 ((p &&& (1073741823 : Int32)) + (1 : Int32))
  exact ⟨(p.toInt % (2 ^ 30 : Nat)).toNat + 1, by omega, by omega, by omega⟩
theorem own_m2 {m : Int32} {M : Nat} (h : m.toInt = M) (b : M ≤ 1073741824) (p : Int32) : ∃ N : Nat, (m + (p &&& (65535 : Int32))).toInt = N ∧ M ≤ N := by
  have e : (p &&& (65535 : Int32)).toInt = p.toInt % (2 ^ 16 : Nat) := c_mask p 65535 16 (by decide) (by decide)
  have e2 := c_iadd m (p &&& (65535 : Int32))
  have r := rng32 (m + (p &&& (65535 : Int32)))
  exact ⟨M + (p.toInt % (2 ^ 16 : Nat)).toNat, by omega, by omega⟩
theorem own_l2 {l : Int32} {L : Nat} (h : l.toInt = L) (p : Int32) : ∃ N : Nat, ((f1_0 (2147483647 : Int64) ((l.toInt64) + ((((p.toUInt32 >>> ((16 : Int32) &&& 31).toUInt32).toInt32) &&& (65535 : Int32)).toInt64))).toInt32).toInt = N ∧ L ≤ N := by
  have e := c_mask ((p.toUInt32 >>> ((16 : Int32) &&& 31).toUInt32).toInt32) 65535 16 (by decide) (by decide)
  generalize ((p.toUInt32 >>> ((16 : Int32) &&& 31).toUInt32).toInt32) &&& (65535 : Int32) = w at *
  have bl := rng32 l
  have a := Int64.toInt_add l.toInt64 w.toInt64
  rw [c_i2l, c_i2l, Int.bmod_eq_of_le (by omega) (by omega)] at a
  have q : (2147483647 : Int64).toInt = 2147483647 := by decide
  have s : ∀ z : Int64, 0 ≤ z.toInt → z.toInt ≤ 2147483647 → z.toInt32.toInt = z.toInt := fun z h1 h2 => by
    rw [Int64.toInt_toInt32]; exact Int.bmod_eq_of_le (by omega) (by omega)
  unfold f1_0
  by_cases c : (0 : Int32) < lcmpW (2147483647 : Int64) (l.toInt64 + w.toInt64)
  · rw [if_pos c]
    rw [lw_gt, Int64.lt_iff_toInt_lt, q, a] at c
    refine ⟨(l.toInt + w.toInt).toNat, ?_, by omega⟩
    show (l.toInt64 + w.toInt64).toInt32.toInt = _
    rw [s _ (by omega) (by omega), a]; omega
  · rw [if_neg c]
    refine ⟨2147483647, ?_, by omega⟩
    show (2147483647 : Int64).toInt32.toInt = _
    decide
theorem pn_0 : plainName "com/example/laelaps/laelaps/testbed/Bm25TfPartPinLaw" = true := by first | (simp [plainName, overriddenIn]; done) | decide +kernel
theorem ef_0 (m : MethodId) (p0 : Int32) (p1 : Int32) (p2 : Int32) (p3 : Int32) : entryFrame m #[(.int p0), (.int p1), (.int p2), (.int p3)] maxLocals = mkF m 0 #[.val (.int p0), .val (.int p1), .val (.int p2), .val (.int p3), .unset, .unset, .unset, .unset, .unset, .unset, .unset, .unset, .unset, .unset, .unset] [] := by first | (simp [entryFrame, mkF, argsToLocals, Value.category, maxLocals]; done) | rfl
def f0_303 : Int32 := (nar .boolean (1 : Int32))
def f0_298 : Int32 := f0_303
def f0_274 : Int32 := f0_298
def f0_267 : Int32 := f0_274
def f0_262 : Int32 := f0_267
def f0_246 : Int32 := f0_262
def f0_239 : Int32 := f0_246
def f0_234 : Int32 := f0_239
def f0_219 : Int32 := f0_234
def f0_212 : Int32 := f0_219
def f0_207 : Int32 := f0_212
def f0_184 : Int32 := f0_207
def f0_177 : Int32 := f0_184
def f0_172 : Int32 := f0_177
def f0_148 : Int32 := f0_172
def f0_141 : Int32 := f0_148
def f0_136 : Int32 := f0_141
def f0_123 : Int32 := f0_136
def f0_118 : Int32 := f0_123
def f0_116 : Int32 := f0_118
def f0_111 : Int32 := f0_116
def f0_104 : Int32 := f0_111
def f0_97 : Int32 := f0_104
def f0_92 : Int32 := f0_118
def f0_87 : Int32 := f0_92
def f0_80 : Int32 := f0_87
def f0_75 (ff : Int32) : Int32 := if ff = (0 : Int32) then f0_80 else f0_97
def f0_0 : Int32 := 1
theorem law_75 (ff : Int32) : f0_75 ff = 1 := by
  simp only [f0_303, f0_298, f0_274, f0_267, f0_262, f0_246, f0_239, f0_234, f0_219, f0_212, f0_207, f0_184, f0_177, f0_172, f0_148, f0_141, f0_136, f0_123, f0_118, f0_116, f0_111, f0_104, f0_97, f0_92, f0_87, f0_80, f0_75]
  (repeat' split) <;> decide
theorem law_eq : f0_0 = 1 := rfl
set_option maxRecDepth 65536 in
set_option maxHeartbeats 40000000 in
theorem rm0 (l : Launch) (Z : State) (a0 : Array Value) (hw : ∀ d ∈ tables_1, d.before a0 Z = true) (ws : List Jvm.Cond) (p0 : Int32) (p1 : Int32) (p2 : Int32) (p3 : Int32)  (h0 : Heap) :
    MetFree l x (head1 (Jvm.Cond.code x code maxLocals ret :: ws) room_1) (fun a U => a = #[(.int p0), (.int p1), (.int p2), (.int p3)] ∧ Z.Warmed39 U.vm ∧ U.heap = h0) (fun _ _ _ _ _ => True) (fun _ U o U' => ∃ v L, o = .returned v ∧ (PureQ (.int f0_0) h0) v U'.heap L ∧ FrameEnd U o U' L room_1.cells room_1.slots) := by
  refine MetFree.of_bodySF (plainFor_of_name pn_0) hisR ?_
  intro p e s m args below meth c s₁ Bd hml0 hP hK
  obtain ⟨rfl, hZ, hh⟩ := hP
  have hx := Bd.exec
  have hby := Bd.bytes
  have hlk : meth.locks = false := BodyLoose.notSynchronized Bd
  have hml : c.maxLocals = 15 := hml0
  have hown : s.vm.findClass "com/example/laelaps/laelaps/testbed/Bm25TfPartPinLaw" = some m.cls := findClass_of_methodNamed Bd.named
  have hnm := (name_of_methodNamed Bd.named Bd.method).1
  have X0 : Stand p l e room_1 s m #[(.int p0), (.int p1), (.int p2), (.int p3)] below meth c s₁ ([] : List Loc) 0 0 := Stand.of_body Bd
  have e0 : s₁.heap = h0 := by rw [← hh, Bd.state]; rfl
  show Go p e below s room_1.cells room_1.slots (PureQ (.int f0_0) h0) s₁ (entryFrame m #[(.int p0), (.int p1), (.int p2), (.int p3)] maxLocals)
  rw [ef_0 m p0 p1 p2 p3]
  refine Go.step (g' := (mkF m 1 #[.val (.int p0), .val (.int p1), .val (.int p2), .val (.int p3), .unset, .unset, .unset, .unset, .unset, .unset, .unset, .unset, .unset, .unset, .unset] [(.int p0)])) (fun _ k => XS.iloadN X0.here hx rfl (hb hby at_0) rfl  k) ?_
  refine Go.step (g' := (mkF m 3 #[.val (.int p0), .val (.int p1), .val (.int p2), .val (.int p3), .unset, .unset, .unset, .unset, .unset, .unset, .unset, .unset, .unset, .unset, .unset] [(.int (2147483647 : Int32)), (.int p0)])) (fun _ k => X0.ldcI hx hown (mvT hZ (hw _ (List.mem_of_getElem? (i := 0) rfl))) rfl (hb hby at_1) k) ?_
  refine Go.step (g' := (mkF m 4 #[.val (.int p0), .val (.int p1), .val (.int p2), .val (.int p3), .unset, .unset, .unset, .unset, .unset, .unset, .unset, .unset, .unset, .unset, .unset] [(.int (p0 &&& (2147483647 : Int32)))])) (fun _ k => XS.iand X0.here hx rfl (hb hby at_3) rfl k) ?_
  refine Go.step (g' := (mkF m 6 #[.val (.int p0), .val (.int p1), .val (.int p2), .val (.int p3), .val (.int (p0 &&& (2147483647 : Int32))), .unset, .unset, .unset, .unset, .unset, .unset, .unset, .unset, .unset, .unset] [])) (fun _ k => XS.istore X0.here hx rfl (hb hby at_4) rfl (l' := #[.val (.int p0), .val (.int p1), .val (.int p2), .val (.int p3), .val (.int (p0 &&& (2147483647 : Int32))), .unset, .unset, .unset, .unset, .unset, .unset, .unset, .unset, .unset, .unset]) rfl k) ?_
  generalize hff : (p0 &&& (2147483647 : Int32)) = ff
  obtain ⟨fN, hfN, bfN⟩ : ∃ N : Nat, ff.toInt = N ∧ N < 2147483648 := hff ▸ own_nn _
  refine Go.step (g' := (mkF m 7 #[.val (.int p0), .val (.int p1), .val (.int p2), .val (.int p3), .val (.int ff), .unset, .unset, .unset, .unset, .unset, .unset, .unset, .unset, .unset, .unset] [(.int p1)])) (fun _ k => XS.iloadN X0.here hx rfl (hb hby at_6) rfl  k) ?_
  refine Go.step (g' := (mkF m 9 #[.val (.int p0), .val (.int p1), .val (.int p2), .val (.int p3), .val (.int ff), .unset, .unset, .unset, .unset, .unset, .unset, .unset, .unset, .unset, .unset] [(.int (2147483647 : Int32)), (.int p1)])) (fun _ k => X0.ldcI hx hown (mvT hZ (hw _ (List.mem_of_getElem? (i := 0) rfl))) rfl (hb hby at_7) k) ?_
  refine Go.step (g' := (mkF m 10 #[.val (.int p0), .val (.int p1), .val (.int p2), .val (.int p3), .val (.int ff), .unset, .unset, .unset, .unset, .unset, .unset, .unset, .unset, .unset, .unset] [(.int (p1 &&& (2147483647 : Int32)))])) (fun _ k => XS.iand X0.here hx rfl (hb hby at_9) rfl k) ?_
  refine Go.step (g' := (mkF m 12 #[.val (.int p0), .val (.int p1), .val (.int p2), .val (.int p3), .val (.int ff), .val (.int (p1 &&& (2147483647 : Int32))), .unset, .unset, .unset, .unset, .unset, .unset, .unset, .unset, .unset] [])) (fun _ k => XS.istore X0.here hx rfl (hb hby at_10) rfl (l' := #[.val (.int p0), .val (.int p1), .val (.int p2), .val (.int p3), .val (.int ff), .val (.int (p1 &&& (2147483647 : Int32))), .unset, .unset, .unset, .unset, .unset, .unset, .unset, .unset, .unset]) rfl k) ?_
  generalize hll : (p1 &&& (2147483647 : Int32)) = ll
  obtain ⟨lN, hlN, blN⟩ : ∃ N : Nat, ll.toInt = N ∧ N < 2147483648 := hll ▸ own_nn _
  refine Go.step (g' := (mkF m 13 #[.val (.int p0), .val (.int p1), .val (.int p2), .val (.int p3), .val (.int ff), .val (.int ll), .unset, .unset, .unset, .unset, .unset, .unset, .unset, .unset, .unset] [(.int p2)])) (fun _ k => XS.iloadN X0.here hx rfl (hb hby at_12) rfl  k) ?_
  refine Go.step (g' := (mkF m 15 #[.val (.int p0), .val (.int p1), .val (.int p2), .val (.int p3), .val (.int ff), .val (.int ll), .unset, .unset, .unset, .unset, .unset, .unset, .unset, .unset, .unset] [(.int (1073741823 : Int32)), (.int p2)])) (fun _ k => X0.ldcI hx hown (mvT hZ (hw _ (List.mem_of_getElem? (i := 1) rfl))) rfl (hb hby at_13) k) ?_
  refine Go.step (g' := (mkF m 16 #[.val (.int p0), .val (.int p1), .val (.int p2), .val (.int p3), .val (.int ff), .val (.int ll), .unset, .unset, .unset, .unset, .unset, .unset, .unset, .unset, .unset] [(.int (p2 &&& (1073741823 : Int32)))])) (fun _ k => XS.iand X0.here hx rfl (hb hby at_15) rfl k) ?_
  refine Go.step (g' := (mkF m 17 #[.val (.int p0), .val (.int p1), .val (.int p2), .val (.int p3), .val (.int ff), .val (.int ll), .unset, .unset, .unset, .unset, .unset, .unset, .unset, .unset, .unset] [(.int (1 : Int32)), (.int (p2 &&& (1073741823 : Int32)))])) (fun _ k => XS.iconst X0.here hx rfl (hb hby at_16) k) ?_
  refine Go.step (g' := (mkF m 18 #[.val (.int p0), .val (.int p1), .val (.int p2), .val (.int p3), .val (.int ff), .val (.int ll), .unset, .unset, .unset, .unset, .unset, .unset, .unset, .unset, .unset] [(.int ((p2 &&& (1073741823 : Int32)) + (1 : Int32)))])) (fun _ k => XS.iadd X0.here hx rfl (hb hby at_17) rfl k) ?_
  refine Go.step (g' := (mkF m 20 #[.val (.int p0), .val (.int p1), .val (.int p2), .val (.int p3), .val (.int ff), .val (.int ll), .val (.int ((p2 &&& (1073741823 : Int32)) + (1 : Int32))), .unset, .unset, .unset, .unset, .unset, .unset, .unset, .unset] [])) (fun _ k => XS.istore X0.here hx rfl (hb hby at_18) rfl (l' := #[.val (.int p0), .val (.int p1), .val (.int p2), .val (.int p3), .val (.int ff), .val (.int ll), .val (.int ((p2 &&& (1073741823 : Int32)) + (1 : Int32))), .unset, .unset, .unset, .unset, .unset, .unset, .unset, .unset]) rfl k) ?_
  generalize hmm : ((p2 &&& (1073741823 : Int32)) + (1 : Int32)) = mm
  obtain ⟨mN, hmN, mN1, mN2⟩ : ∃ N : Nat, mm.toInt = N ∧ 1 ≤ N ∧ N ≤ 1073741824 := hmm ▸ own_m _
  refine Go.step (g' := (mkF m 22 #[.val (.int p0), .val (.int p1), .val (.int p2), .val (.int p3), .val (.int ff), .val (.int ll), .val (.int mm), .unset, .unset, .unset, .unset, .unset, .unset, .unset, .unset] [(.int mm)])) (fun _ k => XS.iload X0.here hx rfl (hb hby at_20) rfl  k) ?_
  refine Go.step (g' := (mkF m 23 #[.val (.int p0), .val (.int p1), .val (.int p2), .val (.int p3), .val (.int ff), .val (.int ll), .val (.int mm), .unset, .unset, .unset, .unset, .unset, .unset, .unset, .unset] [(.double (FP.i2d mm))])) (fun _ k => XS.i2dS X0.here hx rfl (hb hby at_22) rfl rfl k) ?_
  refine Go.step (g' := (mkF m 25 #[.val (.int p0), .val (.int p1), .val (.int p2), .val (.int p3), .val (.int ff), .val (.int ll), .val (.int mm), .val (.double (FP.i2d mm)), .second, .unset, .unset, .unset, .unset, .unset, .unset] [])) (fun _ k => XS.dstore X0.here hx rfl (hb hby at_23) rfl (l' := #[.val (.int p0), .val (.int p1), .val (.int p2), .val (.int p3), .val (.int ff), .val (.int ll), .val (.int mm), .val (.double (FP.i2d mm)), .second, .unset, .unset, .unset, .unset, .unset, .unset]) rfl k) ?_
  generalize hmn : (FP.i2d mm) = mn
  have pmn : Ps mn (mN * 2 ^ 1074) := hmn ▸ Ps.ofI hmN
  refine Go.step (g' := (mkF m 27 #[.val (.int p0), .val (.int p1), .val (.int p2), .val (.int p3), .val (.int ff), .val (.int ll), .val (.int mm), .val (.double mn), .second, .unset, .unset, .unset, .unset, .unset, .unset] [(.int mm)])) (fun _ k => XS.iload X0.here hx rfl (hb hby at_25) rfl  k) ?_
  refine Go.step (g' := (mkF m 28 #[.val (.int p0), .val (.int p1), .val (.int p2), .val (.int p3), .val (.int ff), .val (.int ll), .val (.int mm), .val (.double mn), .second, .unset, .unset, .unset, .unset, .unset, .unset] [(.int p3), (.int mm)])) (fun _ k => XS.iloadN X0.here hx rfl (hb hby at_27) rfl  k) ?_
  refine Go.step (g' := (mkF m 30 #[.val (.int p0), .val (.int p1), .val (.int p2), .val (.int p3), .val (.int ff), .val (.int ll), .val (.int mm), .val (.double mn), .second, .unset, .unset, .unset, .unset, .unset, .unset] [(.int (65535 : Int32)), (.int p3), (.int mm)])) (fun _ k => X0.ldcI hx hown (mvT hZ (hw _ (List.mem_of_getElem? (i := 2) rfl))) rfl (hb hby at_28) k) ?_
  refine Go.step (g' := (mkF m 31 #[.val (.int p0), .val (.int p1), .val (.int p2), .val (.int p3), .val (.int ff), .val (.int ll), .val (.int mm), .val (.double mn), .second, .unset, .unset, .unset, .unset, .unset, .unset] [(.int (p3 &&& (65535 : Int32))), (.int mm)])) (fun _ k => XS.iand X0.here hx rfl (hb hby at_30) rfl k) ?_
  refine Go.step (g' := (mkF m 32 #[.val (.int p0), .val (.int p1), .val (.int p2), .val (.int p3), .val (.int ff), .val (.int ll), .val (.int mm), .val (.double mn), .second, .unset, .unset, .unset, .unset, .unset, .unset] [(.int (mm + (p3 &&& (65535 : Int32))))])) (fun _ k => XS.iadd X0.here hx rfl (hb hby at_31) rfl k) ?_
  refine Go.step (g' := (mkF m 34 #[.val (.int p0), .val (.int p1), .val (.int p2), .val (.int p3), .val (.int ff), .val (.int ll), .val (.int mm), .val (.double mn), .second, .val (.int (mm + (p3 &&& (65535 : Int32)))), .unset, .unset, .unset, .unset, .unset] [])) (fun _ k => XS.istore X0.here hx rfl (hb hby at_32) rfl (l' := #[.val (.int p0), .val (.int p1), .val (.int p2), .val (.int p3), .val (.int ff), .val (.int ll), .val (.int mm), .val (.double mn), .second, .val (.int (mm + (p3 &&& (65535 : Int32)))), .unset, .unset, .unset, .unset, .unset]) rfl k) ?_
  generalize hm2 : (mm + (p3 &&& (65535 : Int32))) = m2
  obtain ⟨m2N, hm2N, hle2⟩ : ∃ N : Nat, m2.toInt = N ∧ mN ≤ N := hm2 ▸ own_m2 hmN mN2 _
  refine Go.step (g' := (mkF m 37 #[.val (.int p0), .val (.int p1), .val (.int p2), .val (.int p3), .val (.int ff), .val (.int ll), .val (.int mm), .val (.double mn), .second, .val (.int m2), .unset, .unset, .unset, .unset, .unset] [(.long (2147483647 : Int64))])) (fun _ k => X0.ldc2J hx hown (mvT hZ (hw _ (List.mem_of_getElem? (i := 3) rfl))) rfl (hb hby at_34) k) ?_
  refine Go.step (g' := (mkF m 39 #[.val (.int p0), .val (.int p1), .val (.int p2), .val (.int p3), .val (.int ff), .val (.int ll), .val (.int mm), .val (.double mn), .second, .val (.int m2), .unset, .unset, .unset, .unset, .unset] [(.int ll), (.long (2147483647 : Int64))])) (fun _ k => XS.iload X0.here hx rfl (hb hby at_37) rfl  k) ?_
  refine Go.step (g' := (mkF m 40 #[.val (.int p0), .val (.int p1), .val (.int p2), .val (.int p3), .val (.int ff), .val (.int ll), .val (.int mm), .val (.double mn), .second, .val (.int m2), .unset, .unset, .unset, .unset, .unset] [(.long (ll.toInt64)), (.long (2147483647 : Int64))])) (fun _ k => XS.i2l X0.here hx rfl (hb hby at_39) rfl k) ?_
  refine Go.step (g' := (mkF m 41 #[.val (.int p0), .val (.int p1), .val (.int p2), .val (.int p3), .val (.int ff), .val (.int ll), .val (.int mm), .val (.double mn), .second, .val (.int m2), .unset, .unset, .unset, .unset, .unset] [(.int p3), (.long (ll.toInt64)), (.long (2147483647 : Int64))])) (fun _ k => XS.iloadN X0.here hx rfl (hb hby at_40) rfl  k) ?_
  refine Go.step (g' := (mkF m 43 #[.val (.int p0), .val (.int p1), .val (.int p2), .val (.int p3), .val (.int ff), .val (.int ll), .val (.int mm), .val (.double mn), .second, .val (.int m2), .unset, .unset, .unset, .unset, .unset] [(.int (16 : Int32)), (.int p3), (.long (ll.toInt64)), (.long (2147483647 : Int64))])) (fun _ k => XS.bipush X0.here hx rfl (hb hby at_41) k) ?_
  refine Go.step (g' := (mkF m 44 #[.val (.int p0), .val (.int p1), .val (.int p2), .val (.int p3), .val (.int ff), .val (.int ll), .val (.int mm), .val (.double mn), .second, .val (.int m2), .unset, .unset, .unset, .unset, .unset] [(.int ((p3.toUInt32 >>> ((16 : Int32) &&& 31).toUInt32).toInt32)), (.long (ll.toInt64)), (.long (2147483647 : Int64))])) (fun _ k => XS.iushr X0.here hx rfl (hb hby at_43) rfl k) ?_
  refine Go.step (g' := (mkF m 46 #[.val (.int p0), .val (.int p1), .val (.int p2), .val (.int p3), .val (.int ff), .val (.int ll), .val (.int mm), .val (.double mn), .second, .val (.int m2), .unset, .unset, .unset, .unset, .unset] [(.int (65535 : Int32)), (.int ((p3.toUInt32 >>> ((16 : Int32) &&& 31).toUInt32).toInt32)), (.long (ll.toInt64)), (.long (2147483647 : Int64))])) (fun _ k => X0.ldcI hx hown (mvT hZ (hw _ (List.mem_of_getElem? (i := 2) rfl))) rfl (hb hby at_44) k) ?_
  refine Go.step (g' := (mkF m 47 #[.val (.int p0), .val (.int p1), .val (.int p2), .val (.int p3), .val (.int ff), .val (.int ll), .val (.int mm), .val (.double mn), .second, .val (.int m2), .unset, .unset, .unset, .unset, .unset] [(.int (((p3.toUInt32 >>> ((16 : Int32) &&& 31).toUInt32).toInt32) &&& (65535 : Int32))), (.long (ll.toInt64)), (.long (2147483647 : Int64))])) (fun _ k => XS.iand X0.here hx rfl (hb hby at_46) rfl k) ?_
  refine Go.step (g' := (mkF m 48 #[.val (.int p0), .val (.int p1), .val (.int p2), .val (.int p3), .val (.int ff), .val (.int ll), .val (.int mm), .val (.double mn), .second, .val (.int m2), .unset, .unset, .unset, .unset, .unset] [(.long ((((p3.toUInt32 >>> ((16 : Int32) &&& 31).toUInt32).toInt32) &&& (65535 : Int32)).toInt64)), (.long (ll.toInt64)), (.long (2147483647 : Int64))])) (fun _ k => XS.i2l X0.here hx rfl (hb hby at_47) rfl k) ?_
  refine Go.step (g' := (mkF m 49 #[.val (.int p0), .val (.int p1), .val (.int p2), .val (.int p3), .val (.int ff), .val (.int ll), .val (.int mm), .val (.double mn), .second, .val (.int m2), .unset, .unset, .unset, .unset, .unset] [(.long ((ll.toInt64) + ((((p3.toUInt32 >>> ((16 : Int32) &&& 31).toUInt32).toInt32) &&& (65535 : Int32)).toInt64))), (.long (2147483647 : Int64))])) (fun _ k => XS.ladd X0.here hx rfl (hb hby at_48) rfl k) ?_
  obtain ⟨_, _, ⟨T1, L1, k1, n1⟩, -, X1, ⟨Lc1, hQ1, l1, y1, z1⟩, st1⟩ := Jvm.LawKit.callS X0 hx (y := (⟨"java/lang/Math", "min", "(JJ)J"⟩ : MethodName)) hown (mvT hZ (hw _ (List.mem_of_getElem? (i := 4) rfl))) (mvT hZ (hw _ (List.mem_of_getElem? (i := 5) rfl))) (mvT hZ (hw _ (List.mem_of_getElem? (i := 6) rfl))) (mvT hZ (hw _ (List.mem_of_getElem? (i := 7) rfl))) (by decide) (backOf (W := 0) (rm1 l Z a0 hw [] (2147483647 : Int64) ((ll.toInt64) + ((((p3.toUInt32 >>> ((16 : Int32) &&& 31).toUInt32).toInt32) &&& (65535 : Int32)).toInt64)) h0 ) hZ (hw _ (List.mem_of_getElem? (i := 7) rfl)) (hw _ (List.mem_of_getElem? (i := 6) rfl)) (by decide) (by decide)) (g := (mkF m 49 #[.val (.int p0), .val (.int p1), .val (.int p2), .val (.int p3), .val (.int ff), .val (.int ll), .val (.int mm), .val (.double mn), .second, .val (.int m2), .unset, .unset, .unset, .unset, .unset] [(.long ((ll.toInt64) + ((((p3.toUInt32 >>> ((16 : Int32) &&& 31).toUInt32).toInt32) &&& (65535 : Int32)).toInt64))), (.long (2147483647 : Int64))])) rfl (by rw [hml]; rfl) (argsL := [(.long (2147483647 : Int64)), (.long ((ll.toInt64) + ((((p3.toUInt32 >>> ((16 : Int32) &&& 31).toUInt32).toInt32) &&& (65535 : Int32)).toInt64)))]) (rest := []) (lenOf pd_0 rfl) rfl (by show 2 * 0 + _ ≤ _; exact Nat.le_of_eq rfl) (hb hby at_49) (fun _ _ => ⟨rfl, e0, (by decide : 0 + 0 ≤ _), (by decide : 0 + 0 ≤ _)⟩)
  dsimp only [Pt.U, Pt.locs, Pt.cells, Pt.slots] at X1 l1 y1 z1 st1 hQ1
  subst l1 y1 z1
  obtain ⟨rfl, rfl, e1⟩ := hQ1
  try rw [List.append_nil] at X1
  refine Go.step (g' := (mkF m 52 #[.val (.int p0), .val (.int p1), .val (.int p2), .val (.int p3), .val (.int ff), .val (.int ll), .val (.int mm), .val (.double mn), .second, .val (.int m2), .unset, .unset, .unset, .unset, .unset] [(.long (f1_0 (2147483647 : Int64) ((ll.toInt64) + ((((p3.toUInt32 >>> ((16 : Int32) &&& 31).toUInt32).toInt32) &&& (65535 : Int32)).toInt64))))])) st1 ?_
  refine Go.step (g' := (mkF m 53 #[.val (.int p0), .val (.int p1), .val (.int p2), .val (.int p3), .val (.int ff), .val (.int ll), .val (.int mm), .val (.double mn), .second, .val (.int m2), .unset, .unset, .unset, .unset, .unset] [(.int ((f1_0 (2147483647 : Int64) ((ll.toInt64) + ((((p3.toUInt32 >>> ((16 : Int32) &&& 31).toUInt32).toInt32) &&& (65535 : Int32)).toInt64))).toInt32))])) (fun _ k => XS.l2i X1.here hx rfl (hb hby at_52) rfl k) ?_
  refine Go.step (g' := (mkF m 55 #[.val (.int p0), .val (.int p1), .val (.int p2), .val (.int p3), .val (.int ff), .val (.int ll), .val (.int mm), .val (.double mn), .second, .val (.int m2), .val (.int ((f1_0 (2147483647 : Int64) ((ll.toInt64) + ((((p3.toUInt32 >>> ((16 : Int32) &&& 31).toUInt32).toInt32) &&& (65535 : Int32)).toInt64))).toInt32)), .unset, .unset, .unset, .unset] [])) (fun _ k => XS.istore X1.here hx rfl (hb hby at_53) rfl (l' := #[.val (.int p0), .val (.int p1), .val (.int p2), .val (.int p3), .val (.int ff), .val (.int ll), .val (.int mm), .val (.double mn), .second, .val (.int m2), .val (.int ((f1_0 (2147483647 : Int64) ((ll.toInt64) + ((((p3.toUInt32 >>> ((16 : Int32) &&& 31).toUInt32).toInt32) &&& (65535 : Int32)).toInt64))).toInt32)), .unset, .unset, .unset, .unset]) rfl k) ?_
  generalize hl2 : ((f1_0 (2147483647 : Int64) ((ll.toInt64) + ((((p3.toUInt32 >>> ((16 : Int32) &&& 31).toUInt32).toInt32) &&& (65535 : Int32)).toInt64))).toInt32) = l2
  obtain ⟨l2N, hl2N, hlel⟩ : ∃ N : Nat, l2.toInt = N ∧ lN ≤ N := hl2 ▸ own_l2 hlN _
  refine Go.step (g' := (mkF m 56 #[.val (.int p0), .val (.int p1), .val (.int p2), .val (.int p3), .val (.int ff), .val (.int ll), .val (.int mm), .val (.double mn), .second, .val (.int m2), .val (.int l2), .unset, .unset, .unset, .unset] [(.int p0)])) (fun _ k => XS.iloadN X1.here hx rfl (hb hby at_55) rfl  k) ?_
  refine Go.step (g' := (mkF m 58 #[.val (.int p0), .val (.int p1), .val (.int p2), .val (.int p3), .val (.int ff), .val (.int ll), .val (.int mm), .val (.double mn), .second, .val (.int m2), .val (.int l2), .unset, .unset, .unset, .unset] [(.int (1048575 : Int32)), (.int p0)])) (fun _ k => X1.ldcI hx hown (mvT hZ (hw _ (List.mem_of_getElem? (i := 8) rfl))) rfl (hb hby at_56) k) ?_
  refine Go.step (g' := (mkF m 59 #[.val (.int p0), .val (.int p1), .val (.int p2), .val (.int p3), .val (.int ff), .val (.int ll), .val (.int mm), .val (.double mn), .second, .val (.int m2), .val (.int l2), .unset, .unset, .unset, .unset] [(.int (p0 &&& (1048575 : Int32)))])) (fun _ k => XS.iand X1.here hx rfl (hb hby at_58) rfl k) ?_
  refine Go.step (g' := (mkF m 61 #[.val (.int p0), .val (.int p1), .val (.int p2), .val (.int p3), .val (.int ff), .val (.int ll), .val (.int mm), .val (.double mn), .second, .val (.int m2), .val (.int l2), .val (.int (p0 &&& (1048575 : Int32))), .unset, .unset, .unset] [])) (fun _ k => XS.istore X1.here hx rfl (hb hby at_59) rfl (l' := #[.val (.int p0), .val (.int p1), .val (.int p2), .val (.int p3), .val (.int ff), .val (.int ll), .val (.int mm), .val (.double mn), .second, .val (.int m2), .val (.int l2), .val (.int (p0 &&& (1048575 : Int32))), .unset, .unset, .unset]) rfl k) ?_
  generalize hgg : (p0 &&& (1048575 : Int32)) = gg
  obtain ⟨gN, hgN, bgN⟩ : ∃ N : Nat, gg.toInt = N ∧ N < 1048576 := hgg ▸ own_g _
  have hz0 : (0 : Int32).toInt = ((0 : Nat) : Int) := by decide
  obtain ⟨_, _, _, _, _, T1⟩ := own_tf hfN hlN pmn mN1
  obtain ⟨_, _, _, _, _, T0⟩ := own_tf hz0 hlN pmn mN1
  obtain ⟨_, _, _, _, _, Tm⟩ := own_tf hfN hmN pmn mN1
  obtain ⟨_, _, _, _, _, Tz⟩ := own_tf hfN hz0 pmn mN1
  obtain ⟨_, _, _, _, _, Tl⟩ := own_tf hfN hl2N pmn mN1
  obtain ⟨_, _, _, _, _, Tk⟩ := own_tf hfN hlN (Ps.ofI hm2N) (Nat.le_trans mN1 hle2)
  obtain ⟨_, _, _, _, _, Tg⟩ := own_tf hgN hlN pmn mN1
  obtain ⟨_, _, _, _, _, Tg1⟩ := own_tf (own_g1 hgN bgN) hlN pmn mN1
  refine Go.step (g' := (mkF m 63 #[.val (.int p0), .val (.int p1), .val (.int p2), .val (.int p3), .val (.int ff), .val (.int ll), .val (.int mm), .val (.double mn), .second, .val (.int m2), .val (.int l2), .val (.int gg), .unset, .unset, .unset] [(.int ff)])) (fun _ k => XS.iload X1.here hx rfl (hb hby at_61) rfl  k) ?_
  refine Go.step (g' := (mkF m 65 #[.val (.int p0), .val (.int p1), .val (.int p2), .val (.int p3), .val (.int ff), .val (.int ll), .val (.int mm), .val (.double mn), .second, .val (.int m2), .val (.int l2), .val (.int gg), .unset, .unset, .unset] [(.int ll), (.int ff)])) (fun _ k => XS.iload X1.here hx rfl (hb hby at_63) rfl  k) ?_
  refine Go.step (g' := (mkF m 67 #[.val (.int p0), .val (.int p1), .val (.int p2), .val (.int p3), .val (.int ff), .val (.int ll), .val (.int mm), .val (.double mn), .second, .val (.int m2), .val (.int l2), .val (.int gg), .unset, .unset, .unset] [(.double mn), (.int ll), (.int ff)])) (fun _ k => XS.dload X1.here hx rfl (hb hby at_65) rfl k) ?_
  obtain ⟨_, _, ⟨T2, L2, k2, n2⟩, -, X2, ⟨Lc2, hQ2, l2, y2, z2⟩, st2⟩ := Jvm.LawKit.callS X1 hx (y := (⟨"com/example/laelaps/laelaps/testbed/Bm25", "tfPart", "(IID)D"⟩ : MethodName)) hown (mvT hZ (hw _ (List.mem_of_getElem? (i := 9) rfl))) (mvT hZ (hw _ (List.mem_of_getElem? (i := 10) rfl))) (mvT hZ (hw _ (List.mem_of_getElem? (i := 11) rfl))) (mvT hZ (hw _ (List.mem_of_getElem? (i := 12) rfl))) (by decide) (backOf (W := 0) (rm2 l Z a0 hw [] ff ll mn h0 ⟨_, _, _, _, _, _, _, _, hlN, T1⟩) hZ (hw _ (List.mem_of_getElem? (i := 12) rfl)) (hw _ (List.mem_of_getElem? (i := 11) rfl)) (by decide) (by decide)) (g := (mkF m 67 #[.val (.int p0), .val (.int p1), .val (.int p2), .val (.int p3), .val (.int ff), .val (.int ll), .val (.int mm), .val (.double mn), .second, .val (.int m2), .val (.int l2), .val (.int gg), .unset, .unset, .unset] [(.double mn), (.int ll), (.int ff)])) rfl (by rw [hml]; rfl) (argsL := [(.int ff), (.int ll), (.double mn)]) (rest := []) (lenOf pd_1 rfl) rfl (by show 2 * 0 + _ ≤ _; exact Nat.le_of_eq rfl) (hb hby at_67) (fun _ _ => ⟨rfl, e1, (by decide : 0 + 0 ≤ _), (by decide : 0 + 0 ≤ _)⟩)
  dsimp only [Pt.U, Pt.locs, Pt.cells, Pt.slots] at X2 l2 y2 z2 st2 hQ2
  subst l2 y2 z2
  obtain ⟨rfl, rfl, e2⟩ := hQ2
  try rw [List.append_nil] at X2
  refine Go.step (g' := (mkF m 70 #[.val (.int p0), .val (.int p1), .val (.int p2), .val (.int p3), .val (.int ff), .val (.int ll), .val (.int mm), .val (.double mn), .second, .val (.int m2), .val (.int l2), .val (.int gg), .unset, .unset, .unset] [(.double (f2_0 ff ll mn))])) st2 ?_
  refine Go.step (g' := (mkF m 72 #[.val (.int p0), .val (.int p1), .val (.int p2), .val (.int p3), .val (.int ff), .val (.int ll), .val (.int mm), .val (.double mn), .second, .val (.int m2), .val (.int l2), .val (.int gg), .val (.double (f2_0 ff ll mn)), .second, .unset] [])) (fun _ k => XS.dstore X2.here hx rfl (hb hby at_70) rfl (l' := #[.val (.int p0), .val (.int p1), .val (.int p2), .val (.int p3), .val (.int ff), .val (.int ll), .val (.int mm), .val (.double mn), .second, .val (.int m2), .val (.int l2), .val (.int gg), .val (.double (f2_0 ff ll mn)), .second, .unset]) rfl k) ?_
  refine Go.step (g' := (mkF m 73 #[.val (.int p0), .val (.int p1), .val (.int p2), .val (.int p3), .val (.int ff), .val (.int ll), .val (.int mm), .val (.double mn), .second, .val (.int m2), .val (.int l2), .val (.int gg), .val (.double (f2_0 ff ll mn)), .second, .unset] [(.int (1 : Int32))])) (fun _ k => XS.iconst X2.here hx rfl (hb hby at_72) k) ?_
  refine Go.step (g' := (mkF m 75 #[.val (.int p0), .val (.int p1), .val (.int p2), .val (.int p3), .val (.int ff), .val (.int ll), .val (.int mm), .val (.double mn), .second, .val (.int m2), .val (.int l2), .val (.int gg), .val (.double (f2_0 ff ll mn)), .second, .val (.int (1 : Int32))] [])) (fun _ k => XS.istore X2.here hx rfl (hb hby at_73) rfl (l' := #[.val (.int p0), .val (.int p1), .val (.int p2), .val (.int p3), .val (.int ff), .val (.int ll), .val (.int mm), .val (.double mn), .second, .val (.int m2), .val (.int l2), .val (.int gg), .val (.double (f2_0 ff ll mn)), .second, .val (.int (1 : Int32))]) rfl k) ?_
  rw [show f0_0 = (f0_75 ff) from (law_75 _).symm]
  refine Go.step (g' := (mkF m 77 #[.val (.int p0), .val (.int p1), .val (.int p2), .val (.int p3), .val (.int ff), .val (.int ll), .val (.int mm), .val (.double mn), .second, .val (.int m2), .val (.int l2), .val (.int gg), .val (.double (f2_0 ff ll mn)), .second, .val (.int (1 : Int32))] [(.int ff)])) (fun _ k => XS.iload X2.here hx rfl (hb hby at_75) rfl  k) ?_
  have t118 : Go p e below s room_1.cells room_1.slots (PureQ (.int f0_118) h0) T2 (mkF m 118 #[.val (.int p0), .val (.int p1), .val (.int p2), .val (.int p3), .val (.int ff), .val (.int ll), .val (.int mm), .val (.double mn), .second, .val (.int m2), .val (.int l2), .val (.int gg), .val (.double (f2_0 ff ll mn)), .second, .val (.int (1 : Int32))] []) := by
    refine Go.step (g' := (mkF m 120 #[.val (.int p0), .val (.int p1), .val (.int p2), .val (.int p3), .val (.int ff), .val (.int ll), .val (.int mm), .val (.double mn), .second, .val (.int m2), .val (.int l2), .val (.int gg), .val (.double (f2_0 ff ll mn)), .second, .val (.int (1 : Int32))] [(.int (1 : Int32))])) (fun _ k => XS.iload X2.here hx rfl (hb hby at_118) rfl  k) ?_
    refine Go.step (g' := (mkF m 123 #[.val (.int p0), .val (.int p1), .val (.int p2), .val (.int p3), .val (.int ff), .val (.int ll), .val (.int mm), .val (.double mn), .second, .val (.int m2), .val (.int l2), .val (.int gg), .val (.double (f2_0 ff ll mn)), .second, .val (.int (1 : Int32))] [])) (fun _ k => XS.ifNo X2.here hx rfl (hb hby at_120) rfl ((if0 _ _).trans (feq (by decide : ¬ ((1 : Int32) = (0 : Int32)))).1) k) ?_
    rw [show f0_118 = f0_123 from rfl]
    refine Go.step (g' := (mkF m 124 #[.val (.int p0), .val (.int p1), .val (.int p2), .val (.int p3), .val (.int ff), .val (.int ll), .val (.int mm), .val (.double mn), .second, .val (.int m2), .val (.int l2), .val (.int gg), .val (.double (f2_0 ff ll mn)), .second, .val (.int (1 : Int32))] [(.int (0 : Int32))])) (fun _ k => XS.iconst X2.here hx rfl (hb hby at_123) k) ?_
    refine Go.step (g' := (mkF m 126 #[.val (.int p0), .val (.int p1), .val (.int p2), .val (.int p3), .val (.int ff), .val (.int ll), .val (.int mm), .val (.double mn), .second, .val (.int m2), .val (.int l2), .val (.int gg), .val (.double (f2_0 ff ll mn)), .second, .val (.int (1 : Int32))] [(.int ll), (.int (0 : Int32))])) (fun _ k => XS.iload X2.here hx rfl (hb hby at_124) rfl  k) ?_
    refine Go.step (g' := (mkF m 128 #[.val (.int p0), .val (.int p1), .val (.int p2), .val (.int p3), .val (.int ff), .val (.int ll), .val (.int mm), .val (.double mn), .second, .val (.int m2), .val (.int l2), .val (.int gg), .val (.double (f2_0 ff ll mn)), .second, .val (.int (1 : Int32))] [(.double mn), (.int ll), (.int (0 : Int32))])) (fun _ k => XS.dload X2.here hx rfl (hb hby at_126) rfl k) ?_
    obtain ⟨_, _, ⟨T3, L3, k3, n3⟩, -, X3, ⟨Lc3, hQ3, l3, y3, z3⟩, st3⟩ := Jvm.LawKit.callS X2 hx (y := (⟨"com/example/laelaps/laelaps/testbed/Bm25", "tfPart", "(IID)D"⟩ : MethodName)) hown (mvT hZ (hw _ (List.mem_of_getElem? (i := 9) rfl))) (mvT hZ (hw _ (List.mem_of_getElem? (i := 10) rfl))) (mvT hZ (hw _ (List.mem_of_getElem? (i := 11) rfl))) (mvT hZ (hw _ (List.mem_of_getElem? (i := 12) rfl))) (by decide) (backOf (W := 0) (rm2 l Z a0 hw [] (0 : Int32) ll mn h0 ⟨_, _, _, _, _, _, _, _, hlN, T0⟩) hZ (hw _ (List.mem_of_getElem? (i := 12) rfl)) (hw _ (List.mem_of_getElem? (i := 11) rfl)) (by decide) (by decide)) (g := (mkF m 128 #[.val (.int p0), .val (.int p1), .val (.int p2), .val (.int p3), .val (.int ff), .val (.int ll), .val (.int mm), .val (.double mn), .second, .val (.int m2), .val (.int l2), .val (.int gg), .val (.double (f2_0 ff ll mn)), .second, .val (.int (1 : Int32))] [(.double mn), (.int ll), (.int (0 : Int32))])) rfl (by rw [hml]; rfl) (argsL := [(.int (0 : Int32)), (.int ll), (.double mn)]) (rest := []) (lenOf pd_1 rfl) rfl (by show 2 * 0 + _ ≤ _; exact Nat.le_of_eq rfl) (hb hby at_128) (fun _ _ => ⟨rfl, e2, (by decide : 0 + 0 ≤ _), (by decide : 0 + 0 ≤ _)⟩)
    dsimp only [Pt.U, Pt.locs, Pt.cells, Pt.slots] at X3 l3 y3 z3 st3 hQ3
    subst l3 y3 z3
    obtain ⟨rfl, rfl, e3⟩ := hQ3
    try rw [List.append_nil] at X3
    refine Go.step (g' := (mkF m 131 #[.val (.int p0), .val (.int p1), .val (.int p2), .val (.int p3), .val (.int ff), .val (.int ll), .val (.int mm), .val (.double mn), .second, .val (.int m2), .val (.int l2), .val (.int gg), .val (.double (f2_0 ff ll mn)), .second, .val (.int (1 : Int32))] [(.double (f2_0 (0 : Int32) ll mn))])) st3 ?_
    refine Go.step (g' := (mkF m 132 #[.val (.int p0), .val (.int p1), .val (.int p2), .val (.int p3), .val (.int ff), .val (.int ll), .val (.int mm), .val (.double mn), .second, .val (.int m2), .val (.int l2), .val (.int gg), .val (.double (f2_0 ff ll mn)), .second, .val (.int (1 : Int32))] [(.double (0 : UInt64)), (.double (f2_0 (0 : Int32) ll mn))])) (fun _ k => XS.dconst0 X3.here hx rfl (hb hby at_131) (by decide +kernel) k) ?_
    refine Go.step (g' := (mkF m 133 #[.val (.int p0), .val (.int p1), .val (.int p2), .val (.int p3), .val (.int ff), .val (.int ll), .val (.int mm), .val (.double mn), .second, .val (.int m2), .val (.int l2), .val (.int gg), .val (.double (f2_0 ff ll mn)), .second, .val (.int (1 : Int32))] [(.int (cmpValue (FP.dcmp (f2_0 (0 : Int32) ll mn) (0 : UInt64)) .l))])) (fun _ k => XS.dcmpS X3.here hx rfl (hb hby at_132) rfl rfl k) ?_
    refine Go.step (g' := (mkF m 136 #[.val (.int p0), .val (.int p1), .val (.int p2), .val (.int p3), .val (.int ff), .val (.int ll), .val (.int mm), .val (.double mn), .second, .val (.int m2), .val (.int l2), .val (.int gg), .val (.double (f2_0 ff ll mn)), .second, .val (.int (1 : Int32))] [])) (fun _ k => XS.ifNo X3.here hx rfl (hb hby at_133) rfl ((if0 _ _).trans (teq (own_k84 T0 rfl : (cmpValue (FP.dcmp (f2_0 (0 : Int32) ll mn) (0 : UInt64)) .l) = (0 : Int32))).2) k) ?_
    rw [show f0_123 = f0_136 from rfl]
    refine Go.step (g' := (mkF m 137 #[.val (.int p0), .val (.int p1), .val (.int p2), .val (.int p3), .val (.int ff), .val (.int ll), .val (.int mm), .val (.double mn), .second, .val (.int m2), .val (.int l2), .val (.int gg), .val (.double (f2_0 ff ll mn)), .second, .val (.int (1 : Int32))] [(.int (1 : Int32))])) (fun _ k => XS.iconst X3.here hx rfl (hb hby at_136) k) ?_
    refine Go.step (g' := (mkF m 141 #[.val (.int p0), .val (.int p1), .val (.int p2), .val (.int p3), .val (.int ff), .val (.int ll), .val (.int mm), .val (.double mn), .second, .val (.int m2), .val (.int l2), .val (.int gg), .val (.double (f2_0 ff ll mn)), .second, .val (.int (1 : Int32))] [(.int (1 : Int32))])) (fun _ k => XS.goto X3.here hx rfl (pc0 := 137) (pc' := 141) rfl (hb hby at_137) (by decide) (by decide) k) ?_
    rw [show f0_136 = f0_141 from rfl]
    refine Go.step (g' := (mkF m 143 #[.val (.int p0), .val (.int p1), .val (.int p2), .val (.int p3), .val (.int ff), .val (.int ll), .val (.int mm), .val (.double mn), .second, .val (.int m2), .val (.int l2), .val (.int gg), .val (.double (f2_0 ff ll mn)), .second, .val (.int (1 : Int32))] [])) (fun _ k => XS.istore X3.here hx rfl (hb hby at_141) rfl (l' := #[.val (.int p0), .val (.int p1), .val (.int p2), .val (.int p3), .val (.int ff), .val (.int ll), .val (.int mm), .val (.double mn), .second, .val (.int m2), .val (.int l2), .val (.int gg), .val (.double (f2_0 ff ll mn)), .second, .val (.int (1 : Int32))]) rfl k) ?_
    refine Go.step (g' := (mkF m 145 #[.val (.int p0), .val (.int p1), .val (.int p2), .val (.int p3), .val (.int ff), .val (.int ll), .val (.int mm), .val (.double mn), .second, .val (.int m2), .val (.int l2), .val (.int gg), .val (.double (f2_0 ff ll mn)), .second, .val (.int (1 : Int32))] [(.int (1 : Int32))])) (fun _ k => XS.iload X3.here hx rfl (hb hby at_143) rfl  k) ?_
    refine Go.step (g' := (mkF m 148 #[.val (.int p0), .val (.int p1), .val (.int p2), .val (.int p3), .val (.int ff), .val (.int ll), .val (.int mm), .val (.double mn), .second, .val (.int m2), .val (.int l2), .val (.int gg), .val (.double (f2_0 ff ll mn)), .second, .val (.int (1 : Int32))] [])) (fun _ k => XS.ifNo X3.here hx rfl (hb hby at_145) rfl ((if0 _ _).trans (feq (by decide : ¬ ((1 : Int32) = (0 : Int32)))).1) k) ?_
    rw [show f0_141 = f0_148 from rfl]
    refine Go.step (g' := (mkF m 150 #[.val (.int p0), .val (.int p1), .val (.int p2), .val (.int p3), .val (.int ff), .val (.int ll), .val (.int mm), .val (.double mn), .second, .val (.int m2), .val (.int l2), .val (.int gg), .val (.double (f2_0 ff ll mn)), .second, .val (.int (1 : Int32))] [(.int ff)])) (fun _ k => XS.iload X3.here hx rfl (hb hby at_148) rfl  k) ?_
    refine Go.step (g' := (mkF m 152 #[.val (.int p0), .val (.int p1), .val (.int p2), .val (.int p3), .val (.int ff), .val (.int ll), .val (.int mm), .val (.double mn), .second, .val (.int m2), .val (.int l2), .val (.int gg), .val (.double (f2_0 ff ll mn)), .second, .val (.int (1 : Int32))] [(.int mm), (.int ff)])) (fun _ k => XS.iload X3.here hx rfl (hb hby at_150) rfl  k) ?_
    refine Go.step (g' := (mkF m 154 #[.val (.int p0), .val (.int p1), .val (.int p2), .val (.int p3), .val (.int ff), .val (.int ll), .val (.int mm), .val (.double mn), .second, .val (.int m2), .val (.int l2), .val (.int gg), .val (.double (f2_0 ff ll mn)), .second, .val (.int (1 : Int32))] [(.double mn), (.int mm), (.int ff)])) (fun _ k => XS.dload X3.here hx rfl (hb hby at_152) rfl k) ?_
    obtain ⟨_, _, ⟨T4, L4, k4, n4⟩, -, X4, ⟨Lc4, hQ4, l4, y4, z4⟩, st4⟩ := Jvm.LawKit.callS X3 hx (y := (⟨"com/example/laelaps/laelaps/testbed/Bm25", "tfPart", "(IID)D"⟩ : MethodName)) hown (mvT hZ (hw _ (List.mem_of_getElem? (i := 9) rfl))) (mvT hZ (hw _ (List.mem_of_getElem? (i := 10) rfl))) (mvT hZ (hw _ (List.mem_of_getElem? (i := 11) rfl))) (mvT hZ (hw _ (List.mem_of_getElem? (i := 12) rfl))) (by decide) (backOf (W := 0) (rm2 l Z a0 hw [] ff mm mn h0 ⟨_, _, _, _, _, _, _, _, hmN, Tm⟩) hZ (hw _ (List.mem_of_getElem? (i := 12) rfl)) (hw _ (List.mem_of_getElem? (i := 11) rfl)) (by decide) (by decide)) (g := (mkF m 154 #[.val (.int p0), .val (.int p1), .val (.int p2), .val (.int p3), .val (.int ff), .val (.int ll), .val (.int mm), .val (.double mn), .second, .val (.int m2), .val (.int l2), .val (.int gg), .val (.double (f2_0 ff ll mn)), .second, .val (.int (1 : Int32))] [(.double mn), (.int mm), (.int ff)])) rfl (by rw [hml]; rfl) (argsL := [(.int ff), (.int mm), (.double mn)]) (rest := []) (lenOf pd_1 rfl) rfl (by show 2 * 0 + _ ≤ _; exact Nat.le_of_eq rfl) (hb hby at_154) (fun _ _ => ⟨rfl, e3, (by decide : 0 + 0 ≤ _), (by decide : 0 + 0 ≤ _)⟩)
    dsimp only [Pt.U, Pt.locs, Pt.cells, Pt.slots] at X4 l4 y4 z4 st4 hQ4
    subst l4 y4 z4
    obtain ⟨rfl, rfl, e4⟩ := hQ4
    try rw [List.append_nil] at X4
    refine Go.step (g' := (mkF m 157 #[.val (.int p0), .val (.int p1), .val (.int p2), .val (.int p3), .val (.int ff), .val (.int ll), .val (.int mm), .val (.double mn), .second, .val (.int m2), .val (.int l2), .val (.int gg), .val (.double (f2_0 ff ll mn)), .second, .val (.int (1 : Int32))] [(.double (f2_0 ff mm mn))])) st4 ?_
    refine Go.step (g' := (mkF m 159 #[.val (.int p0), .val (.int p1), .val (.int p2), .val (.int p3), .val (.int ff), .val (.int ll), .val (.int mm), .val (.double mn), .second, .val (.int m2), .val (.int l2), .val (.int gg), .val (.double (f2_0 ff ll mn)), .second, .val (.int (1 : Int32))] [(.int ff), (.double (f2_0 ff mm mn))])) (fun _ k => XS.iload X4.here hx rfl (hb hby at_157) rfl  k) ?_
    refine Go.step (g' := (mkF m 160 #[.val (.int p0), .val (.int p1), .val (.int p2), .val (.int p3), .val (.int ff), .val (.int ll), .val (.int mm), .val (.double mn), .second, .val (.int m2), .val (.int l2), .val (.int gg), .val (.double (f2_0 ff ll mn)), .second, .val (.int (1 : Int32))] [(.double (FP.i2d ff)), (.double (f2_0 ff mm mn))])) (fun _ k => XS.i2dS X4.here hx rfl (hb hby at_159) rfl rfl k) ?_
    refine Go.step (g' := (mkF m 162 #[.val (.int p0), .val (.int p1), .val (.int p2), .val (.int p3), .val (.int ff), .val (.int ll), .val (.int mm), .val (.double mn), .second, .val (.int m2), .val (.int l2), .val (.int gg), .val (.double (f2_0 ff ll mn)), .second, .val (.int (1 : Int32))] [(.int ff), (.double (FP.i2d ff)), (.double (f2_0 ff mm mn))])) (fun _ k => XS.iload X4.here hx rfl (hb hby at_160) rfl  k) ?_
    refine Go.step (g' := (mkF m 163 #[.val (.int p0), .val (.int p1), .val (.int p2), .val (.int p3), .val (.int ff), .val (.int ll), .val (.int mm), .val (.double mn), .second, .val (.int m2), .val (.int l2), .val (.int gg), .val (.double (f2_0 ff ll mn)), .second, .val (.int (1 : Int32))] [(.double (FP.i2d ff)), (.double (FP.i2d ff)), (.double (f2_0 ff mm mn))])) (fun _ k => XS.i2dS X4.here hx rfl (hb hby at_162) rfl rfl k) ?_
    have kd5 : (Jvm.Cond.constantDouble "com/example/laelaps/laelaps/testbed/Bm25TfPartPinLaw" 25 (4608083138725491507 : UInt64)).before #[(.int p0), (.int p1), (.int p2), (.int p3)] s = true := mvT hZ (hw _ (List.mem_of_getElem? (i := 16) rfl))
    refine Go.step (g' := (mkF m 166 #[.val (.int p0), .val (.int p1), .val (.int p2), .val (.int p3), .val (.int ff), .val (.int ll), .val (.int mm), .val (.double mn), .second, .val (.int m2), .val (.int l2), .val (.int gg), .val (.double (f2_0 ff ll mn)), .second, .val (.int (1 : Int32))] [(.double (4608083138725491507 : UInt64)), (.double (FP.i2d ff)), (.double (FP.i2d ff)), (.double (f2_0 ff mm mn))])) (fun _ k => X4.ldc2DoubleC hx hown kd5 (g := (mkF m 163 #[.val (.int p0), .val (.int p1), .val (.int p2), .val (.int p3), .val (.int ff), .val (.int ll), .val (.int mm), .val (.double mn), .second, .val (.int m2), .val (.int l2), .val (.int gg), .val (.double (f2_0 ff ll mn)), .second, .val (.int (1 : Int32))] [(.double (FP.i2d ff)), (.double (FP.i2d ff)), (.double (f2_0 ff mm mn))])) rfl (hb hby at_163) _ k) ?_
    refine Go.step (g' := (mkF m 167 #[.val (.int p0), .val (.int p1), .val (.int p2), .val (.int p3), .val (.int ff), .val (.int ll), .val (.int mm), .val (.double mn), .second, .val (.int m2), .val (.int l2), .val (.int gg), .val (.double (f2_0 ff ll mn)), .second, .val (.int (1 : Int32))] [(.double (FP.dadd (FP.i2d ff) (4608083138725491507 : UInt64))), (.double (FP.i2d ff)), (.double (f2_0 ff mm mn))])) (fun _ k => XS.daddS X4.here hx rfl (hb hby at_166) rfl (Tm.same hfN (by rw [Tm.n4m]; exact own_K)).1.noNaN rfl k) ?_
    refine Go.step (g' := (mkF m 168 #[.val (.int p0), .val (.int p1), .val (.int p2), .val (.int p3), .val (.int ff), .val (.int ll), .val (.int mm), .val (.double mn), .second, .val (.int m2), .val (.int l2), .val (.int gg), .val (.double (f2_0 ff ll mn)), .second, .val (.int (1 : Int32))] [(.double (FP.ddiv (FP.i2d ff) (FP.dadd (FP.i2d ff) (4608083138725491507 : UInt64)))), (.double (f2_0 ff mm mn))])) (fun _ k => XS.ddivS X4.here hx rfl (hb hby at_167) rfl (Tm.same hfN (by rw [Tm.n4m]; exact own_K)).2.noNaN rfl k) ?_
    refine Go.step (g' := (mkF m 169 #[.val (.int p0), .val (.int p1), .val (.int p2), .val (.int p3), .val (.int ff), .val (.int ll), .val (.int mm), .val (.double mn), .second, .val (.int m2), .val (.int l2), .val (.int gg), .val (.double (f2_0 ff ll mn)), .second, .val (.int (1 : Int32))] [(.int (cmpValue (FP.dcmp (f2_0 ff mm mn) (FP.ddiv (FP.i2d ff) (FP.dadd (FP.i2d ff) (4608083138725491507 : UInt64)))) .l))])) (fun _ k => XS.dcmpS X4.here hx rfl (hb hby at_168) rfl rfl k) ?_
    refine Go.step (g' := (mkF m 172 #[.val (.int p0), .val (.int p1), .val (.int p2), .val (.int p3), .val (.int ff), .val (.int ll), .val (.int mm), .val (.double mn), .second, .val (.int m2), .val (.int l2), .val (.int gg), .val (.double (f2_0 ff ll mn)), .second, .val (.int (1 : Int32))] [])) (fun _ k => XS.ifNo X4.here hx rfl (hb hby at_169) rfl ((if0 _ _).trans (teq (Ps.eq0 (own_ps Tm) (Tm.same hfN (by rw [Tm.n4m]; exact own_K)).2 .l : (cmpValue (FP.dcmp (f2_0 ff mm mn) (FP.ddiv (FP.i2d ff) (FP.dadd (FP.i2d ff) (4608083138725491507 : UInt64)))) .l) = (0 : Int32))).2) k) ?_
    rw [show f0_148 = f0_172 from rfl]
    refine Go.step (g' := (mkF m 173 #[.val (.int p0), .val (.int p1), .val (.int p2), .val (.int p3), .val (.int ff), .val (.int ll), .val (.int mm), .val (.double mn), .second, .val (.int m2), .val (.int l2), .val (.int gg), .val (.double (f2_0 ff ll mn)), .second, .val (.int (1 : Int32))] [(.int (1 : Int32))])) (fun _ k => XS.iconst X4.here hx rfl (hb hby at_172) k) ?_
    refine Go.step (g' := (mkF m 177 #[.val (.int p0), .val (.int p1), .val (.int p2), .val (.int p3), .val (.int ff), .val (.int ll), .val (.int mm), .val (.double mn), .second, .val (.int m2), .val (.int l2), .val (.int gg), .val (.double (f2_0 ff ll mn)), .second, .val (.int (1 : Int32))] [(.int (1 : Int32))])) (fun _ k => XS.goto X4.here hx rfl (pc0 := 173) (pc' := 177) rfl (hb hby at_173) (by decide) (by decide) k) ?_
    rw [show f0_172 = f0_177 from rfl]
    refine Go.step (g' := (mkF m 179 #[.val (.int p0), .val (.int p1), .val (.int p2), .val (.int p3), .val (.int ff), .val (.int ll), .val (.int mm), .val (.double mn), .second, .val (.int m2), .val (.int l2), .val (.int gg), .val (.double (f2_0 ff ll mn)), .second, .val (.int (1 : Int32))] [])) (fun _ k => XS.istore X4.here hx rfl (hb hby at_177) rfl (l' := #[.val (.int p0), .val (.int p1), .val (.int p2), .val (.int p3), .val (.int ff), .val (.int ll), .val (.int mm), .val (.double mn), .second, .val (.int m2), .val (.int l2), .val (.int gg), .val (.double (f2_0 ff ll mn)), .second, .val (.int (1 : Int32))]) rfl k) ?_
    refine Go.step (g' := (mkF m 181 #[.val (.int p0), .val (.int p1), .val (.int p2), .val (.int p3), .val (.int ff), .val (.int ll), .val (.int mm), .val (.double mn), .second, .val (.int m2), .val (.int l2), .val (.int gg), .val (.double (f2_0 ff ll mn)), .second, .val (.int (1 : Int32))] [(.int (1 : Int32))])) (fun _ k => XS.iload X4.here hx rfl (hb hby at_179) rfl  k) ?_
    refine Go.step (g' := (mkF m 184 #[.val (.int p0), .val (.int p1), .val (.int p2), .val (.int p3), .val (.int ff), .val (.int ll), .val (.int mm), .val (.double mn), .second, .val (.int m2), .val (.int l2), .val (.int gg), .val (.double (f2_0 ff ll mn)), .second, .val (.int (1 : Int32))] [])) (fun _ k => XS.ifNo X4.here hx rfl (hb hby at_181) rfl ((if0 _ _).trans (feq (by decide : ¬ ((1 : Int32) = (0 : Int32)))).1) k) ?_
    rw [show f0_177 = f0_184 from rfl]
    refine Go.step (g' := (mkF m 186 #[.val (.int p0), .val (.int p1), .val (.int p2), .val (.int p3), .val (.int ff), .val (.int ll), .val (.int mm), .val (.double mn), .second, .val (.int m2), .val (.int l2), .val (.int gg), .val (.double (f2_0 ff ll mn)), .second, .val (.int (1 : Int32))] [(.int ff)])) (fun _ k => XS.iload X4.here hx rfl (hb hby at_184) rfl  k) ?_
    refine Go.step (g' := (mkF m 187 #[.val (.int p0), .val (.int p1), .val (.int p2), .val (.int p3), .val (.int ff), .val (.int ll), .val (.int mm), .val (.double mn), .second, .val (.int m2), .val (.int l2), .val (.int gg), .val (.double (f2_0 ff ll mn)), .second, .val (.int (1 : Int32))] [(.int (0 : Int32)), (.int ff)])) (fun _ k => XS.iconst X4.here hx rfl (hb hby at_186) k) ?_
    refine Go.step (g' := (mkF m 189 #[.val (.int p0), .val (.int p1), .val (.int p2), .val (.int p3), .val (.int ff), .val (.int ll), .val (.int mm), .val (.double mn), .second, .val (.int m2), .val (.int l2), .val (.int gg), .val (.double (f2_0 ff ll mn)), .second, .val (.int (1 : Int32))] [(.double mn), (.int (0 : Int32)), (.int ff)])) (fun _ k => XS.dload X4.here hx rfl (hb hby at_187) rfl k) ?_
    obtain ⟨_, _, ⟨T6, L6, k6, n6⟩, -, X6, ⟨Lc6, hQ6, l6, y6, z6⟩, st6⟩ := Jvm.LawKit.callS X4 hx (y := (⟨"com/example/laelaps/laelaps/testbed/Bm25", "tfPart", "(IID)D"⟩ : MethodName)) hown (mvT hZ (hw _ (List.mem_of_getElem? (i := 9) rfl))) (mvT hZ (hw _ (List.mem_of_getElem? (i := 10) rfl))) (mvT hZ (hw _ (List.mem_of_getElem? (i := 11) rfl))) (mvT hZ (hw _ (List.mem_of_getElem? (i := 12) rfl))) (by decide) (backOf (W := 0) (rm2 l Z a0 hw [] ff (0 : Int32) mn h0 ⟨_, _, _, _, _, _, _, _, hz0, Tz⟩) hZ (hw _ (List.mem_of_getElem? (i := 12) rfl)) (hw _ (List.mem_of_getElem? (i := 11) rfl)) (by decide) (by decide)) (g := (mkF m 189 #[.val (.int p0), .val (.int p1), .val (.int p2), .val (.int p3), .val (.int ff), .val (.int ll), .val (.int mm), .val (.double mn), .second, .val (.int m2), .val (.int l2), .val (.int gg), .val (.double (f2_0 ff ll mn)), .second, .val (.int (1 : Int32))] [(.double mn), (.int (0 : Int32)), (.int ff)])) rfl (by rw [hml]; rfl) (argsL := [(.int ff), (.int (0 : Int32)), (.double mn)]) (rest := []) (lenOf pd_1 rfl) rfl (by show 2 * 0 + _ ≤ _; exact Nat.le_of_eq rfl) (hb hby at_189) (fun _ _ => ⟨rfl, e4, (by decide : 0 + 0 ≤ _), (by decide : 0 + 0 ≤ _)⟩)
    dsimp only [Pt.U, Pt.locs, Pt.cells, Pt.slots] at X6 l6 y6 z6 st6 hQ6
    subst l6 y6 z6
    obtain ⟨rfl, rfl, e6⟩ := hQ6
    try rw [List.append_nil] at X6
    refine Go.step (g' := (mkF m 192 #[.val (.int p0), .val (.int p1), .val (.int p2), .val (.int p3), .val (.int ff), .val (.int ll), .val (.int mm), .val (.double mn), .second, .val (.int m2), .val (.int l2), .val (.int gg), .val (.double (f2_0 ff ll mn)), .second, .val (.int (1 : Int32))] [(.double (f2_0 ff (0 : Int32) mn))])) st6 ?_
    refine Go.step (g' := (mkF m 194 #[.val (.int p0), .val (.int p1), .val (.int p2), .val (.int p3), .val (.int ff), .val (.int ll), .val (.int mm), .val (.double mn), .second, .val (.int m2), .val (.int l2), .val (.int gg), .val (.double (f2_0 ff ll mn)), .second, .val (.int (1 : Int32))] [(.int ff), (.double (f2_0 ff (0 : Int32) mn))])) (fun _ k => XS.iload X6.here hx rfl (hb hby at_192) rfl  k) ?_
    refine Go.step (g' := (mkF m 195 #[.val (.int p0), .val (.int p1), .val (.int p2), .val (.int p3), .val (.int ff), .val (.int ll), .val (.int mm), .val (.double mn), .second, .val (.int m2), .val (.int l2), .val (.int gg), .val (.double (f2_0 ff ll mn)), .second, .val (.int (1 : Int32))] [(.double (FP.i2d ff)), (.double (f2_0 ff (0 : Int32) mn))])) (fun _ k => XS.i2dS X6.here hx rfl (hb hby at_194) rfl rfl k) ?_
    refine Go.step (g' := (mkF m 197 #[.val (.int p0), .val (.int p1), .val (.int p2), .val (.int p3), .val (.int ff), .val (.int ll), .val (.int mm), .val (.double mn), .second, .val (.int m2), .val (.int l2), .val (.int gg), .val (.double (f2_0 ff ll mn)), .second, .val (.int (1 : Int32))] [(.int ff), (.double (FP.i2d ff)), (.double (f2_0 ff (0 : Int32) mn))])) (fun _ k => XS.iload X6.here hx rfl (hb hby at_195) rfl  k) ?_
    refine Go.step (g' := (mkF m 198 #[.val (.int p0), .val (.int p1), .val (.int p2), .val (.int p3), .val (.int ff), .val (.int ll), .val (.int mm), .val (.double mn), .second, .val (.int m2), .val (.int l2), .val (.int gg), .val (.double (f2_0 ff ll mn)), .second, .val (.int (1 : Int32))] [(.double (FP.i2d ff)), (.double (FP.i2d ff)), (.double (f2_0 ff (0 : Int32) mn))])) (fun _ k => XS.i2dS X6.here hx rfl (hb hby at_197) rfl rfl k) ?_
    have kd7 : (Jvm.Cond.constantDouble "com/example/laelaps/laelaps/testbed/Bm25TfPartPinLaw" 27 (4599075939470750515 : UInt64)).before #[(.int p0), (.int p1), (.int p2), (.int p3)] s = true := mvT hZ (hw _ (List.mem_of_getElem? (i := 17) rfl))
    refine Go.step (g' := (mkF m 201 #[.val (.int p0), .val (.int p1), .val (.int p2), .val (.int p3), .val (.int ff), .val (.int ll), .val (.int mm), .val (.double mn), .second, .val (.int m2), .val (.int l2), .val (.int gg), .val (.double (f2_0 ff ll mn)), .second, .val (.int (1 : Int32))] [(.double (4599075939470750515 : UInt64)), (.double (FP.i2d ff)), (.double (FP.i2d ff)), (.double (f2_0 ff (0 : Int32) mn))])) (fun _ k => X6.ldc2DoubleC hx hown kd7 (g := (mkF m 198 #[.val (.int p0), .val (.int p1), .val (.int p2), .val (.int p3), .val (.int ff), .val (.int ll), .val (.int mm), .val (.double mn), .second, .val (.int m2), .val (.int l2), .val (.int gg), .val (.double (f2_0 ff ll mn)), .second, .val (.int (1 : Int32))] [(.double (FP.i2d ff)), (.double (FP.i2d ff)), (.double (f2_0 ff (0 : Int32) mn))])) rfl (hb hby at_198) _ k) ?_
    refine Go.step (g' := (mkF m 202 #[.val (.int p0), .val (.int p1), .val (.int p2), .val (.int p3), .val (.int ff), .val (.int ll), .val (.int mm), .val (.double mn), .second, .val (.int m2), .val (.int l2), .val (.int gg), .val (.double (f2_0 ff ll mn)), .second, .val (.int (1 : Int32))] [(.double (FP.dadd (FP.i2d ff) (4599075939470750515 : UInt64))), (.double (FP.i2d ff)), (.double (f2_0 ff (0 : Int32) mn))])) (fun _ k => XS.daddS X6.here hx rfl (hb hby at_201) rfl (Tz.same hfN (by rw [Tz.n40]; exact own_K4)).1.noNaN rfl k) ?_
    refine Go.step (g' := (mkF m 203 #[.val (.int p0), .val (.int p1), .val (.int p2), .val (.int p3), .val (.int ff), .val (.int ll), .val (.int mm), .val (.double mn), .second, .val (.int m2), .val (.int l2), .val (.int gg), .val (.double (f2_0 ff ll mn)), .second, .val (.int (1 : Int32))] [(.double (FP.ddiv (FP.i2d ff) (FP.dadd (FP.i2d ff) (4599075939470750515 : UInt64)))), (.double (f2_0 ff (0 : Int32) mn))])) (fun _ k => XS.ddivS X6.here hx rfl (hb hby at_202) rfl (Tz.same hfN (by rw [Tz.n40]; exact own_K4)).2.noNaN rfl k) ?_
    refine Go.step (g' := (mkF m 204 #[.val (.int p0), .val (.int p1), .val (.int p2), .val (.int p3), .val (.int ff), .val (.int ll), .val (.int mm), .val (.double mn), .second, .val (.int m2), .val (.int l2), .val (.int gg), .val (.double (f2_0 ff ll mn)), .second, .val (.int (1 : Int32))] [(.int (cmpValue (FP.dcmp (f2_0 ff (0 : Int32) mn) (FP.ddiv (FP.i2d ff) (FP.dadd (FP.i2d ff) (4599075939470750515 : UInt64)))) .l))])) (fun _ k => XS.dcmpS X6.here hx rfl (hb hby at_203) rfl rfl k) ?_
    refine Go.step (g' := (mkF m 207 #[.val (.int p0), .val (.int p1), .val (.int p2), .val (.int p3), .val (.int ff), .val (.int ll), .val (.int mm), .val (.double mn), .second, .val (.int m2), .val (.int l2), .val (.int gg), .val (.double (f2_0 ff ll mn)), .second, .val (.int (1 : Int32))] [])) (fun _ k => XS.ifNo X6.here hx rfl (hb hby at_204) rfl ((if0 _ _).trans (teq (Ps.eq0 (own_ps Tz) (Tz.same hfN (by rw [Tz.n40]; exact own_K4)).2 .l : (cmpValue (FP.dcmp (f2_0 ff (0 : Int32) mn) (FP.ddiv (FP.i2d ff) (FP.dadd (FP.i2d ff) (4599075939470750515 : UInt64)))) .l) = (0 : Int32))).2) k) ?_
    rw [show f0_184 = f0_207 from rfl]
    refine Go.step (g' := (mkF m 208 #[.val (.int p0), .val (.int p1), .val (.int p2), .val (.int p3), .val (.int ff), .val (.int ll), .val (.int mm), .val (.double mn), .second, .val (.int m2), .val (.int l2), .val (.int gg), .val (.double (f2_0 ff ll mn)), .second, .val (.int (1 : Int32))] [(.int (1 : Int32))])) (fun _ k => XS.iconst X6.here hx rfl (hb hby at_207) k) ?_
    refine Go.step (g' := (mkF m 212 #[.val (.int p0), .val (.int p1), .val (.int p2), .val (.int p3), .val (.int ff), .val (.int ll), .val (.int mm), .val (.double mn), .second, .val (.int m2), .val (.int l2), .val (.int gg), .val (.double (f2_0 ff ll mn)), .second, .val (.int (1 : Int32))] [(.int (1 : Int32))])) (fun _ k => XS.goto X6.here hx rfl (pc0 := 208) (pc' := 212) rfl (hb hby at_208) (by decide) (by decide) k) ?_
    rw [show f0_207 = f0_212 from rfl]
    refine Go.step (g' := (mkF m 214 #[.val (.int p0), .val (.int p1), .val (.int p2), .val (.int p3), .val (.int ff), .val (.int ll), .val (.int mm), .val (.double mn), .second, .val (.int m2), .val (.int l2), .val (.int gg), .val (.double (f2_0 ff ll mn)), .second, .val (.int (1 : Int32))] [])) (fun _ k => XS.istore X6.here hx rfl (hb hby at_212) rfl (l' := #[.val (.int p0), .val (.int p1), .val (.int p2), .val (.int p3), .val (.int ff), .val (.int ll), .val (.int mm), .val (.double mn), .second, .val (.int m2), .val (.int l2), .val (.int gg), .val (.double (f2_0 ff ll mn)), .second, .val (.int (1 : Int32))]) rfl k) ?_
    refine Go.step (g' := (mkF m 216 #[.val (.int p0), .val (.int p1), .val (.int p2), .val (.int p3), .val (.int ff), .val (.int ll), .val (.int mm), .val (.double mn), .second, .val (.int m2), .val (.int l2), .val (.int gg), .val (.double (f2_0 ff ll mn)), .second, .val (.int (1 : Int32))] [(.int (1 : Int32))])) (fun _ k => XS.iload X6.here hx rfl (hb hby at_214) rfl  k) ?_
    refine Go.step (g' := (mkF m 219 #[.val (.int p0), .val (.int p1), .val (.int p2), .val (.int p3), .val (.int ff), .val (.int ll), .val (.int mm), .val (.double mn), .second, .val (.int m2), .val (.int l2), .val (.int gg), .val (.double (f2_0 ff ll mn)), .second, .val (.int (1 : Int32))] [])) (fun _ k => XS.ifNo X6.here hx rfl (hb hby at_216) rfl ((if0 _ _).trans (feq (by decide : ¬ ((1 : Int32) = (0 : Int32)))).1) k) ?_
    rw [show f0_212 = f0_219 from rfl]
    refine Go.step (g' := (mkF m 221 #[.val (.int p0), .val (.int p1), .val (.int p2), .val (.int p3), .val (.int ff), .val (.int ll), .val (.int mm), .val (.double mn), .second, .val (.int m2), .val (.int l2), .val (.int gg), .val (.double (f2_0 ff ll mn)), .second, .val (.int (1 : Int32))] [(.int ff)])) (fun _ k => XS.iload X6.here hx rfl (hb hby at_219) rfl  k) ?_
    refine Go.step (g' := (mkF m 223 #[.val (.int p0), .val (.int p1), .val (.int p2), .val (.int p3), .val (.int ff), .val (.int ll), .val (.int mm), .val (.double mn), .second, .val (.int m2), .val (.int l2), .val (.int gg), .val (.double (f2_0 ff ll mn)), .second, .val (.int (1 : Int32))] [(.int l2), (.int ff)])) (fun _ k => XS.iload X6.here hx rfl (hb hby at_221) rfl  k) ?_
    refine Go.step (g' := (mkF m 225 #[.val (.int p0), .val (.int p1), .val (.int p2), .val (.int p3), .val (.int ff), .val (.int ll), .val (.int mm), .val (.double mn), .second, .val (.int m2), .val (.int l2), .val (.int gg), .val (.double (f2_0 ff ll mn)), .second, .val (.int (1 : Int32))] [(.double mn), (.int l2), (.int ff)])) (fun _ k => XS.dload X6.here hx rfl (hb hby at_223) rfl k) ?_
    obtain ⟨_, _, ⟨T8, L8, k8, n8⟩, -, X8, ⟨Lc8, hQ8, l8, y8, z8⟩, st8⟩ := Jvm.LawKit.callS X6 hx (y := (⟨"com/example/laelaps/laelaps/testbed/Bm25", "tfPart", "(IID)D"⟩ : MethodName)) hown (mvT hZ (hw _ (List.mem_of_getElem? (i := 9) rfl))) (mvT hZ (hw _ (List.mem_of_getElem? (i := 10) rfl))) (mvT hZ (hw _ (List.mem_of_getElem? (i := 11) rfl))) (mvT hZ (hw _ (List.mem_of_getElem? (i := 12) rfl))) (by decide) (backOf (W := 0) (rm2 l Z a0 hw [] ff l2 mn h0 ⟨_, _, _, _, _, _, _, _, hl2N, Tl⟩) hZ (hw _ (List.mem_of_getElem? (i := 12) rfl)) (hw _ (List.mem_of_getElem? (i := 11) rfl)) (by decide) (by decide)) (g := (mkF m 225 #[.val (.int p0), .val (.int p1), .val (.int p2), .val (.int p3), .val (.int ff), .val (.int ll), .val (.int mm), .val (.double mn), .second, .val (.int m2), .val (.int l2), .val (.int gg), .val (.double (f2_0 ff ll mn)), .second, .val (.int (1 : Int32))] [(.double mn), (.int l2), (.int ff)])) rfl (by rw [hml]; rfl) (argsL := [(.int ff), (.int l2), (.double mn)]) (rest := []) (lenOf pd_1 rfl) rfl (by show 2 * 0 + _ ≤ _; exact Nat.le_of_eq rfl) (hb hby at_225) (fun _ _ => ⟨rfl, e6, (by decide : 0 + 0 ≤ _), (by decide : 0 + 0 ≤ _)⟩)
    dsimp only [Pt.U, Pt.locs, Pt.cells, Pt.slots] at X8 l8 y8 z8 st8 hQ8
    subst l8 y8 z8
    obtain ⟨rfl, rfl, e8⟩ := hQ8
    try rw [List.append_nil] at X8
    refine Go.step (g' := (mkF m 228 #[.val (.int p0), .val (.int p1), .val (.int p2), .val (.int p3), .val (.int ff), .val (.int ll), .val (.int mm), .val (.double mn), .second, .val (.int m2), .val (.int l2), .val (.int gg), .val (.double (f2_0 ff ll mn)), .second, .val (.int (1 : Int32))] [(.double (f2_0 ff l2 mn))])) st8 ?_
    refine Go.step (g' := (mkF m 230 #[.val (.int p0), .val (.int p1), .val (.int p2), .val (.int p3), .val (.int ff), .val (.int ll), .val (.int mm), .val (.double mn), .second, .val (.int m2), .val (.int l2), .val (.int gg), .val (.double (f2_0 ff ll mn)), .second, .val (.int (1 : Int32))] [(.double (f2_0 ff ll mn)), (.double (f2_0 ff l2 mn))])) (fun _ k => XS.dload X8.here hx rfl (hb hby at_228) rfl k) ?_
    refine Go.step (g' := (mkF m 231 #[.val (.int p0), .val (.int p1), .val (.int p2), .val (.int p3), .val (.int ff), .val (.int ll), .val (.int mm), .val (.double mn), .second, .val (.int m2), .val (.int l2), .val (.int gg), .val (.double (f2_0 ff ll mn)), .second, .val (.int (1 : Int32))] [(.int (cmpValue (FP.dcmp (f2_0 ff l2 mn) (f2_0 ff ll mn)) .g))])) (fun _ k => XS.dcmpS X8.here hx rfl (hb hby at_230) rfl rfl k) ?_
    refine Go.step (g' := (mkF m 234 #[.val (.int p0), .val (.int p1), .val (.int p2), .val (.int p3), .val (.int ff), .val (.int ll), .val (.int mm), .val (.double mn), .second, .val (.int m2), .val (.int l2), .val (.int gg), .val (.double (f2_0 ff ll mn)), .second, .val (.int (1 : Int32))] [])) (fun _ k => XS.ifNo X8.here hx rfl (hb hby at_231) rfl ((if0 _ _).trans (flt (own_kle (own_ps Tl) (own_ps T1) (T1.anti Tl (Nat.mul_le_mul_right _ hlel)) : ¬ ((0 : Int32) < (cmpValue (FP.dcmp (f2_0 ff l2 mn) (f2_0 ff ll mn)) .g)))).2.2.1) k) ?_
    rw [show f0_219 = f0_234 from rfl]
    refine Go.step (g' := (mkF m 235 #[.val (.int p0), .val (.int p1), .val (.int p2), .val (.int p3), .val (.int ff), .val (.int ll), .val (.int mm), .val (.double mn), .second, .val (.int m2), .val (.int l2), .val (.int gg), .val (.double (f2_0 ff ll mn)), .second, .val (.int (1 : Int32))] [(.int (1 : Int32))])) (fun _ k => XS.iconst X8.here hx rfl (hb hby at_234) k) ?_
    refine Go.step (g' := (mkF m 239 #[.val (.int p0), .val (.int p1), .val (.int p2), .val (.int p3), .val (.int ff), .val (.int ll), .val (.int mm), .val (.double mn), .second, .val (.int m2), .val (.int l2), .val (.int gg), .val (.double (f2_0 ff ll mn)), .second, .val (.int (1 : Int32))] [(.int (1 : Int32))])) (fun _ k => XS.goto X8.here hx rfl (pc0 := 235) (pc' := 239) rfl (hb hby at_235) (by decide) (by decide) k) ?_
    rw [show f0_234 = f0_239 from rfl]
    refine Go.step (g' := (mkF m 241 #[.val (.int p0), .val (.int p1), .val (.int p2), .val (.int p3), .val (.int ff), .val (.int ll), .val (.int mm), .val (.double mn), .second, .val (.int m2), .val (.int l2), .val (.int gg), .val (.double (f2_0 ff ll mn)), .second, .val (.int (1 : Int32))] [])) (fun _ k => XS.istore X8.here hx rfl (hb hby at_239) rfl (l' := #[.val (.int p0), .val (.int p1), .val (.int p2), .val (.int p3), .val (.int ff), .val (.int ll), .val (.int mm), .val (.double mn), .second, .val (.int m2), .val (.int l2), .val (.int gg), .val (.double (f2_0 ff ll mn)), .second, .val (.int (1 : Int32))]) rfl k) ?_
    refine Go.step (g' := (mkF m 243 #[.val (.int p0), .val (.int p1), .val (.int p2), .val (.int p3), .val (.int ff), .val (.int ll), .val (.int mm), .val (.double mn), .second, .val (.int m2), .val (.int l2), .val (.int gg), .val (.double (f2_0 ff ll mn)), .second, .val (.int (1 : Int32))] [(.int (1 : Int32))])) (fun _ k => XS.iload X8.here hx rfl (hb hby at_241) rfl  k) ?_
    refine Go.step (g' := (mkF m 246 #[.val (.int p0), .val (.int p1), .val (.int p2), .val (.int p3), .val (.int ff), .val (.int ll), .val (.int mm), .val (.double mn), .second, .val (.int m2), .val (.int l2), .val (.int gg), .val (.double (f2_0 ff ll mn)), .second, .val (.int (1 : Int32))] [])) (fun _ k => XS.ifNo X8.here hx rfl (hb hby at_243) rfl ((if0 _ _).trans (feq (by decide : ¬ ((1 : Int32) = (0 : Int32)))).1) k) ?_
    rw [show f0_239 = f0_246 from rfl]
    refine Go.step (g' := (mkF m 248 #[.val (.int p0), .val (.int p1), .val (.int p2), .val (.int p3), .val (.int ff), .val (.int ll), .val (.int mm), .val (.double mn), .second, .val (.int m2), .val (.int l2), .val (.int gg), .val (.double (f2_0 ff ll mn)), .second, .val (.int (1 : Int32))] [(.int ff)])) (fun _ k => XS.iload X8.here hx rfl (hb hby at_246) rfl  k) ?_
    refine Go.step (g' := (mkF m 250 #[.val (.int p0), .val (.int p1), .val (.int p2), .val (.int p3), .val (.int ff), .val (.int ll), .val (.int mm), .val (.double mn), .second, .val (.int m2), .val (.int l2), .val (.int gg), .val (.double (f2_0 ff ll mn)), .second, .val (.int (1 : Int32))] [(.int ll), (.int ff)])) (fun _ k => XS.iload X8.here hx rfl (hb hby at_248) rfl  k) ?_
    refine Go.step (g' := (mkF m 252 #[.val (.int p0), .val (.int p1), .val (.int p2), .val (.int p3), .val (.int ff), .val (.int ll), .val (.int mm), .val (.double mn), .second, .val (.int m2), .val (.int l2), .val (.int gg), .val (.double (f2_0 ff ll mn)), .second, .val (.int (1 : Int32))] [(.int m2), (.int ll), (.int ff)])) (fun _ k => XS.iload X8.here hx rfl (hb hby at_250) rfl  k) ?_
    refine Go.step (g' := (mkF m 253 #[.val (.int p0), .val (.int p1), .val (.int p2), .val (.int p3), .val (.int ff), .val (.int ll), .val (.int mm), .val (.double mn), .second, .val (.int m2), .val (.int l2), .val (.int gg), .val (.double (f2_0 ff ll mn)), .second, .val (.int (1 : Int32))] [(.double (FP.i2d m2)), (.int ll), (.int ff)])) (fun _ k => XS.i2dS X8.here hx rfl (hb hby at_252) rfl rfl k) ?_
    obtain ⟨_, _, ⟨T9, L9, k9, n9⟩, -, X9, ⟨Lc9, hQ9, l9, y9, z9⟩, st9⟩ := Jvm.LawKit.callS X8 hx (y := (⟨"com/example/laelaps/laelaps/testbed/Bm25", "tfPart", "(IID)D"⟩ : MethodName)) hown (mvT hZ (hw _ (List.mem_of_getElem? (i := 9) rfl))) (mvT hZ (hw _ (List.mem_of_getElem? (i := 10) rfl))) (mvT hZ (hw _ (List.mem_of_getElem? (i := 11) rfl))) (mvT hZ (hw _ (List.mem_of_getElem? (i := 12) rfl))) (by decide) (backOf (W := 0) (rm2 l Z a0 hw [] ff ll (FP.i2d m2) h0 ⟨_, _, _, _, _, _, _, _, hlN, Tk⟩) hZ (hw _ (List.mem_of_getElem? (i := 12) rfl)) (hw _ (List.mem_of_getElem? (i := 11) rfl)) (by decide) (by decide)) (g := (mkF m 253 #[.val (.int p0), .val (.int p1), .val (.int p2), .val (.int p3), .val (.int ff), .val (.int ll), .val (.int mm), .val (.double mn), .second, .val (.int m2), .val (.int l2), .val (.int gg), .val (.double (f2_0 ff ll mn)), .second, .val (.int (1 : Int32))] [(.double (FP.i2d m2)), (.int ll), (.int ff)])) rfl (by rw [hml]; rfl) (argsL := [(.int ff), (.int ll), (.double (FP.i2d m2))]) (rest := []) (lenOf pd_1 rfl) rfl (by show 2 * 0 + _ ≤ _; exact Nat.le_of_eq rfl) (hb hby at_253) (fun _ _ => ⟨rfl, e8, (by decide : 0 + 0 ≤ _), (by decide : 0 + 0 ≤ _)⟩)
    dsimp only [Pt.U, Pt.locs, Pt.cells, Pt.slots] at X9 l9 y9 z9 st9 hQ9
    subst l9 y9 z9
    obtain ⟨rfl, rfl, e9⟩ := hQ9
    try rw [List.append_nil] at X9
    refine Go.step (g' := (mkF m 256 #[.val (.int p0), .val (.int p1), .val (.int p2), .val (.int p3), .val (.int ff), .val (.int ll), .val (.int mm), .val (.double mn), .second, .val (.int m2), .val (.int l2), .val (.int gg), .val (.double (f2_0 ff ll mn)), .second, .val (.int (1 : Int32))] [(.double (f2_0 ff ll (FP.i2d m2)))])) st9 ?_
    refine Go.step (g' := (mkF m 258 #[.val (.int p0), .val (.int p1), .val (.int p2), .val (.int p3), .val (.int ff), .val (.int ll), .val (.int mm), .val (.double mn), .second, .val (.int m2), .val (.int l2), .val (.int gg), .val (.double (f2_0 ff ll mn)), .second, .val (.int (1 : Int32))] [(.double (f2_0 ff ll mn)), (.double (f2_0 ff ll (FP.i2d m2)))])) (fun _ k => XS.dload X9.here hx rfl (hb hby at_256) rfl k) ?_
    refine Go.step (g' := (mkF m 259 #[.val (.int p0), .val (.int p1), .val (.int p2), .val (.int p3), .val (.int ff), .val (.int ll), .val (.int mm), .val (.double mn), .second, .val (.int m2), .val (.int l2), .val (.int gg), .val (.double (f2_0 ff ll mn)), .second, .val (.int (1 : Int32))] [(.int (cmpValue (FP.dcmp (f2_0 ff ll (FP.i2d m2)) (f2_0 ff ll mn)) .l))])) (fun _ k => XS.dcmpS X9.here hx rfl (hb hby at_258) rfl rfl k) ?_
    refine Go.step (g' := (mkF m 262 #[.val (.int p0), .val (.int p1), .val (.int p2), .val (.int p3), .val (.int ff), .val (.int ll), .val (.int mm), .val (.double mn), .second, .val (.int m2), .val (.int l2), .val (.int gg), .val (.double (f2_0 ff ll mn)), .second, .val (.int (1 : Int32))] [])) (fun _ k => XS.ifNo X9.here hx rfl (hb hby at_259) rfl ((if0 _ _).trans (flt (own_kge (own_ps Tk) (own_ps T1) (Tk.anti T1 (Nat.mul_le_mul_left _ hle2)) : ¬ ((cmpValue (FP.dcmp (f2_0 ff ll (FP.i2d m2)) (f2_0 ff ll mn)) .l) < (0 : Int32)))).1) k) ?_
    rw [show f0_246 = f0_262 from rfl]
    refine Go.step (g' := (mkF m 263 #[.val (.int p0), .val (.int p1), .val (.int p2), .val (.int p3), .val (.int ff), .val (.int ll), .val (.int mm), .val (.double mn), .second, .val (.int m2), .val (.int l2), .val (.int gg), .val (.double (f2_0 ff ll mn)), .second, .val (.int (1 : Int32))] [(.int (1 : Int32))])) (fun _ k => XS.iconst X9.here hx rfl (hb hby at_262) k) ?_
    refine Go.step (g' := (mkF m 267 #[.val (.int p0), .val (.int p1), .val (.int p2), .val (.int p3), .val (.int ff), .val (.int ll), .val (.int mm), .val (.double mn), .second, .val (.int m2), .val (.int l2), .val (.int gg), .val (.double (f2_0 ff ll mn)), .second, .val (.int (1 : Int32))] [(.int (1 : Int32))])) (fun _ k => XS.goto X9.here hx rfl (pc0 := 263) (pc' := 267) rfl (hb hby at_263) (by decide) (by decide) k) ?_
    rw [show f0_262 = f0_267 from rfl]
    refine Go.step (g' := (mkF m 269 #[.val (.int p0), .val (.int p1), .val (.int p2), .val (.int p3), .val (.int ff), .val (.int ll), .val (.int mm), .val (.double mn), .second, .val (.int m2), .val (.int l2), .val (.int gg), .val (.double (f2_0 ff ll mn)), .second, .val (.int (1 : Int32))] [])) (fun _ k => XS.istore X9.here hx rfl (hb hby at_267) rfl (l' := #[.val (.int p0), .val (.int p1), .val (.int p2), .val (.int p3), .val (.int ff), .val (.int ll), .val (.int mm), .val (.double mn), .second, .val (.int m2), .val (.int l2), .val (.int gg), .val (.double (f2_0 ff ll mn)), .second, .val (.int (1 : Int32))]) rfl k) ?_
    refine Go.step (g' := (mkF m 271 #[.val (.int p0), .val (.int p1), .val (.int p2), .val (.int p3), .val (.int ff), .val (.int ll), .val (.int mm), .val (.double mn), .second, .val (.int m2), .val (.int l2), .val (.int gg), .val (.double (f2_0 ff ll mn)), .second, .val (.int (1 : Int32))] [(.int (1 : Int32))])) (fun _ k => XS.iload X9.here hx rfl (hb hby at_269) rfl  k) ?_
    refine Go.step (g' := (mkF m 274 #[.val (.int p0), .val (.int p1), .val (.int p2), .val (.int p3), .val (.int ff), .val (.int ll), .val (.int mm), .val (.double mn), .second, .val (.int m2), .val (.int l2), .val (.int gg), .val (.double (f2_0 ff ll mn)), .second, .val (.int (1 : Int32))] [])) (fun _ k => XS.ifNo X9.here hx rfl (hb hby at_271) rfl ((if0 _ _).trans (feq (by decide : ¬ ((1 : Int32) = (0 : Int32)))).1) k) ?_
    rw [show f0_267 = f0_274 from rfl]
    refine Go.step (g' := (mkF m 276 #[.val (.int p0), .val (.int p1), .val (.int p2), .val (.int p3), .val (.int ff), .val (.int ll), .val (.int mm), .val (.double mn), .second, .val (.int m2), .val (.int l2), .val (.int gg), .val (.double (f2_0 ff ll mn)), .second, .val (.int (1 : Int32))] [(.int gg)])) (fun _ k => XS.iload X9.here hx rfl (hb hby at_274) rfl  k) ?_
    refine Go.step (g' := (mkF m 277 #[.val (.int p0), .val (.int p1), .val (.int p2), .val (.int p3), .val (.int ff), .val (.int ll), .val (.int mm), .val (.double mn), .second, .val (.int m2), .val (.int l2), .val (.int gg), .val (.double (f2_0 ff ll mn)), .second, .val (.int (1 : Int32))] [(.int (1 : Int32)), (.int gg)])) (fun _ k => XS.iconst X9.here hx rfl (hb hby at_276) k) ?_
    refine Go.step (g' := (mkF m 278 #[.val (.int p0), .val (.int p1), .val (.int p2), .val (.int p3), .val (.int ff), .val (.int ll), .val (.int mm), .val (.double mn), .second, .val (.int m2), .val (.int l2), .val (.int gg), .val (.double (f2_0 ff ll mn)), .second, .val (.int (1 : Int32))] [(.int (gg + (1 : Int32)))])) (fun _ k => XS.iadd X9.here hx rfl (hb hby at_277) rfl k) ?_
    refine Go.step (g' := (mkF m 280 #[.val (.int p0), .val (.int p1), .val (.int p2), .val (.int p3), .val (.int ff), .val (.int ll), .val (.int mm), .val (.double mn), .second, .val (.int m2), .val (.int l2), .val (.int gg), .val (.double (f2_0 ff ll mn)), .second, .val (.int (1 : Int32))] [(.int ll), (.int (gg + (1 : Int32)))])) (fun _ k => XS.iload X9.here hx rfl (hb hby at_278) rfl  k) ?_
    refine Go.step (g' := (mkF m 282 #[.val (.int p0), .val (.int p1), .val (.int p2), .val (.int p3), .val (.int ff), .val (.int ll), .val (.int mm), .val (.double mn), .second, .val (.int m2), .val (.int l2), .val (.int gg), .val (.double (f2_0 ff ll mn)), .second, .val (.int (1 : Int32))] [(.double mn), (.int ll), (.int (gg + (1 : Int32)))])) (fun _ k => XS.dload X9.here hx rfl (hb hby at_280) rfl k) ?_
    obtain ⟨_, _, ⟨T10, L10, k10, n10⟩, -, X10, ⟨Lc10, hQ10, l10, y10, z10⟩, st10⟩ := Jvm.LawKit.callS X9 hx (y := (⟨"com/example/laelaps/laelaps/testbed/Bm25", "tfPart", "(IID)D"⟩ : MethodName)) hown (mvT hZ (hw _ (List.mem_of_getElem? (i := 9) rfl))) (mvT hZ (hw _ (List.mem_of_getElem? (i := 10) rfl))) (mvT hZ (hw _ (List.mem_of_getElem? (i := 11) rfl))) (mvT hZ (hw _ (List.mem_of_getElem? (i := 12) rfl))) (by decide) (backOf (W := 0) (rm2 l Z a0 hw [] (gg + (1 : Int32)) ll mn h0 ⟨_, _, _, _, _, _, _, _, hlN, Tg1⟩) hZ (hw _ (List.mem_of_getElem? (i := 12) rfl)) (hw _ (List.mem_of_getElem? (i := 11) rfl)) (by decide) (by decide)) (g := (mkF m 282 #[.val (.int p0), .val (.int p1), .val (.int p2), .val (.int p3), .val (.int ff), .val (.int ll), .val (.int mm), .val (.double mn), .second, .val (.int m2), .val (.int l2), .val (.int gg), .val (.double (f2_0 ff ll mn)), .second, .val (.int (1 : Int32))] [(.double mn), (.int ll), (.int (gg + (1 : Int32)))])) rfl (by rw [hml]; rfl) (argsL := [(.int (gg + (1 : Int32))), (.int ll), (.double mn)]) (rest := []) (lenOf pd_1 rfl) rfl (by show 2 * 0 + _ ≤ _; exact Nat.le_of_eq rfl) (hb hby at_282) (fun _ _ => ⟨rfl, e9, (by decide : 0 + 0 ≤ _), (by decide : 0 + 0 ≤ _)⟩)
    dsimp only [Pt.U, Pt.locs, Pt.cells, Pt.slots] at X10 l10 y10 z10 st10 hQ10
    subst l10 y10 z10
    obtain ⟨rfl, rfl, e10⟩ := hQ10
    try rw [List.append_nil] at X10
    refine Go.step (g' := (mkF m 285 #[.val (.int p0), .val (.int p1), .val (.int p2), .val (.int p3), .val (.int ff), .val (.int ll), .val (.int mm), .val (.double mn), .second, .val (.int m2), .val (.int l2), .val (.int gg), .val (.double (f2_0 ff ll mn)), .second, .val (.int (1 : Int32))] [(.double (f2_0 (gg + (1 : Int32)) ll mn))])) st10 ?_
    refine Go.step (g' := (mkF m 287 #[.val (.int p0), .val (.int p1), .val (.int p2), .val (.int p3), .val (.int ff), .val (.int ll), .val (.int mm), .val (.double mn), .second, .val (.int m2), .val (.int l2), .val (.int gg), .val (.double (f2_0 ff ll mn)), .second, .val (.int (1 : Int32))] [(.int gg), (.double (f2_0 (gg + (1 : Int32)) ll mn))])) (fun _ k => XS.iload X10.here hx rfl (hb hby at_285) rfl  k) ?_
    refine Go.step (g' := (mkF m 289 #[.val (.int p0), .val (.int p1), .val (.int p2), .val (.int p3), .val (.int ff), .val (.int ll), .val (.int mm), .val (.double mn), .second, .val (.int m2), .val (.int l2), .val (.int gg), .val (.double (f2_0 ff ll mn)), .second, .val (.int (1 : Int32))] [(.int ll), (.int gg), (.double (f2_0 (gg + (1 : Int32)) ll mn))])) (fun _ k => XS.iload X10.here hx rfl (hb hby at_287) rfl  k) ?_
    refine Go.step (g' := (mkF m 291 #[.val (.int p0), .val (.int p1), .val (.int p2), .val (.int p3), .val (.int ff), .val (.int ll), .val (.int mm), .val (.double mn), .second, .val (.int m2), .val (.int l2), .val (.int gg), .val (.double (f2_0 ff ll mn)), .second, .val (.int (1 : Int32))] [(.double mn), (.int ll), (.int gg), (.double (f2_0 (gg + (1 : Int32)) ll mn))])) (fun _ k => XS.dload X10.here hx rfl (hb hby at_289) rfl k) ?_
    obtain ⟨_, _, ⟨T11, L11, k11, n11⟩, -, X11, ⟨Lc11, hQ11, l11, y11, z11⟩, st11⟩ := Jvm.LawKit.callS X10 hx (y := (⟨"com/example/laelaps/laelaps/testbed/Bm25", "tfPart", "(IID)D"⟩ : MethodName)) hown (mvT hZ (hw _ (List.mem_of_getElem? (i := 9) rfl))) (mvT hZ (hw _ (List.mem_of_getElem? (i := 10) rfl))) (mvT hZ (hw _ (List.mem_of_getElem? (i := 11) rfl))) (mvT hZ (hw _ (List.mem_of_getElem? (i := 12) rfl))) (by decide) (backOf (W := 2) (rm2 l Z a0 hw [] gg ll mn h0 ⟨_, _, _, _, _, _, _, _, hlN, Tg⟩) hZ (hw _ (List.mem_of_getElem? (i := 12) rfl)) (hw _ (List.mem_of_getElem? (i := 11) rfl)) (by decide) (by decide)) (g := (mkF m 291 #[.val (.int p0), .val (.int p1), .val (.int p2), .val (.int p3), .val (.int ff), .val (.int ll), .val (.int mm), .val (.double mn), .second, .val (.int m2), .val (.int l2), .val (.int gg), .val (.double (f2_0 ff ll mn)), .second, .val (.int (1 : Int32))] [(.double mn), (.int ll), (.int gg), (.double (f2_0 (gg + (1 : Int32)) ll mn))])) rfl (by rw [hml]; rfl) (argsL := [(.int gg), (.int ll), (.double mn)]) (rest := [(.double (f2_0 (gg + (1 : Int32)) ll mn))]) (lenOf pd_1 rfl) rfl (by show 2 * 0 + _ ≤ _; exact Nat.le_of_eq rfl) (hb hby at_291) (fun _ _ => ⟨rfl, e10, (by decide : 0 + 0 ≤ _), (by decide : 0 + 0 ≤ _)⟩)
    dsimp only [Pt.U, Pt.locs, Pt.cells, Pt.slots] at X11 l11 y11 z11 st11 hQ11
    subst l11 y11 z11
    obtain ⟨rfl, rfl, e11⟩ := hQ11
    try rw [List.append_nil] at X11
    refine Go.step (g' := (mkF m 294 #[.val (.int p0), .val (.int p1), .val (.int p2), .val (.int p3), .val (.int ff), .val (.int ll), .val (.int mm), .val (.double mn), .second, .val (.int m2), .val (.int l2), .val (.int gg), .val (.double (f2_0 ff ll mn)), .second, .val (.int (1 : Int32))] [(.double (f2_0 gg ll mn)), (.double (f2_0 (gg + (1 : Int32)) ll mn))])) st11 ?_
    refine Go.step (g' := (mkF m 295 #[.val (.int p0), .val (.int p1), .val (.int p2), .val (.int p3), .val (.int ff), .val (.int ll), .val (.int mm), .val (.double mn), .second, .val (.int m2), .val (.int l2), .val (.int gg), .val (.double (f2_0 ff ll mn)), .second, .val (.int (1 : Int32))] [(.int (cmpValue (FP.dcmp (f2_0 (gg + (1 : Int32)) ll mn) (f2_0 gg ll mn)) .l))])) (fun _ k => XS.dcmpS X11.here hx rfl (hb hby at_294) rfl rfl k) ?_
    refine Go.step (g' := (mkF m 298 #[.val (.int p0), .val (.int p1), .val (.int p2), .val (.int p3), .val (.int ff), .val (.int ll), .val (.int mm), .val (.double mn), .second, .val (.int m2), .val (.int l2), .val (.int gg), .val (.double (f2_0 ff ll mn)), .second, .val (.int (1 : Int32))] [])) (fun _ k => XS.ifNo X11.here hx rfl (hb hby at_295) rfl ((if0 _ _).trans (flt (own_kge (own_ps Tg1) (own_ps Tg) (Tg.up Tg1 bgN) : ¬ ((cmpValue (FP.dcmp (f2_0 (gg + (1 : Int32)) ll mn) (f2_0 gg ll mn)) .l) < (0 : Int32)))).1) k) ?_
    rw [show f0_274 = f0_298 from rfl]
    refine Go.step (g' := (mkF m 299 #[.val (.int p0), .val (.int p1), .val (.int p2), .val (.int p3), .val (.int ff), .val (.int ll), .val (.int mm), .val (.double mn), .second, .val (.int m2), .val (.int l2), .val (.int gg), .val (.double (f2_0 ff ll mn)), .second, .val (.int (1 : Int32))] [(.int (1 : Int32))])) (fun _ k => XS.iconst X11.here hx rfl (hb hby at_298) k) ?_
    refine Go.step (g' := (mkF m 303 #[.val (.int p0), .val (.int p1), .val (.int p2), .val (.int p3), .val (.int ff), .val (.int ll), .val (.int mm), .val (.double mn), .second, .val (.int m2), .val (.int l2), .val (.int gg), .val (.double (f2_0 ff ll mn)), .second, .val (.int (1 : Int32))] [(.int (1 : Int32))])) (fun _ k => XS.goto X11.here hx rfl (pc0 := 299) (pc' := 303) rfl (hb hby at_299) (by decide) (by decide) k) ?_
    rw [show f0_298 = f0_303 from rfl]
    refine Go.step (g' := (mkF m 305 #[.val (.int p0), .val (.int p1), .val (.int p2), .val (.int p3), .val (.int ff), .val (.int ll), .val (.int mm), .val (.double mn), .second, .val (.int m2), .val (.int l2), .val (.int gg), .val (.double (f2_0 ff ll mn)), .second, .val (.int (1 : Int32))] [])) (fun _ k => XS.istore X11.here hx rfl (hb hby at_303) rfl (l' := #[.val (.int p0), .val (.int p1), .val (.int p2), .val (.int p3), .val (.int ff), .val (.int ll), .val (.int mm), .val (.double mn), .second, .val (.int m2), .val (.int l2), .val (.int gg), .val (.double (f2_0 ff ll mn)), .second, .val (.int (1 : Int32))]) rfl k) ?_
    refine Go.step (g' := (mkF m 307 #[.val (.int p0), .val (.int p1), .val (.int p2), .val (.int p3), .val (.int ff), .val (.int ll), .val (.int mm), .val (.double mn), .second, .val (.int m2), .val (.int l2), .val (.int gg), .val (.double (f2_0 ff ll mn)), .second, .val (.int (1 : Int32))] [(.int (1 : Int32))])) (fun _ k => XS.iload X11.here hx rfl (hb hby at_305) rfl  k) ?_
    exact Go.retN X11 hx hlk (t := .boolean) Bd.returns (by simp) (hb hby at_307) (by decide) (by decide) ⟨rfl, rfl, e11⟩
  by_cases hc77 : ff = (0 : Int32)
  · rw [show (f0_75 ff) = f0_80 from if_pos hc77]
    refine Go.step (g' := (mkF m 80 #[.val (.int p0), .val (.int p1), .val (.int p2), .val (.int p3), .val (.int ff), .val (.int ll), .val (.int mm), .val (.double mn), .second, .val (.int m2), .val (.int l2), .val (.int gg), .val (.double (f2_0 ff ll mn)), .second, .val (.int (1 : Int32))] [])) (fun _ k => XS.ifNo X2.here hx rfl (hb hby at_77) rfl ((if0 _ _).trans (teq hc77).2) k) ?_
    refine Go.step (g' := (mkF m 82 #[.val (.int p0), .val (.int p1), .val (.int p2), .val (.int p3), .val (.int ff), .val (.int ll), .val (.int mm), .val (.double mn), .second, .val (.int m2), .val (.int l2), .val (.int gg), .val (.double (f2_0 ff ll mn)), .second, .val (.int (1 : Int32))] [(.double (f2_0 ff ll mn))])) (fun _ k => XS.dload X2.here hx rfl (hb hby at_80) rfl k) ?_
    refine Go.step (g' := (mkF m 83 #[.val (.int p0), .val (.int p1), .val (.int p2), .val (.int p3), .val (.int ff), .val (.int ll), .val (.int mm), .val (.double mn), .second, .val (.int m2), .val (.int l2), .val (.int gg), .val (.double (f2_0 ff ll mn)), .second, .val (.int (1 : Int32))] [(.double (0 : UInt64)), (.double (f2_0 ff ll mn))])) (fun _ k => XS.dconst0 X2.here hx rfl (hb hby at_82) (by decide +kernel) k) ?_
    refine Go.step (g' := (mkF m 84 #[.val (.int p0), .val (.int p1), .val (.int p2), .val (.int p3), .val (.int ff), .val (.int ll), .val (.int mm), .val (.double mn), .second, .val (.int m2), .val (.int l2), .val (.int gg), .val (.double (f2_0 ff ll mn)), .second, .val (.int (1 : Int32))] [(.int (cmpValue (FP.dcmp (f2_0 ff ll mn) (0 : UInt64)) .l))])) (fun _ k => XS.dcmpS X2.here hx rfl (hb hby at_83) rfl rfl k) ?_
    refine Go.step (g' := (mkF m 87 #[.val (.int p0), .val (.int p1), .val (.int p2), .val (.int p3), .val (.int ff), .val (.int ll), .val (.int mm), .val (.double mn), .second, .val (.int m2), .val (.int l2), .val (.int gg), .val (.double (f2_0 ff ll mn)), .second, .val (.int (1 : Int32))] [])) (fun _ k => XS.ifNo X2.here hx rfl (hb hby at_84) rfl ((if0 _ _).trans (teq (own_k84 T1 (own_z hfN hc77) : (cmpValue (FP.dcmp (f2_0 ff ll mn) (0 : UInt64)) .l) = (0 : Int32))).2) k) ?_
    rw [show f0_80 = f0_87 from rfl]
    refine Go.step (g' := (mkF m 88 #[.val (.int p0), .val (.int p1), .val (.int p2), .val (.int p3), .val (.int ff), .val (.int ll), .val (.int mm), .val (.double mn), .second, .val (.int m2), .val (.int l2), .val (.int gg), .val (.double (f2_0 ff ll mn)), .second, .val (.int (1 : Int32))] [(.int (1 : Int32))])) (fun _ k => XS.iconst X2.here hx rfl (hb hby at_87) k) ?_
    refine Go.step (g' := (mkF m 92 #[.val (.int p0), .val (.int p1), .val (.int p2), .val (.int p3), .val (.int ff), .val (.int ll), .val (.int mm), .val (.double mn), .second, .val (.int m2), .val (.int l2), .val (.int gg), .val (.double (f2_0 ff ll mn)), .second, .val (.int (1 : Int32))] [(.int (1 : Int32))])) (fun _ k => XS.goto X2.here hx rfl (pc0 := 88) (pc' := 92) rfl (hb hby at_88) (by decide) (by decide) k) ?_
    rw [show f0_87 = f0_92 from rfl]
    refine Go.step (g' := (mkF m 94 #[.val (.int p0), .val (.int p1), .val (.int p2), .val (.int p3), .val (.int ff), .val (.int ll), .val (.int mm), .val (.double mn), .second, .val (.int m2), .val (.int l2), .val (.int gg), .val (.double (f2_0 ff ll mn)), .second, .val (.int (1 : Int32))] [])) (fun _ k => XS.istore X2.here hx rfl (hb hby at_92) rfl (l' := #[.val (.int p0), .val (.int p1), .val (.int p2), .val (.int p3), .val (.int ff), .val (.int ll), .val (.int mm), .val (.double mn), .second, .val (.int m2), .val (.int l2), .val (.int gg), .val (.double (f2_0 ff ll mn)), .second, .val (.int (1 : Int32))]) rfl k) ?_
    refine Go.step (g' := (mkF m 118 #[.val (.int p0), .val (.int p1), .val (.int p2), .val (.int p3), .val (.int ff), .val (.int ll), .val (.int mm), .val (.double mn), .second, .val (.int m2), .val (.int l2), .val (.int gg), .val (.double (f2_0 ff ll mn)), .second, .val (.int (1 : Int32))] [])) (fun _ k => XS.goto X2.here hx rfl (pc0 := 94) (pc' := 118) rfl (hb hby at_94) (by decide) (by decide) k) ?_
    rw [show f0_92 = f0_118 from rfl]
    exact t118 
  · rw [show (f0_75 ff) = f0_97 from if_neg hc77]
    refine Go.step (g' := (mkF m 97 #[.val (.int p0), .val (.int p1), .val (.int p2), .val (.int p3), .val (.int ff), .val (.int ll), .val (.int mm), .val (.double mn), .second, .val (.int m2), .val (.int l2), .val (.int gg), .val (.double (f2_0 ff ll mn)), .second, .val (.int (1 : Int32))] [])) (fun _ k => XS.ifYes X2.here hx rfl (pc0 := 77) (pc' := 97) rfl (hb hby at_77) rfl ((if0 _ _).trans (feq hc77).2) (by decide) (by decide) k) ?_
    refine Go.step (g' := (mkF m 99 #[.val (.int p0), .val (.int p1), .val (.int p2), .val (.int p3), .val (.int ff), .val (.int ll), .val (.int mm), .val (.double mn), .second, .val (.int m2), .val (.int l2), .val (.int gg), .val (.double (f2_0 ff ll mn)), .second, .val (.int (1 : Int32))] [(.double (f2_0 ff ll mn))])) (fun _ k => XS.dload X2.here hx rfl (hb hby at_97) rfl k) ?_
    refine Go.step (g' := (mkF m 100 #[.val (.int p0), .val (.int p1), .val (.int p2), .val (.int p3), .val (.int ff), .val (.int ll), .val (.int mm), .val (.double mn), .second, .val (.int m2), .val (.int l2), .val (.int gg), .val (.double (f2_0 ff ll mn)), .second, .val (.int (1 : Int32))] [(.double (0 : UInt64)), (.double (f2_0 ff ll mn))])) (fun _ k => XS.dconst0 X2.here hx rfl (hb hby at_99) (by decide +kernel) k) ?_
    refine Go.step (g' := (mkF m 101 #[.val (.int p0), .val (.int p1), .val (.int p2), .val (.int p3), .val (.int ff), .val (.int ll), .val (.int mm), .val (.double mn), .second, .val (.int m2), .val (.int l2), .val (.int gg), .val (.double (f2_0 ff ll mn)), .second, .val (.int (1 : Int32))] [(.int (cmpValue (FP.dcmp (f2_0 ff ll mn) (0 : UInt64)) .l))])) (fun _ k => XS.dcmpS X2.here hx rfl (hb hby at_100) rfl rfl k) ?_
    refine Go.step (g' := (mkF m 104 #[.val (.int p0), .val (.int p1), .val (.int p2), .val (.int p3), .val (.int ff), .val (.int ll), .val (.int mm), .val (.double mn), .second, .val (.int m2), .val (.int l2), .val (.int gg), .val (.double (f2_0 ff ll mn)), .second, .val (.int (1 : Int32))] [])) (fun _ k => XS.ifNo X2.here hx rfl (hb hby at_101) rfl ((if0 _ _).trans (tlt (own_k101 T1 (own_nz hfN hc77) : (0 : Int32) < (cmpValue (FP.dcmp (f2_0 ff ll mn) (0 : UInt64)) .l))).2.2.2) k) ?_
    rw [show f0_97 = f0_104 from rfl]
    refine Go.step (g' := (mkF m 106 #[.val (.int p0), .val (.int p1), .val (.int p2), .val (.int p3), .val (.int ff), .val (.int ll), .val (.int mm), .val (.double mn), .second, .val (.int m2), .val (.int l2), .val (.int gg), .val (.double (f2_0 ff ll mn)), .second, .val (.int (1 : Int32))] [(.double (f2_0 ff ll mn))])) (fun _ k => XS.dload X2.here hx rfl (hb hby at_104) rfl k) ?_
    refine Go.step (g' := (mkF m 107 #[.val (.int p0), .val (.int p1), .val (.int p2), .val (.int p3), .val (.int ff), .val (.int ll), .val (.int mm), .val (.double mn), .second, .val (.int m2), .val (.int l2), .val (.int gg), .val (.double (f2_0 ff ll mn)), .second, .val (.int (1 : Int32))] [(.double (4607182418800017408 : UInt64)), (.double (f2_0 ff ll mn))])) (fun _ k => XS.dconst1 X2.here hx rfl (hb hby at_106) (by decide +kernel) k) ?_
    refine Go.step (g' := (mkF m 108 #[.val (.int p0), .val (.int p1), .val (.int p2), .val (.int p3), .val (.int ff), .val (.int ll), .val (.int mm), .val (.double mn), .second, .val (.int m2), .val (.int l2), .val (.int gg), .val (.double (f2_0 ff ll mn)), .second, .val (.int (1 : Int32))] [(.int (cmpValue (FP.dcmp (f2_0 ff ll mn) (4607182418800017408 : UInt64)) .g))])) (fun _ k => XS.dcmpS X2.here hx rfl (hb hby at_107) rfl rfl k) ?_
    refine Go.step (g' := (mkF m 111 #[.val (.int p0), .val (.int p1), .val (.int p2), .val (.int p3), .val (.int ff), .val (.int ll), .val (.int mm), .val (.double mn), .second, .val (.int m2), .val (.int l2), .val (.int gg), .val (.double (f2_0 ff ll mn)), .second, .val (.int (1 : Int32))] [])) (fun _ k => XS.ifNo X2.here hx rfl (hb hby at_108) rfl ((if0 _ _).trans (tlt (own_k108 T1 bfN : (cmpValue (FP.dcmp (f2_0 ff ll mn) (4607182418800017408 : UInt64)) .g) < (0 : Int32))).2.1) k) ?_
    rw [show f0_104 = f0_111 from rfl]
    refine Go.step (g' := (mkF m 112 #[.val (.int p0), .val (.int p1), .val (.int p2), .val (.int p3), .val (.int ff), .val (.int ll), .val (.int mm), .val (.double mn), .second, .val (.int m2), .val (.int l2), .val (.int gg), .val (.double (f2_0 ff ll mn)), .second, .val (.int (1 : Int32))] [(.int (1 : Int32))])) (fun _ k => XS.iconst X2.here hx rfl (hb hby at_111) k) ?_
    refine Go.step (g' := (mkF m 116 #[.val (.int p0), .val (.int p1), .val (.int p2), .val (.int p3), .val (.int ff), .val (.int ll), .val (.int mm), .val (.double mn), .second, .val (.int m2), .val (.int l2), .val (.int gg), .val (.double (f2_0 ff ll mn)), .second, .val (.int (1 : Int32))] [(.int (1 : Int32))])) (fun _ k => XS.goto X2.here hx rfl (pc0 := 112) (pc' := 116) rfl (hb hby at_112) (by decide) (by decide) k) ?_
    rw [show f0_111 = f0_116 from rfl]
    refine Go.step (g' := (mkF m 118 #[.val (.int p0), .val (.int p1), .val (.int p2), .val (.int p3), .val (.int ff), .val (.int ll), .val (.int mm), .val (.double mn), .second, .val (.int m2), .val (.int l2), .val (.int gg), .val (.double (f2_0 ff ll mn)), .second, .val (.int (1 : Int32))] [])) (fun _ k => XS.istore X2.here hx rfl (hb hby at_116) rfl (l' := #[.val (.int p0), .val (.int p1), .val (.int p2), .val (.int p3), .val (.int ff), .val (.int ll), .val (.int mm), .val (.double mn), .second, .val (.int m2), .val (.int l2), .val (.int gg), .val (.double (f2_0 ff ll mn)), .second, .val (.int (1 : Int32))]) rfl k) ?_
    rw [show f0_116 = f0_118 from rfl]
    exact t118 
set_option maxRecDepth 65536 in
set_option maxHeartbeats 40000000 in
theorem comes_1 {Post : Tables → Env → Array Value → State → Outcome → State → Prop} (hpost : ∀ tb e args s v u, (limb_1_1.after args s (.returned v) u = true ∧ limb_1_2.after args s (.returned v) u = true) → FrameEnd s (.returned v) u (Jvm.fieldLocs frame_1_writes args s ++ Jvm.arrayLocs frame_1_arrays args s ++ Jvm.staticLocs frame_1_statics s) 0 0 → Post tb e args s (.returned v) u) :
    ArmFor flags0 classFile x code maxLocals ret World_1 tables_1 room_1 Calls_1 rest_1 Pre_1 Post := by
  intro l hfl _ _ p e ha hc hk s m args below hf hA hF happ hP
  obtain ⟨hcalls, hrest, hpre⟩ := hP
  obtain ⟨-, -, -, hnamed, -, -, -, hat⟩ := (Spec.applies_iff hf).mp happ
  obtain ⟨hg, hn⟩ := and_e (Cond.before_iff.mp (show (Jvm.Cond.and given_1 narrow_1).before args s = true from hpre))
  obtain ⟨gc, hg⟩ := and_e hg
  obtain ⟨g0, hg⟩ := and_e hg
  obtain ⟨g1, hg⟩ := and_e hg
  obtain ⟨g2, hg⟩ := and_e hg
  have g3 := hg
  obtain ⟨w0, w1, w2, w3, rfl⟩ : ∃ w0 w1 w2 w3 : Value, args = #[w0, w1, w2, w3] := by
    have hs : args.size = 4 := by simpa [Cond.value, given_1] using gc
    obtain ⟨L⟩ := args
    match L, hs with
    | [w0, w1, w2, w3], _ => exact ⟨w0, w1, w2, w3, rfl⟩
  have hw := fun d (hd : d ∈ tables_1) => atoms_spec (ws := Jvm.Cond.code x code maxLocals ret :: tables_1) hat d (List.mem_cons_of_mem _ hd)
  have hfit : Fit s := fun {y c} hc i hi => by
    obtain ⟨ha, rfl⟩ := Array.getElem?_eq_some_iff.mp hc
    have q := List.all_eq_true.mp ((Array.all_eq_true_iff_forall_mem.mp hF) _ (Array.getElem_mem ha)) i (List.mem_range.mpr hi)
    simpa [Array.getElem?_eq_getElem hi] using q
  obtain ⟨i0, ei0⟩ := is_v g0
  obtain rfl : w0 = (.int i0) := Option.some.inj ei0
  obtain ⟨i1, ei1⟩ := is_v g1
  obtain rfl : w1 = (.int i1) := Option.some.inj ei1
  obtain ⟨i2, ei2⟩ := is_v g2
  obtain rfl : w2 = (.int i2) := Option.some.inj ei2
  obtain ⟨i3, ei3⟩ := is_v g3
  obtain rfl : w3 = (.int i3) := Option.some.inj ei3
  obtain ⟨n, o, h1, h2, h3, v, L, rfl, hQ, hq⟩ := rm0 l s _ hw tables_1 i0 i1 i2 i3  s.heap   p e ha hc hk s m _ below hf ((Spec.applies_iff_loose hf).mp happ).1 ⟨rfl, State.Warmed39.refl s, rfl⟩ trivial
  obtain ⟨rfl, rfl, -⟩ := hQ
  rw [law_eq] at *
  refine ⟨n, _, h1, h2, h3, hpost _ _ _ _ _ _ ⟨Cond.after_iff.mpr rfl, Cond.after_iff.mpr (eq_i res_at (Term.int_eval (1)) rfl)⟩ ⟨hq.1, hq.2.1, (hq.2.2.sift fun y hy => nomatch hy).mono (by decide) (by decide)⟩⟩
theorem main_1_1 : Claimed_1_1 := comes_1 fun _ _ _ _ _ _ h hF => ⟨h.1, hF⟩
theorem main_1_2 : Claimed_1_2 := comes_1 fun _ _ _ _ _ _ h hF => ⟨h.2, hF⟩
end Jvm.Pilot.@@N@@
namespace Jvm.Pilot.@@N@@
open Jvm Jvm.ClassFile Sem Op Lib Jvm.Free Jvm.Stand Jvm.Pilot.@@N@@.Jvm.D
/-! MADE BY PROGRAM (witnessworld.py) out of the Statement's table words and the real class files: 10 classes; the members and pool entries that the words name. The judged class is class 1, her method 1. -/
namespace start1
open Jvm.ClassFile
def u (s : String) : CpInfo := .utf8 (stringToUtf16 s)
/-- a pool by its gaps: so many unusable entries, then the entry; so many at the end -/
def gap : Nat → List CpInfo → List CpInfo
  | 0, r => r
  | n + 1, r => .unusable :: gap n r
def poolList (es : List (Nat × CpInfo)) (last : Nat) : List CpInfo := es.foldr (fun e r => gap e.1 (e.2 :: r)) (gap last [])
def pool (es : List (Nat × CpInfo)) (last : Nat) : Array CpInfo := ⟨poolList es last⟩
def fileOf (pool : Array CpInfo) (this : Nat) (attrs : Array Attribute := #[]) (ms : Array MethodInfo := #[]) (fl : Nat := 33) (sup : Nat := 0) (ifs : Array Nat := #[]) (fds : Array FieldInfo := #[]) : ClassFile where
  minorVersion := 0
  majorVersion := 65
  constantPool := pool
  accessFlags := fl
  thisClass := this
  superClass := sup
  interfaces := ifs
  fields := fds
  methods := ms
  attributes := attrs
def plain (name : String) (sup : Option ClassId) : Class where
  name := name
  kind := .ordinary
  loader := none
  accessFlags := 33
  super := sup
  interfaces := #[]
  cf := none
  fields := #[]
  methods := #[]
  instanceTypes := #[]
  staticTypes := #[]
  resolved := #[]
  callSites := []
  init := .initialized
  statics := none
  mirror := none

def pool0 : Array CpInfo := pool [(5, u "<init>"), (0, u "()V"), (1, .class_ 10), (1, u "java/lang/Object")] 113

def k0m0 : Method := { name := "<init>", desc := "()V", sig := { parameters := [], returnType := none }, accessFlags := 1, code := none }
/-- java/lang/Object -/
def k0 : Class := { plain "java/lang/Object" none with
  accessFlags := 33
  interfaces := #[]
  cf := some (fileOf pool0 8 #[] #[{ accessFlags := 1, nameIndex := 5, descriptorIndex := 6, attributes := #[] }] 33 0 #[] #[])
  fields := #[]
  methods := #[k0m0]
  instanceTypes := #[]
  staticTypes := #[]
  resolved := Array.replicate 124 none
  statics := none }

def pool1 : Array CpInfo := pool [(2, .class_ 4), (1, u "java/lang/Object"), (0, u "<init>"), (0, u "()V"), (0, .integer 2147483647), (0, .integer 1073741823), (0, .integer 65535), (0, .long 2147483647), (1, .methodref 13 14), (0, .class_ 15), (0, .nameAndType 16 17), (0, u "java/lang/Math"), (0, u "min"), (0, u "(JJ)J"), (0, .integer 1048575), (0, .methodref 20 21), (0, .class_ 22), (0, .nameAndType 23 24), (0, u "com/example/laelaps/laelaps/testbed/Bm25"), (0, u "tfPart"), (0, u "(IID)D"), (0, .double 4608083138725491507), (1, .double 4599075939470750515), (1, .class_ 30), (0, u "com/example/laelaps/laelaps/testbed/Bm25TfPartPinLaw"), (2, u "law"), (0, u "(IIII)Z")] 3

def k1m0 : Method := { name := "<init>", desc := "()V", sig := { parameters := [], returnType := none }, accessFlags := 2, code := none }
def k1c1 : Code := { maxStack := 8, maxLocals := 15, code := code, exceptionTable := #[], attributes := #[] }
def k1m1 : Method := { name := "law", desc := "(IIII)Z", sig := { parameters := [.int, .int, .int, .int], returnType := some .boolean }, accessFlags := 9, code := some k1c1 }
/-- com/example/laelaps/laelaps/testbed/Bm25TfPartPinLaw -/
def k1 : Class := { plain "com/example/laelaps/laelaps/testbed/Bm25TfPartPinLaw" (some 0) with
  accessFlags := 49
  interfaces := #[]
  cf := some (fileOf pool1 29 #[] #[{ accessFlags := 2, nameIndex := 5, descriptorIndex := 6, attributes := #[] }, { accessFlags := 9, nameIndex := 33, descriptorIndex := 34, attributes := #[] }] 49 2 #[] #[])
  fields := #[]
  methods := #[k1m0, k1m1]
  instanceTypes := #[]
  staticTypes := #[]
  resolved := Array.replicate 38 none
  statics := none }

def pool2 : Array CpInfo := pool [(1, .class_ 2), (0, u "java/lang/Math"), (1, .class_ 6), (1, u "java/lang/Object"), (0, u "<init>"), (0, u "()V"), (89, .class_ 100), (1, u "java/lang/Math$RandomNumberGeneratorHolder"), (20, u "(JJ)J"), (50, u "negativeZeroFloatBits"), (0, u "J"), (2, u "negativeZeroDoubleBits"), (24, u "min"), (43, u "$assertionsDisabled"), (0, u "Z"), (91, u "twoToTheDoubleScaleDown"), (0, u "D"), (4, u "twoToTheDoubleScaleUp"), (9, u "E"), (3, u "PI"), (2, u "TAU"), (2, u "DEGREES_TO_RADIANS"), (0, u "RADIANS_TO_DEGREES")] 94

def k2m0 : Method := { name := "<init>", desc := "()V", sig := { parameters := [], returnType := none }, accessFlags := 2, code := none }
def k2c1 : Code := { maxStack := 4, maxLocals := 4, code := jdk_29_method_70_code, exceptionTable := #[], attributes := #[] }
def k2m1 : Method := { name := "min", desc := "(JJ)J", sig := { parameters := [.long, .long], returnType := some .long }, accessFlags := 9, code := some k2c1 }
/-- java/lang/Math -/
def k2 : Class := { plain "java/lang/Math" (some 0) with
  accessFlags := 49
  interfaces := #[]
  cf := some (fileOf pool2 1 #[.nestMembers #[98]] #[{ accessFlags := 2, nameIndex := 7, descriptorIndex := 8, attributes := #[] }, { accessFlags := 9, nameIndex := 201, descriptorIndex := 121, attributes := #[] }] 49 4 #[] #[{ accessFlags := 25, nameIndex := 354, descriptorIndex := 339, attributes := #[] }, { accessFlags := 25, nameIndex := 358, descriptorIndex := 339, attributes := #[] }, { accessFlags := 25, nameIndex := 361, descriptorIndex := 339, attributes := #[] }, { accessFlags := 26, nameIndex := 364, descriptorIndex := 339, attributes := #[] }, { accessFlags := 26, nameIndex := 365, descriptorIndex := 339, attributes := #[] }, { accessFlags := 26, nameIndex := 172, descriptorIndex := 173, attributes := #[] }, { accessFlags := 26, nameIndex := 176, descriptorIndex := 173, attributes := #[] }, { accessFlags := 8, nameIndex := 344, descriptorIndex := 339, attributes := #[] }, { accessFlags := 8, nameIndex := 338, descriptorIndex := 339, attributes := #[] }, { accessFlags := 4120, nameIndex := 245, descriptorIndex := 246, attributes := #[] }])
  fields := #[{ name := "E", type := .double, accessFlags := 25, slot := 0, constantValue := 0 }, { name := "PI", type := .double, accessFlags := 25, slot := 1, constantValue := 0 }, { name := "TAU", type := .double, accessFlags := 25, slot := 2, constantValue := 0 }, { name := "DEGREES_TO_RADIANS", type := .double, accessFlags := 26, slot := 3, constantValue := 0 }, { name := "RADIANS_TO_DEGREES", type := .double, accessFlags := 26, slot := 4, constantValue := 0 }, { name := "negativeZeroFloatBits", type := .long, accessFlags := 26, slot := 5, constantValue := 0 }, { name := "negativeZeroDoubleBits", type := .long, accessFlags := 26, slot := 6, constantValue := 0 }, { name := "twoToTheDoubleScaleUp", type := .double, accessFlags := 8, slot := 7, constantValue := 0 }, { name := "twoToTheDoubleScaleDown", type := .double, accessFlags := 8, slot := 8, constantValue := 0 }, { name := "$assertionsDisabled", type := .boolean, accessFlags := 4120, slot := 9, constantValue := 0 }]
  methods := #[k2m0, k2m1]
  instanceTypes := #[]
  staticTypes := #[.double, .double, .double, .double, .double, .long, .long, .double, .double, .boolean]
  resolved := Array.replicate 460 none
  statics := none }

def pool3 : Array CpInfo := pool [(2, .class_ 4), (1, u "java/lang/Object"), (0, u "<init>"), (0, u "()V"), (8, .class_ 16), (0, u "com/example/laelaps/laelaps/testbed/Bm25"), (0, .double 4608083138725491507), (1, .double 4598175219545276416), (1, .double 4604930618986332160), (1, u "K1"), (0, u "D"), (1, u "B"), (4, u "tfPart"), (0, u "(IID)D")] 2

def k3m0 : Method := { name := "<init>", desc := "()V", sig := { parameters := [], returnType := none }, accessFlags := 2, code := none }
def k3c1 : Code := { maxStack := 12, maxLocals := 4, code := prog_18_method_3_code, exceptionTable := #[], attributes := #[] }
def k3m1 : Method := { name := "tfPart", desc := "(IID)D", sig := { parameters := [.int, .int, .double], returnType := some .double }, accessFlags := 9, code := some k3c1 }
/-- com/example/laelaps/laelaps/testbed/Bm25 -/
def k3 : Class := { plain "com/example/laelaps/laelaps/testbed/Bm25" (some 0) with
  accessFlags := 49
  interfaces := #[]
  cf := some (fileOf pool3 15 #[] #[{ accessFlags := 2, nameIndex := 5, descriptorIndex := 6, attributes := #[] }, { accessFlags := 9, nameIndex := 31, descriptorIndex := 32, attributes := #[] }] 49 2 #[] #[{ accessFlags := 24, nameIndex := 23, descriptorIndex := 24, attributes := #[] }, { accessFlags := 24, nameIndex := 26, descriptorIndex := 24, attributes := #[] }])
  fields := #[{ name := "K1", type := .double, accessFlags := 24, slot := 0, constantValue := 0 }, { name := "B", type := .double, accessFlags := 24, slot := 1, constantValue := 0 }]
  methods := #[k3m0, k3m1]
  instanceTypes := #[]
  staticTypes := #[.double, .double]
  resolved := Array.replicate 35 none
  statics := none }

def pool4 : Array CpInfo := pool [(1, u "java/lang/Cloneable"), (0, .class_ 1), (0, u "java/lang/Object"), (0, .class_ 3)] 3

/-- java/lang/Cloneable -/
def k4 : Class := { plain "java/lang/Cloneable" (some 0) with
  accessFlags := 1537
  interfaces := #[]
  cf := some (fileOf pool4 2 #[] #[] 1537 4 #[] #[])
  fields := #[]
  methods := #[]
  instanceTypes := #[]
  staticTypes := #[]
  resolved := Array.replicate 8 none
  statics := none }

def pool5 : Array CpInfo := pool [(1, u "java/io/Serializable"), (0, .class_ 1), (0, u "java/lang/Object"), (0, .class_ 3)] 3

/-- java/io/Serializable -/
def k5 : Class := { plain "java/io/Serializable" (some 0) with
  accessFlags := 1537
  interfaces := #[]
  cf := some (fileOf pool5 2 #[] #[] 1537 4 #[] #[])
  fields := #[]
  methods := #[]
  instanceTypes := #[]
  staticTypes := #[]
  resolved := Array.replicate 8 none
  statics := none }

/-- the primitive byte -/
def k6 : Class := { plain "byte" none with kind := .primitive 'B', accessFlags := 0x411 }
/-- [B -/
def k7 : Class := { plain "[B" (some 0) with kind := .array 6 .byte, interfaces := #[4, 5], accessFlags := 1041 }

/-- the primitive int -/
def k8 : Class := { plain "int" none with kind := .primitive 'I', accessFlags := 0x411 }
/-- [I -/
def k9 : Class := { plain "[I" (some 0) with kind := .array 8 .int, interfaces := #[4, 5], accessFlags := 1041 }

def heap : Heap := #[]
def classes : Array Class := #[k0, k1, k2, k3, k4, k5, k6, k7, k8, k9]
def interned : List (Array UInt16 × Addr) := []
def slotsUsed : Nat := 0
def theMethod : MethodId := ⟨1, 1⟩
def args0 : Array Value := #[.int 7, .int 9, .int 100, .int 65541]
def aboutOver (below : List Frame) : State where
  vm := { classes := classes, interned := interned.toArray }
  heap := heap
  slotsUsed := slotsUsed
  threads := #[{ frames := .invoking theMethod args0 :: below }]
def below0 : List Frame := [.native { method := ⟨0, 0⟩, args := #[] }]
def about1 : State := aboutOver below0
def p0 : Program := .bare "" "" ""
def e0 : Env := launch0.env 0 0 0
theorem w_frames : about1.frames = Frame.invoking theMethod args0 :: below0 := rfl
set_option maxRecDepth 65536 in
theorem w_args : argsFit about1.vm theMethod args0 = true := by decide +kernel
set_option maxRecDepth 65536 in
theorem w_heap : heapFits about1 = true := by decide +kernel
set_option maxRecDepth 65536 in
theorem w_runnable : about1.curStatus? = some .runnable := by decide +kernel
set_option maxRecDepth 65536 in
theorem w_alone : about1.alone = true := by decide +kernel
set_option maxRecDepth 65536 in
theorem w_named : about1.methodNamed? x = some theMethod := by decide +kernel
set_option maxRecDepth 65536 in
theorem w_hears : about1.hears theMethod below0 = true := by decide +kernel
set_option maxRecDepth 65536 in
theorem w_ripe : about1.ripe theMethod args0 below0 = true := by decide +kernel
theorem w_running : about1.status = .running := rfl
set_option maxRecDepth 65536 in
theorem w_room : about1.hasRoom e0.platform room_1 = true :=
  launch0.hasRoom_least _ room_1 (by decide +kernel) (by decide +kernel) (by decide +kernel) (by decide +kernel) (by decide +kernel) (by decide +kernel)
theorem allAtoms_all (ts : List Jvm.Cond) (a : Array Jvm.Value) (st : Jvm.State) : (allAtoms ts).before a st = ts.all (fun c => c.before a st) := by
  induction ts with
  | nil => rfl
  | cons c t ih =>
    show (Jvm.Cond.and c (allAtoms t)).before a st = _
    rw [Jvm.Cond.before_and, ih, List.all_cons]
def words1 : List Jvm.Cond := Jvm.Cond.code x code maxLocals ret :: tables_1
/-- a 'code' word, met by the world's own term for the bytes: nothing is compared byte by byte -/
theorem code_word {y : MethodName} {bytes : ByteArray} {mx : Nat} {rt : Option FieldType} {a : Array Value} {s : State} {m : MethodId} {meth : Method} {c : Code} (h1 : s.methodNamed? y = some m) (h2 : s.vm.method? m = some meth) (h3 : meth.code = some c) (h4 : c.code = bytes)
    (h5 : (c.maxLocals == mx && c.exceptionTable.isEmpty && decide (c.maxStack ≤ mostOperands) && decide (meth.sig.returnType = rt) && !meth.locks && decide (parseMethodDescriptor y.desc = some meth.sig)) = true) : (Jvm.Cond.code y bytes mx rt).before a s = true := by
  simp only [Bool.and_eq_true, beq_iff_eq, Bool.not_eq_true', decide_eq_true_eq] at h5
  obtain ⟨⟨⟨⟨⟨g1, g2⟩, g3⟩, g4⟩, g5⟩, g6⟩ := h5
  simp [Cond.before, Cond.holds, Cond.value, h1, h2, h3, h4, g1, g2, g3, g4, g5, g6]
def isCode : Jvm.Cond → Bool
  | .code _ _ _ _ => true
  | _ => false
theorem all_split {L : List Jvm.Cond} {P : Jvm.Cond → Bool} (h1 : L.all (fun c => isCode c || P c) = true) (h2 : ∀ c ∈ L.filter isCode, P c = true) : L.all P = true := by
  refine List.all_eq_true.mpr fun c hc => ?_
  have h := List.all_eq_true.mp h1 c hc
  rcases Bool.eq_false_or_eq_true (isCode c) with hi | hi
  · exact h2 c (List.mem_filter.mpr ⟨hc, hi⟩)
  · simpa [hi] using h
set_option maxRecDepth 65536 in
theorem w_c0 : (Jvm.Cond.code x code maxLocals ret).before args0 about1 = true := code_word (m := ⟨1, 1⟩) (meth := k1m1) (c := k1c1) (by decide +kernel) rfl rfl rfl (by decide +kernel)
set_option maxRecDepth 65536 in
theorem w_c1 : (Jvm.Cond.code ({ cls := "java/lang/Math", name := "min", desc := "(JJ)J" } : Jvm.MethodName) jdk_29_method_70_code (4 : Nat) (Option.some Jvm.ClassFile.FieldType.long)).before args0 about1 = true := code_word (m := ⟨2, 1⟩) (meth := k2m1) (c := k2c1) (by decide +kernel) rfl rfl rfl (by decide +kernel)
set_option maxRecDepth 65536 in
theorem w_c2 : (Jvm.Cond.code ({ cls := "com/example/laelaps/laelaps/testbed/Bm25", name := "tfPart", desc := "(IID)D" } : Jvm.MethodName) prog_18_method_3_code (4 : Nat) (Option.some Jvm.ClassFile.FieldType.double)).before args0 about1 = true := code_word (m := ⟨3, 1⟩) (meth := k3m1) (c := k3c1) (by decide +kernel) rfl rfl rfl (by decide +kernel)
def codes1 : List Jvm.Cond := [Jvm.Cond.code x code maxLocals ret, Jvm.Cond.code ({ cls := "java/lang/Math", name := "min", desc := "(JJ)J" } : Jvm.MethodName) jdk_29_method_70_code (4 : Nat) (Option.some Jvm.ClassFile.FieldType.long), Jvm.Cond.code ({ cls := "com/example/laelaps/laelaps/testbed/Bm25", name := "tfPart", desc := "(IID)D" } : Jvm.MethodName) prog_18_method_3_code (4 : Nat) (Option.some Jvm.ClassFile.FieldType.double)]
set_option maxRecDepth 65536 in
theorem codes_eq : words1.filter isCode = codes1 := rfl
theorem w_codes : ∀ c ∈ words1.filter isCode, c.before args0 about1 = true := by
  rw [codes_eq]
  intro c hc
  simp only [codes1, List.mem_cons, List.not_mem_nil, or_false] at hc
  rcases hc with rfl | rfl | rfl
  · exact w_c0
  · exact w_c1
  · exact w_c2
set_option maxRecDepth 65536 in
theorem w_t1 : words1.all (fun c => isCode c || c.before args0 about1) = true := by decide +kernel
theorem w_tables : (allAtoms (Jvm.Cond.code x code maxLocals ret :: tables_1)).before args0 about1 = true := by
  rw [allAtoms_all]
  show words1.all (fun c => c.before args0 about1) = true
  refine all_split ?_ w_codes
  rw [w_t1]
set_option maxRecDepth 65536 in
theorem w_case : (Jvm.Cond.and given_1 narrow_1).before args0 about1 = true := by decide +kernel
theorem w_applies : (headSpec (Jvm.Cond.code x code maxLocals ret :: tables_1) room_1).applies x e0.platform about1 = true :=
  (Spec.applies_iff w_frames).mpr ⟨w_running, w_runnable, w_alone, w_named, w_hears, w_ripe, w_room, w_tables⟩
theorem atStart : AtStart classFile x code maxLocals ret World_1 tables_1 room_1 Calls_1 rest_1 Pre_1 launch0 p0 e0 about1 theMethod args0 below0 :=
  ⟨lists_1, trivial, launch0.admits_env _ _ _, launch0.least_env, fairChoices_fair.cas, fairChoices_fair.clock, w_frames, w_args, w_heap, w_applies, trivial, trivial, w_case⟩
end start1
theorem witness_1 : WitnessClaimed_1 := ⟨start1.p0, start1.e0, start1.about1, start1.theMethod, start1.args0, start1.below0, start1.atStart⟩
end Jvm.Pilot.@@N@@
