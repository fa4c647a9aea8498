import JvmDerived
import JvmDerived.Pilot.@@N@@Statement
import JvmDerived.Pilot.@@N@@Code
set_option linter.unusedVariables false
set_option linter.unusedSimpArgs false
namespace Jvm.Pilot.@@N@@
open Jvm Jvm.ClassFile Sem Op Lib Jvm.Free Jvm.Stand Jvm.LawKit Jvm.RoadKit Bundle Jvm.Pilot.@@N@@.Jvm.D
/-! from a frame on, the body comes to its end as Q says -/
section OwnKit
variable {p : Program} {l : Launch} {e : Env} {R : Room} {s : State} {m : MethodId} {args : Array Value} {below : List Frame} {meth : Method} {c : Code} {T T' : State} {locs : List Loc} {cells slots C D : Nat} {Q Q' : Option Value → Heap → List Loc → Prop} {g g' : JFrame}
def Go (p : Program) (e : Env) (below : List Frame) (s : State) (C D : Nat) (Q : Option Value → Heap → List Loc → Prop) (T : State) (g : JFrame) : Prop :=
  ∃ u o, Steps p.tables e below (T.setTop g) u ∧ u.status = .running ∧ Ended u below o ∧ ∃ v L, o = .returned v ∧ Q v u.heap L ∧ FrameEnd s o u L C D
def PureQ (r : Value) (h0 : Heap) (v : Option Value) (h : Heap) (L : List Loc) : Prop := v = some r ∧ L = [] ∧ h = h0
theorem Go.step (k : ∀ t, Steps p.tables e below (T'.setTop g') t → Steps p.tables e below (T.setTop g) t) (h : Go p e below s C D Q T' g') : Go p e below s C D Q T g := by
  obtain ⟨u, o, h1, r⟩ := h
  exact ⟨u, o, k _ h1, r⟩
theorem Go.mono (h : Go p e below s C D Q T g) (q : ∀ v h L, Q v h L → Q' v h L) : Go p e below s C D Q' T g := by
  obtain ⟨u, o, h1, h2, h3, v, L, h4, h5, h6⟩ := h
  exact ⟨u, o, h1, h2, h3, v, L, h4, q _ _ _ h5, h6⟩
theorem Go.retN (X : Stand p l e R s m args below meth c T locs cells slots) (hx : p.tables.exec = Jvm.exec) (hlk : meth.locks = false) {pc : Nat} {Ls : Array Slot} {z : Int32} {t : FieldType} {rest : List Value} (hret : meth.sig.returnType = some t) (ht : t = .boolean ∨ t = .byte ∨ t = .char ∨ t = .short)
    (hd : decode c.code pc = .ok (.ireturn, 1)) (hC : cells ≤ C) (hD : slots ≤ D) (hq : Q (some (.int (nar t z))) T.heap locs) : Go p e below s C D Q T (mkF m pc Ls (.int z :: rest)) := by
  obtain ⟨fs, hr, hrun, hended, hW, hsame⟩ := X.leave (v := some (.int (nar t z))) (fun h => by rw [hret] at h; cases h) hlk
  exact ⟨_, _, Jvm.RoadKit.retN X hx hret ht hd hr, hrun, hended, _, _, rfl, hq, ⟨_, rfl⟩, hW, hsame.mono hC hD⟩
theorem Go.retW (X : Stand p l e R s m args below meth c T locs cells slots) (hx : p.tables.exec = Jvm.exec) (hlk : meth.locks = false) {pc : Nat} {Ls : Array Slot} {w : Value} {t : FieldType} {i : Instr} {rest : List Value} (hret : meth.sig.returnType = some t) (hn : narrow t w = w)
    (hi : (i = .ireturn ∧ (t = .int ∨ t = .boolean ∨ t = .byte ∨ t = .char ∨ t = .short) ∧ ∃ z, w = .int z) ∨ (i = .lreturn ∧ t = .long ∧ ∃ z, w = .long z) ∨ (i = .dreturn ∧ t = .double ∧ ∃ z, w = .double z) ∨ (i = .freturn ∧ t = .float ∧ ∃ z, w = .float z) ∨ (i = .areturn ∧ t.isReference = true ∧ w.isRef = true))
    (hd : decode c.code pc = .ok (i, 1)) (hC : cells ≤ C) (hD : slots ≤ D) (hq : Q (some w) T.heap locs) : Go p e below s C D Q T (mkF m pc Ls (w :: rest)) := by
  obtain ⟨fs, hr, hrun, hended, hW, hsame⟩ := X.leave (v := some w) (fun h => by rw [hret] at h; cases h) hlk
  exact ⟨_, _, retOut X hx hret hn hi hd hr, hrun, hended, _, _, rfl, hq, ⟨_, rfl⟩, hW, hsame.mono hC hD⟩
theorem Go.ret0 (X : Stand p l e R s m args below meth c T locs cells slots) (hx : p.tables.exec = Jvm.exec) (hlk : meth.locks = false) {pc : Nat} {Ls : Array Slot} (hret : meth.sig.returnType = none)
    (hd : decode c.code pc = .ok (.return_, 1)) (hC : cells ≤ C) (hD : slots ≤ D) (hq : Q none T.heap locs) : Go p e below s C D Q T (mkF m pc Ls []) := by
  obtain ⟨fs, hr, hrun, hended, hW, hsame⟩ := X.leave (v := none) (fun _ => rfl) hlk
  exact ⟨_, _, X.returnOut hx hret hd hr, hrun, hended, _, _, rfl, hq, ⟨_, rfl⟩, hW, hsame.mono hC hD⟩
end OwnKit
theorem pd_0 : parseMethodDescriptor "(II)I" = some ⟨[.int, .int], some .int⟩ := by decide +kernel
theorem pd_1 : parseMethodDescriptor "([II)[I" = some ⟨[(.array .int), .int], some (.array .int)⟩ := by decide +kernel
theorem pd_2 : parseMethodDescriptor "([IIJ)V" = some ⟨[(.array .int), .int, .long], none⟩ := by decide +kernel
theorem pd_3 : parseMethodDescriptor "()[I" = some ⟨[], some (.array .int)⟩ := by decide +kernel
theorem pd_4 : parseMethodDescriptor "([IIIIII)Z" = some ⟨[(.array .int), .int, .int, .int, .int, .int], some .boolean⟩ := by decide +kernel
section OwnHeap
variable {p : Program} {l : Launch} {e : Env} {R : Room} {s : State} {m : MethodId} {args : Array Value} {below : List Frame} {meth : Method} {c : Code} {T : State} {locs : List Loc} {cells slots n0 : Nat}
variable {Z : State} {h h' : Heap} {a b : Addr} {ty : FieldType} {n sl : Nat} {f : Nat → Value} {v : Value} {ws : List Addr} {j : Int32} {gf : JFrame} {rest : List Value}
def IA (Z : State) (h : Heap) (a : Addr) (ty : FieldType) (n : Nat) (f : Nat → Value) : Prop := ∃ c : Cell, Arr Z h a c ty ∧ c.slots.size = n ∧ ∀ k, k < n → c.slots[k]? = some (f k)
def upd {α : Type} (g : Nat → α) (j : Nat) (v : α) (k : Nat) : α := if k = j then v else g k
theorem IA.lt (F : IA Z h a ty n f) : a < h.size := by obtain ⟨c, A, -⟩ := F; exact A.lt
theorem IA.ext (F : IA Z h a ty n f) (E : Ext h h') : IA Z h' a ty n f := by obtain ⟨c, A, r⟩ := F; exact ⟨c, A.ext E, r⟩
theorem IA.other (F : IA Z h b ty n f) (W : Wr h h' a sl v) (q : b ≠ a) : IA Z h' b ty n f := by obtain ⟨c, A, r⟩ := F; exact ⟨c, A.other W q, r⟩
theorem IA.keep (F : IA Z h a ty n f) (K : Keep h h' ws) (q : a ∉ ws) : IA Z h' a ty n f := by obtain ⟨c, A, r⟩ := F; exact ⟨c, ⟨K.2.1 a c A.1 q, A.2⟩, r⟩
theorem IA.of_new {k : ClassId} {z : Int32} (A : Arr Z h a (newA k ty z) ty) (hn : z.toNatClampNeg = n) : IA Z h a ty n (fun _ => defaultValue ty) :=
  ⟨_, A, (sz_new _ _ _).trans hn, fun i hi => by subst hn; simp [newA, hi]⟩
theorem IA.set {c : Cell} {F : Nat → Value} (A : Arr Z h a c ty) (S : c.slots.size = n) (H : ∀ k, k < n → c.slots[k]? = some (F k)) (hj : ¬ (j < 0 ∨ n ≤ j.toNatClampNeg)) (W : Wr h h' a j.toNatClampNeg v) : IA Z h' a ty n (upd F j.toNatClampNeg v) := by
  refine ⟨_, A.same W, (sz_set _ _ _).trans S, fun k hk => ?_⟩
  by_cases q : k = j.toNatClampNeg
  · subst q; simp [Cell.setSlot, upd, S, hk]
  · simp only [Cell.setSlot, upd, if_neg q]
    rw [Array.getElem?_setIfInBounds_ne (Ne.symm q)]; exact H k hk
theorem IA.cong {f' : Nat → Value} (F : IA Z h a ty n f) (q : ∀ k, k < n → f k = f' k) : IA Z h a ty n f' := by
  obtain ⟨c, A, S, H⟩ := F; exact ⟨c, A, S, fun k hk => by rw [H k hk, q k hk]⟩
theorem own_pack (X : Stand p l e R s m args below meth c T locs cells slots) (N : Fr n0 locs) : ∃ lc, Stand p l e R s m args below meth c T lc cells slots ∧ Fr n0 lc := ⟨_, X, N⟩
theorem own_more {C D : Nat} (X : Stand p l e R s m args below meth c T locs cells slots) (hC : cells ≤ C) (hD : slots ≤ D) : Stand p l e R s m args below meth c T locs C D := X.more hC hD
theorem putAI {g : Nat → Int32} {x : Int32} (X : Stand p l e R s m args below meth c T locs cells slots) (hx : p.tables.exec = Jvm.exec) (hZ : Z.Warmed39 s.vm) (eT : T.heap = h) (F : IA Z h a .int n (fun k => .int (g k))) (hj : ¬ (j < 0 ∨ n ≤ j.toNatClampNeg)) (N : Fr n0 locs) (ha : n0 ≤ a) (hg : gf.method = m) (hs : gf.stack = .int x :: .int j :: .ref a :: rest) (hd : decode c.code gf.pc = .ok (.iastore, 1)) :
    ∃ T' h' lc, Stand p l e R s m args below meth c T' lc cells slots ∧ T'.heap = h' ∧ Wr h h' a j.toNatClampNeg (.int x) ∧ Fr n0 lc ∧ IA Z h' a .int n (fun k => .int (upd g j.toNatClampNeg x k)) ∧ ∀ target, Steps p.tables e below (T'.setTop { gf with pc := gf.pc + 1, stack := rest }) target → Steps p.tables e below (T.setTop gf) target := by
  obtain ⟨cl, A, S, H⟩ := F
  obtain ⟨T', h', X', e', W, st⟩ := stI X hx hZ eT A (j := j) (x := x) (by rw [S]; exact hj) hg hs hd
  exact ⟨T', h', _, X', e', W, Fr.snoc X' N ha, (IA.set A S H hj W).cong fun k _ => by simp only [upd]; split <;> rfl, st⟩
theorem putAJ {g : Nat → Int64} {x : Int64} (X : Stand p l e R s m args below meth c T locs cells slots) (hx : p.tables.exec = Jvm.exec) (hZ : Z.Warmed39 s.vm) (eT : T.heap = h) (F : IA Z h a .long n (fun k => .long (g k))) (hj : ¬ (j < 0 ∨ n ≤ j.toNatClampNeg)) (N : Fr n0 locs) (ha : n0 ≤ a) (hg : gf.method = m) (hs : gf.stack = .long x :: .int j :: .ref a :: rest) (hd : decode c.code gf.pc = .ok (.lastore, 1)) :
    ∃ T' h' lc, Stand p l e R s m args below meth c T' lc cells slots ∧ T'.heap = h' ∧ Wr h h' a j.toNatClampNeg (.long x) ∧ Fr n0 lc ∧ IA Z h' a .long n (fun k => .long (upd g j.toNatClampNeg x k)) ∧ ∀ target, Steps p.tables e below (T'.setTop { gf with pc := gf.pc + 1, stack := rest }) target → Steps p.tables e below (T.setTop gf) target := by
  obtain ⟨cl, A, S, H⟩ := F
  obtain ⟨T', h', X', e', W, st⟩ := stJ X hx hZ eT A (j := j) (x := x) (by rw [S]; exact hj) hg hs hd
  exact ⟨T', h', _, X', e', W, Fr.snoc X' N ha, (IA.set A S H hj W).cong fun k _ => by simp only [upd]; split <;> rfl, st⟩
theorem putAC {g : Nat → Int32} {x : Int32} (X : Stand p l e R s m args below meth c T locs cells slots) (hx : p.tables.exec = Jvm.exec) (hZ : Z.Warmed39 s.vm) (eT : T.heap = h) (F : IA Z h a .char n (fun k => .int (g k))) (hj : ¬ (j < 0 ∨ n ≤ j.toNatClampNeg)) (N : Fr n0 locs) (ha : n0 ≤ a) (hg : gf.method = m) (hs : gf.stack = .int x :: .int j :: .ref a :: rest) (hd : decode c.code gf.pc = .ok (.castore, 1)) :
    ∃ T' h' lc, Stand p l e R s m args below meth c T' lc cells slots ∧ T'.heap = h' ∧ Wr h h' a j.toNatClampNeg (.int (nar .char x)) ∧ Fr n0 lc ∧ IA Z h' a .char n (fun k => .int (upd g j.toNatClampNeg (nar .char x) k)) ∧ ∀ target, Steps p.tables e below (T'.setTop { gf with pc := gf.pc + 1, stack := rest }) target → Steps p.tables e below (T.setTop gf) target := by
  obtain ⟨cl, A, S, H⟩ := F
  obtain ⟨T', h', X', e', W, st⟩ := stC X hx hZ eT A (j := j) (x := x) (by rw [S]; exact hj) hg hs hd
  exact ⟨T', h', _, X', e', W, Fr.snoc X' N ha, (IA.set A S H hj W).cong fun k _ => by simp only [upd]; split <;> rfl, st⟩
theorem putAB {g : Nat → Int32} {x : Int32} (X : Stand p l e R s m args below meth c T locs cells slots) (hx : p.tables.exec = Jvm.exec) (hZ : Z.Warmed39 s.vm) (eT : T.heap = h) (F : IA Z h a .byte n (fun k => .int (g k))) (hj : ¬ (j < 0 ∨ n ≤ j.toNatClampNeg)) (N : Fr n0 locs) (ha : n0 ≤ a) (hg : gf.method = m) (hs : gf.stack = .int x :: .int j :: .ref a :: rest) (hd : decode c.code gf.pc = .ok (.bastore, 1)) :
    ∃ T' h' lc, Stand p l e R s m args below meth c T' lc cells slots ∧ T'.heap = h' ∧ Wr h h' a j.toNatClampNeg (.int (nar .byte x)) ∧ Fr n0 lc ∧ IA Z h' a .byte n (fun k => .int (upd g j.toNatClampNeg (nar .byte x) k)) ∧ ∀ target, Steps p.tables e below (T'.setTop { gf with pc := gf.pc + 1, stack := rest }) target → Steps p.tables e below (T.setTop gf) target := by
  obtain ⟨cl, A, S, H⟩ := F
  obtain ⟨T', h', X', e', W, st⟩ := stB X hx hZ eT A (j := j) (x := x) (by rw [S]; exact hj) hg hs hd
  exact ⟨T', h', _, X', e', W, Fr.snoc X' N ha, (IA.set A S H hj W).cong fun k _ => by simp only [upd]; split <;> rfl, st⟩
theorem putAD {g : Nat → UInt64} {x : UInt64} (X : Stand p l e R s m args below meth c T locs cells slots) (hx : p.tables.exec = Jvm.exec) (hZ : Z.Warmed39 s.vm) (eT : T.heap = h) (F : IA Z h a .double n (fun k => .double (g k))) (hj : ¬ (j < 0 ∨ n ≤ j.toNatClampNeg)) (N : Fr n0 locs) (ha : n0 ≤ a) (hg : gf.method = m) (hs : gf.stack = .double x :: .int j :: .ref a :: rest) (hd : decode c.code gf.pc = .ok (.dastore, 1)) :
    ∃ T' h' lc, Stand p l e R s m args below meth c T' lc cells slots ∧ T'.heap = h' ∧ Wr h h' a j.toNatClampNeg (.double x) ∧ Fr n0 lc ∧ IA Z h' a .double n (fun k => .double (upd g j.toNatClampNeg x k)) ∧ ∀ target, Steps p.tables e below (T'.setTop { gf with pc := gf.pc + 1, stack := rest }) target → Steps p.tables e below (T.setTop gf) target := by
  obtain ⟨cl, A, S, H⟩ := F
  have hj' : ¬ (j < 0 ∨ cl.slots.size ≤ j.toNatClampNeg) := by rw [S]; exact hj
  obtain ⟨X', st⟩ := X.dastore hx (x := x) (by rw [eT]; exact A.1) (State.isArrayOf_alike hZ.alike A.2.1) A.2.2 hj' hg hs hd
  have W : Wr h (T.setCell a (cl.setSlot j.toNatClampNeg (.double x))).heap a j.toNatClampNeg (.double x) := ⟨cl, A.1, A.plain, Nat.lt_of_not_le fun q => hj' (Or.inr q), by rw [← eT]; rfl⟩
  exact ⟨_, _, _, X', rfl, W, Fr.snoc X' N ha, (IA.set A S H hj W).cong fun k _ => by simp only [upd]; split <;> rfl, st⟩
theorem getAI {g : Nat → Int32} {t : State} (X : Stand p l e R s m args below meth c T locs cells slots) (hx : p.tables.exec = Jvm.exec) (hZ : Z.Warmed39 s.vm) (eT : T.heap = h) (F : IA Z h a .int n (fun k => .int (g k))) (hj : ¬ (j < 0 ∨ n ≤ j.toNatClampNeg)) (hg : gf.method = m) (hs : gf.stack = .int j :: .ref a :: rest) (hd : decode c.code gf.pc = .ok (.iaload, 1))
    (hr : Steps p.tables e below (T.setTop { gf with pc := gf.pc + 1, stack := .int (g j.toNatClampNeg) :: rest }) t) : Steps p.tables e below (T.setTop gf) t := by
  obtain ⟨cl, A, S, H⟩ := F
  exact X.iaload hx (by rw [eT]; exact A.1) (State.isArrayOf_alike hZ.alike A.2.1) A.2.2 (by rw [S]; exact hj) (H _ (Nat.lt_of_not_le fun q => hj (Or.inr q))) hg hs hd _ hr
theorem getAJ {g : Nat → Int64} {t : State} (X : Stand p l e R s m args below meth c T locs cells slots) (hx : p.tables.exec = Jvm.exec) (hZ : Z.Warmed39 s.vm) (eT : T.heap = h) (F : IA Z h a .long n (fun k => .long (g k))) (hj : ¬ (j < 0 ∨ n ≤ j.toNatClampNeg)) (hg : gf.method = m) (hs : gf.stack = .int j :: .ref a :: rest) (hd : decode c.code gf.pc = .ok (.laload, 1))
    (hr : Steps p.tables e below (T.setTop { gf with pc := gf.pc + 1, stack := .long (g j.toNatClampNeg) :: rest }) t) : Steps p.tables e below (T.setTop gf) t := by
  obtain ⟨cl, A, S, H⟩ := F
  exact X.laload hx (by rw [eT]; exact A.1) (State.isArrayOf_alike hZ.alike A.2.1) A.2.2 (by rw [S]; exact hj) (H _ (Nat.lt_of_not_le fun q => hj (Or.inr q))) hg hs hd _ hr
theorem getAC {g : Nat → Int32} {t : State} (X : Stand p l e R s m args below meth c T locs cells slots) (hx : p.tables.exec = Jvm.exec) (hZ : Z.Warmed39 s.vm) (eT : T.heap = h) (F : IA Z h a .char n (fun k => .int (g k))) (hj : ¬ (j < 0 ∨ n ≤ j.toNatClampNeg)) (hg : gf.method = m) (hs : gf.stack = .int j :: .ref a :: rest) (hd : decode c.code gf.pc = .ok (.caload, 1))
    (hr : Steps p.tables e below (T.setTop { gf with pc := gf.pc + 1, stack := .int (g j.toNatClampNeg) :: rest }) t) : Steps p.tables e below (T.setTop gf) t := by
  obtain ⟨cl, A, S, H⟩ := F
  exact X.caload hx (by rw [eT]; exact A.1) (State.isArrayOf_alike hZ.alike A.2.1) A.2.2 (by rw [S]; exact hj) (H _ (Nat.lt_of_not_le fun q => hj (Or.inr q))) hg hs hd _ hr
theorem getAB {g : Nat → Int32} {t : State} (X : Stand p l e R s m args below meth c T locs cells slots) (hx : p.tables.exec = Jvm.exec) (hZ : Z.Warmed39 s.vm) (eT : T.heap = h) (F : IA Z h a .byte n (fun k => .int (g k))) (hj : ¬ (j < 0 ∨ n ≤ j.toNatClampNeg)) (hg : gf.method = m) (hs : gf.stack = .int j :: .ref a :: rest) (hd : decode c.code gf.pc = .ok (.baload, 1))
    (hr : Steps p.tables e below (T.setTop { gf with pc := gf.pc + 1, stack := .int (g j.toNatClampNeg) :: rest }) t) : Steps p.tables e below (T.setTop gf) t := by
  obtain ⟨cl, A, S, H⟩ := F
  exact X.baloadBytes hx (by rw [eT]; exact A.1) (State.isArrayOf_alike hZ.alike A.2.1) A.2.2 (by rw [S]; exact hj) (H _ (Nat.lt_of_not_le fun q => hj (Or.inr q))) hg hs hd _ hr
theorem getAD {g : Nat → UInt64} {t : State} (X : Stand p l e R s m args below meth c T locs cells slots) (hx : p.tables.exec = Jvm.exec) (hZ : Z.Warmed39 s.vm) (eT : T.heap = h) (F : IA Z h a .double n (fun k => .double (g k))) (hj : ¬ (j < 0 ∨ n ≤ j.toNatClampNeg)) (hg : gf.method = m) (hs : gf.stack = .int j :: .ref a :: rest) (hd : decode c.code gf.pc = .ok (.daload, 1))
    (hr : Steps p.tables e below (T.setTop { gf with pc := gf.pc + 1, stack := .double (g j.toNatClampNeg) :: rest }) t) : Steps p.tables e below (T.setTop gf) t := by
  obtain ⟨cl, A, S, H⟩ := F
  exact X.daload hx (by rw [eT]; exact A.1) (State.isArrayOf_alike hZ.alike A.2.1) A.2.2 (by rw [S]; exact hj) (H _ (Nat.lt_of_not_le fun q => hj (Or.inr q))) hg hs hd _ hr
theorem getLen {t : State} {z : Int32} (X : Stand p l e R s m args below meth c T locs cells slots) (hx : p.tables.exec = Jvm.exec) (hZ : Z.Warmed39 s.vm) (eT : T.heap = h) (F : IA Z h a ty n f) (hz : n.toInt32 = z) (hg : gf.method = m) (hs : gf.stack = .ref a :: rest) (hd : decode c.code gf.pc = .ok (.arraylength, 1))
    (hr : Steps p.tables e below (T.setTop { gf with pc := gf.pc + 1, stack := .int z :: rest }) t) : Steps p.tables e below (T.setTop gf) t := by
  obtain ⟨cl, A, S, H⟩ := F
  exact X.arraylength hx (by rw [eT]; exact A.1) (State.isArrayOf_alike hZ.alike A.2.1) hg hs hd _ (by rw [S, hz]; exact hr)
end OwnHeap
section OwnCopy
variable {p : Program} {l : Launch} {e : Env} {R : Room} {s : State} {m : MethodId} {args : Array Value} {below : List Frame} {meth : Method} {c : Code} {T : State} {locs : List Loc} {cells slots n0 : Nat}
variable {Z : State} {h h' : Heap} {a b : Addr} {ty : FieldType} {n nb : Nat} {f fd : Nat → Value} {rest : List Value} {gf : JFrame}
theorem own_n (n : Nat) (hn : n < 2 ^ 31) : n.toInt32.toNatClampNeg = n ∧ ¬ n.toInt32 < 0 := by
  have q : (0 : Int32).toInt = 0 := by decide
  have e : n.toInt32.toInt = n := Int32.toInt_ofNat_of_lt (by omega)
  have hn : ¬ n.toInt32 < 0 := by rw [Int32.lt_iff_toInt_lt, q, e]; omega
  have := nat_of hn
  exact ⟨by omega, hn⟩
theorem own_getD (n : Nat) (f : Nat → Value) (d : Value) (k : Nat) (hk : k < n) : ((List.range n).map f).getD k d = f k := by
  simp [List.getD, hk]
theorem IA.arv (F : IA Z h a ty n f) (hn : n < 2 ^ 31) (hf : ∀ k, fits ty (f k) = true) (d : Value) : ∃ kc, Arv Z h a kc ty n.toInt32 ((List.range n).map f) d := by
  obtain ⟨cl, A, S, H⟩ := F
  obtain ⟨q1, q2⟩ := own_n n hn
  exact ⟨cl.cls, cl, A, rfl, by rw [q1, S], q2, fun k hk => by rw [own_getD _ _ _ _ (S ▸ hk)]; exact H k (S ▸ hk), fun k hk => by rw [own_getD _ _ _ _ (S ▸ hk)]; exact hf k⟩
theorem own_copy (X : Stand p l e R s m args below meth c T locs cells slots) (hx : p.tables.exec = Jvm.exec) (hZ : Z.Warmed39 s.vm) {a0 : Array Value} {own : String} {index : Nat} (hown : s.vm.findClass own = some m.cls)
    (w1 : (Jvm.Cond.methodLink own index Jvm.Stand.acN).before a0 Z = true) (w2 : (Jvm.Cond.native Jvm.Stand.acN).before a0 Z = true) (w3 : (Jvm.Cond.static Jvm.Stand.acN).before a0 Z = true) (w4 : (Jvm.Cond.initialized "java/lang/System").before a0 Z = true) (eT : T.heap = h)
    (A : IA Z h a ty n f) (B : IA Z h b ty nb fd) (hr : refKind ty = false) (hf : ∀ k, fits ty (f k) = true) (hfd : ∀ k, fits ty (fd k) = true) (hn : n < 2 ^ 31) (hnb : nb < 2 ^ 31) {sp dp nn : Int32} (h1 : ¬ sp < 0) (h2 : ¬ dp < 0) (h3 : ¬ nn < 0) (h4 : sp.toNatClampNeg + nn.toNatClampNeg ≤ n) (h5 : dp.toNatClampNeg + nn.toNatClampNeg ≤ nb)
    (N : Fr n0 locs) (ge : n0 ≤ b) (hg : gf.method = m) (hsize : gf.locals.size = c.maxLocals) (hs : gf.stack = .int nn :: .int dp :: .ref b :: .int sp :: .ref a :: rest) (hd : decode c.code gf.pc = .ok (.invokestatic index, 3))
    (hfr : 1 ≤ R.frames) {W : Nat} (hW : 2 * gf.monitorRoom + (rest.map fun v => v.category).sum ≤ W) (hlo : W + (nativeFrameWords "java/lang/System" "arraycopy" 5 + 11) ≤ R.locals) :
    ∃ T' h' L, Stand p l e R s m args below meth c T' L cells slots ∧ T'.heap = h' ∧ Fr n0 L ∧ Keep h h' [b] ∧ IA Z h' b ty nb (fun k => if dp.toNatClampNeg ≤ k ∧ k < dp.toNatClampNeg + nn.toNatClampNeg then f (sp.toNatClampNeg + (k - dp.toNatClampNeg)) else fd k) ∧
      ∀ target, Steps p.tables e below (T'.setTop { gf with pc := gf.pc + 3, stack := rest }) target → Steps p.tables e below (T.setTop gf) target := by
  obtain ⟨k1, A'⟩ := A.arv hn hf .null
  obtain ⟨k2, B'⟩ := B.arv hnb hfd .null
  obtain ⟨qa, -⟩ := own_n n hn
  obtain ⟨qb, -⟩ := own_n nb hnb
  obtain ⟨T', h', L, X', e', N', K', V', st⟩ := cpA X hx hZ hown w1 w2 w3 w4 eT A' B' (Or.inl ⟨rfl, hr⟩) h1 h2 h3 (by rw [qa]; exact h4) (by rw [qb]; exact h5) rfl (by simp; exact h5) N ge hg hsize hs hd hfr hW hlo
  refine ⟨T', h', L, X', e', N', K', ?_, st⟩
  obtain ⟨cl, Ar, -, S, -, H, -⟩ := V'
  rw [qb] at S
  refine ⟨cl, Ar, S, fun k hk => ?_⟩
  rw [H k (by omega)]
  congr 1
  generalize dp.toNatClampNeg = d at *
  generalize nn.toNatClampNeg = q at *
  generalize sp.toNatClampNeg = t at *
  show _ = if d ≤ k ∧ k < d + q then f (t + (k - d)) else fd k
  by_cases c1 : k < d
  · rw [if_neg (by omega)]
    simp [List.getD, List.getElem?_append, c1, Nat.min_def, show d ≤ nb by omega, List.getElem?_take, hk]
  · by_cases c2 : k < d + q
    · rw [if_pos ⟨by omega, c2⟩]
      have e1 : k - d < q := by omega
      have e2 : t + (k - d) < n := by omega
      simp [List.getD, List.getElem?_append, Nat.min_def, show d ≤ nb by omega, c1, e1, e2, show k < d + q from c2]
    · rw [if_neg (by omega)]
      have e1 : ¬ k - d < q := by omega
      simp [List.getD, List.getElem?_append, Nat.min_def, show d ≤ nb by omega, c1, e1, c2, List.getElem?_drop, show d + q + (k - d - q) = k by omega, hk]
end OwnCopy
def LawQ (r : Option Value) (n0 : Nat) (v : Option Value) (h : Heap) (L : List Loc) : Prop := v = r ∧ Fr n0 L
theorem Sta_keep0 {Z : State} {h h' : Heap} {C n d : String} {v : Value} (F : Sta Z h C n d v) (K : Keep h h' []) : Sta Z h' C n d v := by
  obtain ⟨cf, i, k, f, st, cell, h1, h2, h3, h4, h5, r⟩ := F
  exact ⟨cf, i, k, f, st, cell, h1, h2, h3, h4, K.2.1 _ _ h5 nin0, r⟩
def QF (Z : State) (cnt : Int32) (g : Nat → Int32) (h0 : Heap) (n0 : Nat) (v : Option Value) (h : Heap) (L : List Loc) : Prop :=
  ∃ b, v = some (.ref b) ∧ h0.size ≤ b ∧ Fr n0 L ∧ Keep h0 h [] ∧ IA Z h b .int cnt.toNatClampNeg (fun k => .int (g k))
theorem own_ib {j n : Int32} (h0 : ¬ j < 0) (h : j < n) : ¬ (j < 0 ∨ n.toNatClampNeg ≤ j.toNatClampNeg) := by
  have q : (0 : Int32).toInt = 0 := by decide
  have hn : ¬ n < 0 := by rw [Int32.lt_iff_toInt_lt, q] at h0 ⊢; rw [Int32.lt_iff_toInt_lt] at h; omega
  have e1 := nat_of h0
  have e2 := nat_of hn
  rw [Int32.lt_iff_toInt_lt] at h
  intro w
  rcases w with w | w
  · exact h0 w
  · omega
theorem own_cap4 {n : Int32} (h0 : ¬ n < 0) (h1 : ¬ (4 : Int32) < n) : n.toNatClampNeg ≤ 4 := by
  have e1 := nat_of h0
  have q : (4 : Int32).toInt = 4 := by decide
  rw [Int32.lt_iff_toInt_lt, q] at h1
  omega
theorem own_lt31 (n : Int32) (h1 : ¬ (4 : Int32) < n) : n.toNatClampNeg < 2 ^ 31 := by
  by_cases h0 : n < 0
  · have : n.toNatClampNeg = 0 := by
      have q : (0 : Int32).toInt = 0 := by decide
      rw [Int32.lt_iff_toInt_lt, q] at h0
      show n.toInt.toNat = 0
      omega
    omega
  · have := own_cap4 h0 h1; omega
theorem own_le4 {n : Int32} (h0 : ¬ n < 0) (h1 : ¬ (4 : Int32) < n) : (0 : Int32).toNatClampNeg + n.toNatClampNeg ≤ 4 := by
  have := own_cap4 h0 h1
  have q : (0 : Int32).toNatClampNeg = 0 := by decide
  omega
theorem own_back4 {Z : State} {h : Heap} {a : Addr} {k : ClassId} {g : Nat → Int32} {n : Int32} (F : Arh Z h a k .int (4 : Nat).toInt32 [] ((List.range 4).map fun k => .int (g k)) .null) (hn : n.toNatClampNeg = 4) : IA Z h a .int n.toNatClampNeg (fun k => .int (g k)) := by
  obtain ⟨cl, A, -, S, -, H, -⟩ := F
  rw [hn]
  have S' : cl.slots.size = 4 := S
  exact ⟨cl, A, S', fun k hk => by rw [H k (by omega)]; show some (((List.range 4).map fun k => Value.int (g k)).getD k .null) = _; rw [own_getD _ _ _ _ hk]⟩
theorem own_le00 (n : Nat) : (0 : Int32).toNatClampNeg + n ≤ n := by
  have q : (0 : Int32).toNatClampNeg = 0 := by decide
  omega
theorem own_cond {n k : Nat} {d : Value} (g : Nat → Int32) (hk : k < n) : (if (0 : Int32).toNatClampNeg ≤ k ∧ k < (0 : Int32).toNatClampNeg + n then Value.int (g ((0 : Int32).toNatClampNeg + (k - (0 : Int32).toNatClampNeg))) else d) = Value.int (g k) := by
  have q : (0 : Int32).toNatClampNeg = 0 := by decide
  rw [q, if_pos ⟨Nat.zero_le _, by omega⟩, Nat.zero_add, Nat.sub_zero]
theorem own_cnt (x : Int32) : ¬ (x &&& 2147483647) % 5 < 0 ∧ ¬ (4 : Int32) < (x &&& 2147483647) % 5 := by
  have e : (x &&& (2147483647 : Int32)).toInt = x.toInt % (2 ^ 31 : Nat) := c_mask x 2147483647 31 (by decide) (by decide)
  have q : (5 : Int32).toInt = 5 := by decide
  have q0 : (0 : Int32).toInt = 0 := by decide
  have q4 : (4 : Int32).toInt = 4 := by decide
  have r := (c_irem (x &&& 2147483647) 5 5 q).1 (by omega)
  rw [Int32.lt_iff_toInt_lt, Int32.lt_iff_toInt_lt, q0, q4]
  omega
theorem d1_0 : decode prog_16_method_1_code 0 = .ok (.aload_n 0, 1) := by decide +kernel
theorem d1_1 : decode prog_16_method_1_code 1 = .ok (.invokespecial 1, 3) := by decide +kernel
theorem d1_4 : decode prog_16_method_1_code 4 = .ok (.aload_n 0, 1) := by decide +kernel
theorem d1_5 : decode prog_16_method_1_code 5 = .ok (.aload_n 1, 1) := by decide +kernel
theorem d1_6 : decode prog_16_method_1_code 6 = .ok (.putfield 7, 3) := by decide +kernel
theorem d1_9 : decode prog_16_method_1_code 9 = .ok (.aload_n 0, 1) := by decide +kernel
theorem d1_10 : decode prog_16_method_1_code 10 = .ok (.iload_n 2, 1) := by decide +kernel
theorem d1_11 : decode prog_16_method_1_code 11 = .ok (.putfield 13, 3) := by decide +kernel
theorem d1_14 : decode prog_16_method_1_code 14 = .ok (.aload_n 0, 1) := by decide +kernel
theorem d1_15 : decode prog_16_method_1_code 15 = .ok (.lload_n 3, 1) := by decide +kernel
theorem d1_16 : decode prog_16_method_1_code 16 = .ok (.putfield 17, 3) := by decide +kernel
theorem d1_19 : decode prog_16_method_1_code 19 = .ok (.return_, 1) := by decide +kernel
theorem pn_1 : plainName "com/example/ucs_to_octets/ucstooctets/DecodedText" = true := by first | (simp [plainName, overriddenIn]; done) | decide +kernel
theorem ef_1 (m : MethodId) (o0 : Addr) (o1 : Addr) (p2 : Int32) (q3 : Int64) : entryFrame m #[(.ref o0), (.ref o1), (.int p2), (.long q3)] 5 = mkF m 0 #[.val (.ref o0), .val (.ref o1), .val (.int p2), .val (.long q3), .second] [] := by first | (simp [entryFrame, mkF, argsToLocals, Value.category]; done) | rfl
def f1_0 : Unit := ()
def Q1 (r : Option Value) (Z : State) (o0 : Addr) (o1 : Addr) (p2 : Int32) (q3 : Int64)  (h0 : Heap) (n0 : Nat) (v : Option Value) (h : Heap) (L : List Loc) : Prop := v = r ∧ Fr n0 L ∧ Keep h0 h [o0] ∧ Exa Z h o0 "com/example/ucs_to_octets/ucstooctets/DecodedText" ∧ Fld Z h o0 "com/example/ucs_to_octets/ucstooctets/DecodedText" "codePoints" "[I" (.ref o1) ∧ Fld Z h o0 "com/example/ucs_to_octets/ucstooctets/DecodedText" "codePointCount" "I" (.int p2)
set_option maxRecDepth 65536 in
set_option maxHeartbeats 40000000 in
theorem rm1 (l : Launch) (Z : State) (a0 : Array Value) (hw : ∀ d ∈ tables_1, d.before a0 Z = true) (ws : List Jvm.Cond) (o0 : Addr) (o1 : Addr) (p2 : Int32) (q3 : Int64)  (h0 : Heap) (n0 : Nat) (Z0 : n0 ≤ h0.size) (E_o0 : Exa Z h0 o0 "com/example/ucs_to_octets/ucstooctets/DecodedText") (g_o0 : n0 ≤ o0) (F_codePoints : Fld Z h0 o0 "com/example/ucs_to_octets/ucstooctets/DecodedText" "codePoints" "[I" .null) (F_codePointCount : Fld Z h0 o0 "com/example/ucs_to_octets/ucstooctets/DecodedText" "codePointCount" "I" (.int (0 : Int32))) (F_replacementCount : Fld Z h0 o0 "com/example/ucs_to_octets/ucstooctets/DecodedText" "replacementCount" "J" (.long (0 : Int64))) :
    MetFree l (⟨"com/example/ucs_to_octets/ucstooctets/DecodedText", "<init>", "([IIJ)V"⟩ : MethodName) (head1 (Jvm.Cond.code (⟨"com/example/ucs_to_octets/ucstooctets/DecodedText", "<init>", "([IIJ)V"⟩ : MethodName) prog_16_method_1_code 5 none :: ws) ({ frames := 1, cells := 0, slots := 0, locals := 12 } : Room)) (fun a U => a = #[(.ref o0), (.ref o1), (.int p2), (.long q3)] ∧ Z.Warmed39 U.vm ∧ U.heap = h0) (fun _ _ _ _ _ => True) (fun _ U o U' => ∃ v L, o = .returned v ∧ (Q1 none Z o0 o1 p2 q3 h0 n0) v U'.heap L ∧ FrameEnd U o U' L ({ frames := 1, cells := 0, slots := 0, locals := 12 } : Room).cells ({ frames := 1, cells := 0, slots := 0, locals := 12 } : Room).slots) := by
  refine MetFree.of_bodySF (plainFor_of_name pn_1) hisR ?_
  intro p e s m args below meth c s₁ Bd hml0 hP hK
  obtain ⟨rfl, hZ, hh⟩ := hP
  have hx := Bd.exec
  have hby := Bd.bytes
  have hlk : meth.locks = false := BodyLoose.notSynchronized Bd
  have hml : c.maxLocals = 5 := hml0
  have hown : s.vm.findClass "com/example/ucs_to_octets/ucstooctets/DecodedText" = some m.cls := findClass_of_methodNamed Bd.named
  have hnm := (name_of_methodNamed Bd.named Bd.method).1
  have X0 : Stand p l e ({ frames := 1, cells := 0, slots := 0, locals := 12 } : Room) s m #[(.ref o0), (.ref o1), (.int p2), (.long q3)] below meth c s₁ ([] : List Loc) 0 0 := Stand.of_body Bd
  have e0 : s₁.heap = h0 := by rw [← hh, Bd.state]; rfl
  show Go p e below s 0 0 (Q1 none Z o0 o1 p2 q3 h0 n0) s₁ (entryFrame m #[(.ref o0), (.ref o1), (.int p2), (.long q3)] 5)
  rw [ef_1 m o0 o1 p2 q3]
  have N0 := Fr.nil n0
  refine Go.step (g' := (mkF m 1 #[.val (.ref o0), .val (.ref o1), .val (.int p2), .val (.long q3), .second] [(.ref o0)])) (fun _ k => XS.aloadN X0.here hx rfl (hb hby d1_0) rfl rfl  k) ?_
  obtain ⟨T1, X1, e1, st1⟩ := initO X0 hx hZ hown (hw _ (List.mem_of_getElem? (i := 8) rfl)) (hw _ (List.mem_of_getElem? (i := 9) rfl)) (hw _ (List.mem_of_getElem? (i := 10) rfl)) e0 (g := (mkF m 1 #[.val (.ref o0), .val (.ref o1), .val (.int p2), .val (.long q3), .second] [(.ref o0)])) rfl (by rw [hml]; rfl) rfl (hb hby d1_1) (by decide) (W := 0) (by show 2 * 0 + _ ≤ _; exact Nat.le_of_eq rfl) (by decide)
  refine Go.step (g' := (mkF m 4 #[.val (.ref o0), .val (.ref o1), .val (.int p2), .val (.long q3), .second] [])) st1 ?_
  refine Go.step (g' := (mkF m 5 #[.val (.ref o0), .val (.ref o1), .val (.int p2), .val (.long q3), .second] [(.ref o0)])) (fun _ k => XS.aloadN X1.here hx rfl (hb hby d1_4) rfl rfl  k) ?_
  refine Go.step (g' := (mkF m 6 #[.val (.ref o0), .val (.ref o1), .val (.int p2), .val (.long q3), .second] [(.ref o1), (.ref o0)])) (fun _ k => XS.aloadN X1.here hx rfl (hb hby d1_5) rfl rfl  k) ?_
  obtain ⟨T2, h2, X2, e2, W2, st2⟩ := putF X1 hx hZ hown (host := "") (Or.inl (hw _ (List.mem_of_getElem? (i := 11) rfl))) Via.refl e1 F_codePoints E_o0 (Or.inr ⟨(hw _ (List.mem_of_getElem? (i := 12) rfl)), rfl, hnm⟩) (hw _ (List.mem_of_getElem? (i := 3) rfl)) (ty := (.array .int)) (by decide) rfl rfl (g := (mkF m 6 #[.val (.ref o0), .val (.ref o1), .val (.int p2), .val (.long q3), .second] [(.ref o1), (.ref o0)])) rfl rfl (hb hby d1_6)
  obtain ⟨lc2, X2, N2⟩ := own_pack X2 (Fr.snoc X2 N0 g_o0)
  have Fw2 := F_codePoints.same W2
  refine Go.step (g' := (mkF m 9 #[.val (.ref o0), .val (.ref o1), .val (.int p2), .val (.long q3), .second] [])) st2 ?_
  have Q3 := (F_codePointCount.other W2 (Or.inr (slot_ne (Or.inr (hw _ (List.mem_of_getElem? (i := 14) rfl))) (Or.inr (hw _ (List.mem_of_getElem? (i := 12) rfl))) (by decide) (t := .int) (t' := (.array .int)) (by decide) (by decide))))
  have Q4 := (F_replacementCount.other W2 (Or.inr (slot_ne (Or.inr (hw _ (List.mem_of_getElem? (i := 16) rfl))) (Or.inr (hw _ (List.mem_of_getElem? (i := 12) rfl))) (by decide) (t := .long) (t' := (.array .int)) (by decide) (by decide))))
  have Q5 := ((Keep.refl h0 [o0]).wr W2 (Or.inl (List.mem_of_getElem? (i := 0) rfl)))
  refine Go.step (g' := (mkF m 10 #[.val (.ref o0), .val (.ref o1), .val (.int p2), .val (.long q3), .second] [(.ref o0)])) (fun _ k => XS.aloadN X2.here hx rfl (hb hby d1_9) rfl rfl  k) ?_
  refine Go.step (g' := (mkF m 11 #[.val (.ref o0), .val (.ref o1), .val (.int p2), .val (.long q3), .second] [(.int p2), (.ref o0)])) (fun _ k => XS.iloadN X2.here hx rfl (hb hby d1_10) rfl  k) ?_
  obtain ⟨T6, h6, X6, e6, W6, st6⟩ := putF X2 hx hZ hown (host := "") (Or.inl (hw _ (List.mem_of_getElem? (i := 13) rfl))) Via.refl e2 Q3 (E_o0.wr W2) (Or.inr ⟨(hw _ (List.mem_of_getElem? (i := 14) rfl)), rfl, hnm⟩) (hw _ (List.mem_of_getElem? (i := 3) rfl)) (ty := .int) (by decide) rfl rfl (g := (mkF m 11 #[.val (.ref o0), .val (.ref o1), .val (.int p2), .val (.long q3), .second] [(.int p2), (.ref o0)])) rfl rfl (hb hby d1_11)
  obtain ⟨lc6, X6, N6⟩ := own_pack X6 (Fr.snoc X6 N2 g_o0)
  have Fw6 := Q3.same W6
  refine Go.step (g' := (mkF m 14 #[.val (.ref o0), .val (.ref o1), .val (.int p2), .val (.long q3), .second] [])) st6 ?_
  have Q7 := (Q4.other W6 (Or.inr (slot_ne (Or.inr (hw _ (List.mem_of_getElem? (i := 16) rfl))) (Or.inr (hw _ (List.mem_of_getElem? (i := 14) rfl))) (by decide) (t := .long) (t' := .int) (by decide) (by decide))))
  have Q8 := (Fw2.other W6 (Or.inr (slot_ne (Or.inr (hw _ (List.mem_of_getElem? (i := 12) rfl))) (Or.inr (hw _ (List.mem_of_getElem? (i := 14) rfl))) (by decide) (t := (.array .int)) (t' := .int) (by decide) (by decide))))
  have Q9 := (Nat.le_trans (Nat.le_trans Z0 (Keep.of_wr W2).1) (Keep.of_wr W6).1)
  refine Go.step (g' := (mkF m 15 #[.val (.ref o0), .val (.ref o1), .val (.int p2), .val (.long q3), .second] [(.ref o0)])) (fun _ k => XS.aloadN X6.here hx rfl (hb hby d1_14) rfl rfl  k) ?_
  refine Go.step (g' := (mkF m 16 #[.val (.ref o0), .val (.ref o1), .val (.int p2), .val (.long q3), .second] [(.long q3), (.ref o0)])) (fun _ k => XS.lloadN X6.here hx rfl (hb hby d1_15) rfl  k) ?_
  obtain ⟨T10, h10, X10, e10, W10, st10⟩ := putF X6 hx hZ hown (host := "") (Or.inl (hw _ (List.mem_of_getElem? (i := 15) rfl))) Via.refl e6 Q7 ((E_o0.wr W2).wr W6) (Or.inr ⟨(hw _ (List.mem_of_getElem? (i := 16) rfl)), rfl, hnm⟩) (hw _ (List.mem_of_getElem? (i := 3) rfl)) (ty := .long) (by decide) rfl rfl (g := (mkF m 16 #[.val (.ref o0), .val (.ref o1), .val (.int p2), .val (.long q3), .second] [(.long q3), (.ref o0)])) rfl rfl (hb hby d1_16)
  obtain ⟨lc10, X10, N10⟩ := own_pack X10 (Fr.snoc X10 N6 g_o0)
  have Fw10 := Q7.same W10
  refine Go.step (g' := (mkF m 19 #[.val (.ref o0), .val (.ref o1), .val (.int p2), .val (.long q3), .second] [])) st10 ?_
  have Q11 := (Q8.other W10 (Or.inr (slot_ne (Or.inr (hw _ (List.mem_of_getElem? (i := 12) rfl))) (Or.inr (hw _ (List.mem_of_getElem? (i := 16) rfl))) (by decide) (t := (.array .int)) (t' := .long) (by decide) (by decide))))
  have Q12 := (Fw6.other W10 (Or.inr (slot_ne (Or.inr (hw _ (List.mem_of_getElem? (i := 14) rfl))) (Or.inr (hw _ (List.mem_of_getElem? (i := 16) rfl))) (by decide) (t := .int) (t' := .long) (by decide) (by decide))))
  have Q13 := ((Q5.wr W6 (Or.inl (List.mem_of_getElem? (i := 0) rfl))).wr W10 (Or.inl (List.mem_of_getElem? (i := 0) rfl)))
  exact Go.ret0 X10 hx hlk Bd.returns (hb hby d1_19) (by decide) (by decide) (by rw [e10]; exact ⟨rfl, N10, Q13, (((E_o0.wr W2).wr W6).wr W10), Q11, Q12⟩)
theorem d5_0 : decode jdk_29_method_69_code 0 = .ok (.iload_n 0, 1) := by decide +kernel
theorem d5_1 : decode jdk_29_method_69_code 1 = .ok (.iload_n 1, 1) := by decide +kernel
theorem d5_2 : decode jdk_29_method_69_code 2 = .ok (.if_icmp .gt 7, 3) := by decide +kernel
theorem d5_5 : decode jdk_29_method_69_code 5 = .ok (.iload_n 0, 1) := by decide +kernel
theorem d5_6 : decode jdk_29_method_69_code 6 = .ok (.goto 4, 3) := by decide +kernel
theorem d5_9 : decode jdk_29_method_69_code 9 = .ok (.iload_n 1, 1) := by decide +kernel
theorem d5_10 : decode jdk_29_method_69_code 10 = .ok (.ireturn, 1) := by decide +kernel

theorem ef_5 (m : MethodId) (p0 : Int32) (p1 : Int32) : entryFrame m #[(.int p0), (.int p1)] 2 = mkF m 0 #[.val (.int p0), .val (.int p1)] [] := by first | (simp [entryFrame, mkF, argsToLocals, Value.category]; done) | rfl
def f5_10 (v10_s0 : Int32) : Int32 := v10_s0
def f5_9 (p1 : Int32) : Int32 := (f5_10 p1)
def f5_5 (p0 : Int32) : Int32 := (f5_10 p0)
def f5_0 (p0 : Int32) (p1 : Int32) : Int32 := if p1 < p0 then (f5_9 p1) else (f5_5 p0)
set_option maxRecDepth 65536 in
set_option maxHeartbeats 40000000 in
theorem rm5 (l : Launch) (Z : State) (a0 : Array Value) (hw : ∀ d ∈ tables_1, d.before a0 Z = true) (ws : List Jvm.Cond) (p0 : Int32) (p1 : Int32)  (h0 : Heap) :
    MetFree l (⟨"java/lang/Math", "min", "(II)I"⟩ : MethodName) (head1 (Jvm.Cond.code (⟨"java/lang/Math", "min", "(II)I"⟩ : MethodName) jdk_29_method_69_code 2 (some .int) :: ws) ({ frames := 0, cells := 0, slots := 0, locals := 0 } : Room)) (fun a U => a = #[(.int p0), (.int p1)] ∧ Z.Warmed39 U.vm ∧ U.heap = h0) (fun _ _ _ _ _ => True) (fun _ U o U' => ∃ v L, o = .returned v ∧ (PureQ (.int (f5_0 p0 p1)) h0) v U'.heap L ∧ FrameEnd U o U' L ({ frames := 0, cells := 0, slots := 0, locals := 0 } : Room).cells ({ frames := 0, cells := 0, slots := 0, locals := 0 } : Room).slots) := by
  refine MetFree.of_bodySF (Jvm.Free.JP.mathPlain rfl (by decide +kernel)) hisR ?_
  intro p e s m args below meth c s₁ Bd hml0 hP hK
  obtain ⟨rfl, hZ, hh⟩ := hP
  have hx := Bd.exec
  have hby := Bd.bytes
  have hlk : meth.locks = false := BodyLoose.notSynchronized Bd
  have hml : c.maxLocals = 2 := hml0
  have hown : s.vm.findClass "java/lang/Math" = some m.cls := findClass_of_methodNamed Bd.named
  have hnm := (name_of_methodNamed Bd.named Bd.method).1
  have X0 : Stand p l e ({ frames := 0, cells := 0, slots := 0, locals := 0 } : Room) s m #[(.int p0), (.int p1)] below meth c s₁ ([] : List Loc) 0 0 := Stand.of_body Bd
  have e0 : s₁.heap = h0 := by rw [← hh, Bd.state]; rfl
  show Go p e below s 0 0 (PureQ (.int (f5_0 p0 p1)) h0) s₁ (entryFrame m #[(.int p0), (.int p1)] 2)
  rw [ef_5 m p0 p1]
  refine Go.step (g' := (mkF m 1 #[.val (.int p0), .val (.int p1)] [(.int p0)])) (fun _ k => XS.iloadN X0.here hx rfl (hb hby d5_0) rfl  k) ?_
  refine Go.step (g' := (mkF m 2 #[.val (.int p0), .val (.int p1)] [(.int p1), (.int p0)])) (fun _ k => XS.iloadN X0.here hx rfl (hb hby d5_1) rfl  k) ?_
  have t10 : ∀ (v10_s0 : Int32), Go p e below s 0 0 (PureQ (.int (f5_10 v10_s0)) h0) s₁ (mkF m 10 #[.val (.int p0), .val (.int p1)] [(.int v10_s0)]) := by
    intro v10_s0
    exact Go.retW X0 hx hlk (t := .int) Bd.returns rfl (Or.inl ⟨rfl, Or.inl rfl, _, rfl⟩) (hb hby d5_10) (by decide) (by decide) ⟨rfl, rfl, e0⟩
  by_cases hc2 : p1 < p0
  · rw [show (f5_0 p0 p1) = (f5_9 p1) from if_pos hc2]
    refine Go.step (g' := (mkF m 9 #[.val (.int p0), .val (.int p1)] [])) (fun _ k => XS.icmpYes X0.here hx rfl (pc0 := 2) (pc' := 9) rfl (hb hby d5_2) rfl (tlt hc2).2.2.1 (by decide) (by decide) k) ?_
    refine Go.step (g' := (mkF m 10 #[.val (.int p0), .val (.int p1)] [(.int p1)])) (fun _ k => XS.iloadN X0.here hx rfl (hb hby d5_9) rfl  k) ?_
    rw [show (f5_9 p1) = (f5_10 p1) from rfl]
    exact t10 p1
  · rw [show (f5_0 p0 p1) = (f5_5 p0) from if_neg hc2]
    refine Go.step (g' := (mkF m 5 #[.val (.int p0), .val (.int p1)] [])) (fun _ k => XS.icmpNo X0.here hx rfl (hb hby d5_2) rfl (flt hc2).2.2.1 k) ?_
    refine Go.step (g' := (mkF m 6 #[.val (.int p0), .val (.int p1)] [(.int p0)])) (fun _ k => XS.iloadN X0.here hx rfl (hb hby d5_5) rfl  k) ?_
    refine Go.step (g' := (mkF m 10 #[.val (.int p0), .val (.int p1)] [(.int p0)])) (fun _ k => XS.goto X0.here hx rfl (pc0 := 6) (pc' := 10) rfl (hb hby d5_6) (by decide) (by decide) k) ?_
    rw [show (f5_5 p0) = (f5_10 p0) from rfl]
    exact t10 p0
theorem own_min {n : Int32} (h1 : ¬ (4 : Int32) < n) : (f5_0 (4 : Int32) n) = n := by
  simp only [f5_10, f5_9, f5_5, f5_0]
  by_cases h : n < 4
  · rw [if_pos h]
  · rw [if_neg h]
    have q : (4 : Int32).toInt = 4 := by decide
    rw [Int32.lt_iff_toInt_lt, q] at h h1
    apply Int32.toInt_inj.mp
    omega

theorem d4_0 : decode jdk_65_method_123_code 0 = .ok (.iload_n 1, 1) := by decide +kernel
theorem d4_1 : decode jdk_65_method_123_code 1 = .ok (.aload_n 0, 1) := by decide +kernel
theorem d4_2 : decode jdk_65_method_123_code 2 = .ok (.arraylength, 1) := by decide +kernel
theorem d4_3 : decode jdk_65_method_123_code 3 = .ok (.if_icmp .ne 11, 3) := by decide +kernel
theorem d4_6 : decode jdk_65_method_123_code 6 = .ok (.aload_n 0, 1) := by decide +kernel
theorem d4_7 : decode jdk_65_method_123_code 7 = .ok (.invokevirtual 316, 3) := by decide +kernel
theorem d4_10 : decode jdk_65_method_123_code 10 = .ok (.checkcast 317, 3) := by decide +kernel
theorem d4_13 : decode jdk_65_method_123_code 13 = .ok (.areturn, 1) := by decide +kernel
theorem d4_14 : decode jdk_65_method_123_code 14 = .ok (.iload_n 1, 1) := by decide +kernel
theorem d4_15 : decode jdk_65_method_123_code 15 = .ok (.newarray .int, 2) := by decide +kernel
theorem d4_17 : decode jdk_65_method_123_code 17 = .ok (.astore_n 2, 1) := by decide +kernel
theorem d4_18 : decode jdk_65_method_123_code 18 = .ok (.aload_n 0, 1) := by decide +kernel
theorem d4_19 : decode jdk_65_method_123_code 19 = .ok (.iconst 0, 1) := by decide +kernel
theorem d4_20 : decode jdk_65_method_123_code 20 = .ok (.aload_n 2, 1) := by decide +kernel
theorem d4_21 : decode jdk_65_method_123_code 21 = .ok (.iconst 0, 1) := by decide +kernel
theorem d4_22 : decode jdk_65_method_123_code 22 = .ok (.aload_n 0, 1) := by decide +kernel
theorem d4_23 : decode jdk_65_method_123_code 23 = .ok (.arraylength, 1) := by decide +kernel
theorem d4_24 : decode jdk_65_method_123_code 24 = .ok (.iload_n 1, 1) := by decide +kernel
theorem d4_25 : decode jdk_65_method_123_code 25 = .ok (.invokestatic 304, 3) := by decide +kernel
theorem d4_28 : decode jdk_65_method_123_code 28 = .ok (.invokestatic 150, 3) := by decide +kernel
theorem d4_31 : decode jdk_65_method_123_code 31 = .ok (.aload_n 2, 1) := by decide +kernel
theorem d4_32 : decode jdk_65_method_123_code 32 = .ok (.areturn, 1) := by decide +kernel
theorem pn_4 : plainName "java/util/Arrays" = true := by first | (simp [plainName, overriddenIn]; done) | decide +kernel
theorem ef_4 (m : MethodId) (o0 : Addr) (p1 : Int32) : entryFrame m #[(.ref o0), (.int p1)] 3 = mkF m 0 #[.val (.ref o0), .val (.int p1), .unset] [] := by first | (simp [entryFrame, mkF, argsToLocals, Value.category]; done) | rfl
set_option maxRecDepth 65536 in
set_option maxHeartbeats 40000000 in
theorem rm4 (l : Launch) (Z : State) (a0 : Array Value) (hw : ∀ d ∈ tables_1, d.before a0 Z = true) (ws : List Jvm.Cond) (o0 : Addr) (p1 : Int32) (g : Nat → Int32) (h0 : Heap) (n0 : Nat) (Z0 : n0 ≤ h0.size) (A_S : IA Z h0 o0 .int 4 (fun k => .int (g k))) (E_S : Exa Z h0 o0 "[I") (hp0 : ¬ p1 < 0) (hp1 : ¬ (4 : Int32) < p1) :
    MetFree l (⟨"java/util/Arrays", "copyOf", "([II)[I"⟩ : MethodName) (head1 (Jvm.Cond.code (⟨"java/util/Arrays", "copyOf", "([II)[I"⟩ : MethodName) jdk_65_method_123_code 3 (some (.array .int)) :: ws) ({ frames := 1, cells := 1, slots := 4, locals := 40 } : Room)) (fun a U => a = #[(.ref o0), (.int p1)] ∧ Z.Warmed39 U.vm ∧ U.heap = h0) (fun _ _ _ _ _ => True) (fun _ U o U' => ∃ v L, o = .returned v ∧ (QF Z p1 g h0 n0) v U'.heap L ∧ FrameEnd U o U' L ({ frames := 1, cells := 1, slots := 4, locals := 40 } : Room).cells ({ frames := 1, cells := 1, slots := 4, locals := 40 } : Room).slots) := by
  refine MetFree.of_bodySF (plainFor_of_name pn_4) hisR ?_
  intro p e s m args below meth c s₁ Bd hml0 hP hK
  obtain ⟨rfl, hZ, hh⟩ := hP
  have hx := Bd.exec
  have hby := Bd.bytes
  have hlk : meth.locks = false := BodyLoose.notSynchronized Bd
  have hml : c.maxLocals = 3 := hml0
  have hown : s.vm.findClass "java/util/Arrays" = some m.cls := findClass_of_methodNamed Bd.named
  have hnm := (name_of_methodNamed Bd.named Bd.method).1
  have X0 : Stand p l e ({ frames := 1, cells := 1, slots := 4, locals := 40 } : Room) s m #[(.ref o0), (.int p1)] below meth c s₁ ([] : List Loc) 0 0 := Stand.of_body Bd
  have e0 : s₁.heap = h0 := by rw [← hh, Bd.state]; rfl
  show Go p e below s 1 4 (QF Z p1 g h0 n0) s₁ (entryFrame m #[(.ref o0), (.int p1)] 3)
  rw [ef_4 m o0 p1]
  have N0 := Fr.nil n0
  refine Go.step (g' := (mkF m 1 #[.val (.ref o0), .val (.int p1), .unset] [(.int p1)])) (fun _ k => XS.iloadN X0.here hx rfl (hb hby d4_0) rfl  k) ?_
  refine Go.step (g' := (mkF m 2 #[.val (.ref o0), .val (.int p1), .unset] [(.ref o0), (.int p1)])) (fun _ k => XS.aloadN X0.here hx rfl (hb hby d4_1) rfl rfl  k) ?_
  refine Go.step (g' := (mkF m 3 #[.val (.ref o0), .val (.int p1), .unset] [(.int (4 : Int32)), (.int p1)])) (fun _ k => getLen X0 hx hZ e0 A_S rfl (gf := (mkF m 2 #[.val (.ref o0), .val (.int p1), .unset] [(.ref o0), (.int p1)])) rfl rfl (hb hby d4_2) k) ?_
  by_cases hc3 : p1 = (4 : Int32)
  · skip
    refine Go.step (g' := (mkF m 6 #[.val (.ref o0), .val (.int p1), .unset] [])) (fun _ k => XS.icmpNo X0.here hx rfl (hb hby d4_3) rfl (teq hc3).2 k) ?_
    refine Go.step (g' := (mkF m 7 #[.val (.ref o0), .val (.int p1), .unset] [(.ref o0)])) (fun _ k => XS.aloadN X0.here hx rfl (hb hby d4_6) rfl rfl  k) ?_
    obtain ⟨kc1, Av1⟩ := A_S.arv (by decide) (fun _ => rfl) .null
    obtain ⟨T1, h1, X1, e1, E1, A1, Ex1, st1⟩ := cloneH X0 hx hZ hown (hw _ (List.mem_of_getElem? (i := 38) rfl)) (hw _ (List.mem_of_getElem? (i := 39) rfl)) (hw _ (List.mem_of_getElem? (i := 43) rfl)) (hw _ (List.mem_of_getElem? (i := 41) rfl)) (hw _ (List.mem_of_getElem? (i := 42) rfl)) (hw _ (List.mem_of_getElem? (i := 44) rfl)) e0 Av1.arh E_S (g := (mkF m 7 #[.val (.ref o0), .val (.int p1), .unset] [(.ref o0)])) rfl (by rw [hml]; rfl) rfl (hb hby d4_7) (by decide) (W := 0) (cap := 4) (by show 2 * 0 + _ ≤ _; exact Nat.le_of_eq rfl) (by decide) (by decide) (by decide) (by decide)
    obtain ⟨b1, g1⟩ : ∃ z, z = h0.size := ⟨_, rfl⟩
    rw [← g1] at A1 Ex1 st1
    have ne_o0_b1 : o0 ≠ b1 := Nat.ne_of_lt (Nat.lt_of_lt_of_le E_S.lt (Nat.le_of_eq g1.symm))
    have g_b1 : n0 ≤ b1 := Nat.le_trans Z0 (Nat.le_of_eq g1.symm)
    have sz_b1 : h0.size ≤ b1 := Nat.le_trans (Keep.refl h0 []).1 (Nat.le_of_eq g1.symm)
    have V1 : IA Z h1 b1 .int p1.toNatClampNeg (fun k => .int (g k)) := own_back4 A1 (by rw [hc3]; rfl)
    refine Go.step (g' := (mkF m 10 #[.val (.ref o0), .val (.int p1), .unset] [(.ref b1)])) st1 ?_
    obtain ⟨T2, X2, e2, st2⟩ := castY X1 hx hZ hown (hw _ (List.mem_of_getElem? (i := 45) rfl)) e1 (Ins.self Ex1) (g := (mkF m 10 #[.val (.ref o0), .val (.int p1), .unset] [(.ref b1)])) rfl rfl (hb hby d4_10)
    refine Go.step (g' := (mkF m 13 #[.val (.ref o0), .val (.int p1), .unset] [(.ref b1)])) st2 ?_
    exact Go.retW X2 hx hlk (t := (.array .int)) Bd.returns rfl (Or.inr (Or.inr (Or.inr (Or.inr ⟨rfl, rfl, rfl⟩)))) (hb hby d4_13) (by decide) (by decide) (by rw [e2]; exact ⟨b1, rfl, sz_b1, N0, ((Keep.refl h0 []).ext E1), V1⟩)
  · skip
    refine Go.step (g' := (mkF m 14 #[.val (.ref o0), .val (.int p1), .unset] [])) (fun _ k => XS.icmpYes X0.here hx rfl (pc0 := 3) (pc' := 14) rfl (hb hby d4_3) rfl (feq hc3).2 (by decide) (by decide) k) ?_
    refine Go.step (g' := (mkF m 15 #[.val (.ref o0), .val (.int p1), .unset] [(.int p1)])) (fun _ k => XS.iloadN X0.here hx rfl (hb hby d4_14) rfl  k) ?_
    obtain ⟨T3, h3, k3, X3, e3, E3, A3, st3⟩ := newP X0 hx hZ (hw _ (List.mem_of_getElem? (i := 1) rfl)) e0 (g := (mkF m 15 #[.val (.ref o0), .val (.int p1), .unset] [(.int p1)])) rfl (hb hby d4_15) rfl hp0 (cap := 4) (own_cap4 hp0 hp1) (by decide) (by decide) (by decide)
    obtain ⟨b3, g3⟩ : ∃ z, z = h0.size := ⟨_, rfl⟩
    rw [← g3] at A3 st3
    have ne_o0_b3 : o0 ≠ b3 := Nat.ne_of_lt (Nat.lt_of_lt_of_le E_S.lt (Nat.le_of_eq g3.symm))
    have g_b3 : n0 ≤ b3 := Nat.le_trans Z0 (Nat.le_of_eq g3.symm)
    have sz_b3 : h0.size ≤ b3 := Nat.le_trans (Keep.refl h0 []).1 (Nat.le_of_eq g3.symm)
    have V3 : IA Z h3 b3 .int (p1).toNatClampNeg (fun k => .int ((fun _ => (0 : Int32)) k)) := IA.of_new A3 rfl
    refine Go.step (g' := (mkF m 17 #[.val (.ref o0), .val (.int p1), .unset] [(.ref b3)])) st3 ?_
    refine Go.step (g' := (mkF m 18 #[.val (.ref o0), .val (.int p1), .val (.ref b3)] [])) (fun _ k => XS.astoreN X3.here hx rfl (hb hby d4_17) rfl rfl (l' := #[.val (.ref o0), .val (.int p1), .val (.ref b3)]) rfl k) ?_
    refine Go.step (g' := (mkF m 19 #[.val (.ref o0), .val (.int p1), .val (.ref b3)] [(.ref o0)])) (fun _ k => XS.aloadN X3.here hx rfl (hb hby d4_18) rfl rfl  k) ?_
    refine Go.step (g' := (mkF m 20 #[.val (.ref o0), .val (.int p1), .val (.ref b3)] [(.int (0 : Int32)), (.ref o0)])) (fun _ k => XS.iconst X3.here hx rfl (hb hby d4_19) k) ?_
    refine Go.step (g' := (mkF m 21 #[.val (.ref o0), .val (.int p1), .val (.ref b3)] [(.ref b3), (.int (0 : Int32)), (.ref o0)])) (fun _ k => XS.aloadN X3.here hx rfl (hb hby d4_20) rfl rfl  k) ?_
    refine Go.step (g' := (mkF m 22 #[.val (.ref o0), .val (.int p1), .val (.ref b3)] [(.int (0 : Int32)), (.ref b3), (.int (0 : Int32)), (.ref o0)])) (fun _ k => XS.iconst X3.here hx rfl (hb hby d4_21) k) ?_
    refine Go.step (g' := (mkF m 23 #[.val (.ref o0), .val (.int p1), .val (.ref b3)] [(.ref o0), (.int (0 : Int32)), (.ref b3), (.int (0 : Int32)), (.ref o0)])) (fun _ k => XS.aloadN X3.here hx rfl (hb hby d4_22) rfl rfl  k) ?_
    refine Go.step (g' := (mkF m 24 #[.val (.ref o0), .val (.int p1), .val (.ref b3)] [(.int (4 : Int32)), (.int (0 : Int32)), (.ref b3), (.int (0 : Int32)), (.ref o0)])) (fun _ k => getLen X3 hx hZ e3 (A_S.ext E3) rfl (gf := (mkF m 23 #[.val (.ref o0), .val (.int p1), .val (.ref b3)] [(.ref o0), (.int (0 : Int32)), (.ref b3), (.int (0 : Int32)), (.ref o0)])) rfl rfl (hb hby d4_23) k) ?_
    refine Go.step (g' := (mkF m 25 #[.val (.ref o0), .val (.int p1), .val (.ref b3)] [(.int p1), (.int (4 : Int32)), (.int (0 : Int32)), (.ref b3), (.int (0 : Int32)), (.ref o0)])) (fun _ k => XS.iloadN X3.here hx rfl (hb hby d4_24) rfl  k) ?_
    obtain ⟨_, _, ⟨T5, L5, k5, n5⟩, -, X5, ⟨Lc5, hQ5, l5, y5, z5⟩, st5⟩ := Jvm.LawKit.callS X3 hx (y := (⟨"java/lang/Math", "min", "(II)I"⟩ : MethodName)) hown (mvT hZ (hw _ (List.mem_of_getElem? (i := 26) rfl))) (mvT hZ (hw _ (List.mem_of_getElem? (i := 27) rfl))) (mvT hZ (hw _ (List.mem_of_getElem? (i := 28) rfl))) (mvT hZ (hw _ (List.mem_of_getElem? (i := 29) rfl))) (by decide) (backOf (W := 4) (rm5 l Z a0 hw [] (4 : Int32) p1 h3 ) hZ (hw _ (List.mem_of_getElem? (i := 29) rfl)) (hw _ (List.mem_of_getElem? (i := 28) rfl)) (by decide) (by decide)) (g := (mkF m 25 #[.val (.ref o0), .val (.int p1), .val (.ref b3)] [(.int p1), (.int (4 : Int32)), (.int (0 : Int32)), (.ref b3), (.int (0 : Int32)), (.ref o0)])) rfl (by rw [hml]; rfl) (argsL := [(.int (4 : Int32)), (.int p1)]) (rest := [(.int (0 : Int32)), (.ref b3), (.int (0 : Int32)), (.ref o0)]) (lenOf pd_0 rfl) rfl (by show 2 * 0 + _ ≤ _; exact Nat.le_of_eq rfl) (hb hby d4_25) (fun _ _ => ⟨rfl, e3, (by decide : (0 + 1) + 0 ≤ _), (by decide : (0 + 4) + 0 ≤ _)⟩)
    dsimp only [Pt.U, Pt.locs, Pt.cells, Pt.slots] at X5 l5 y5 z5 st5 hQ5
    subst l5 y5 z5
    obtain ⟨rfl, rfl, e5⟩ := hQ5
    try rw [List.append_nil] at X5
    refine Go.step (g' := (mkF m 28 #[.val (.ref o0), .val (.int p1), .val (.ref b3)] [(.int (f5_0 (4 : Int32) p1)), (.int (0 : Int32)), (.ref b3), (.int (0 : Int32)), (.ref o0)])) st5 ?_
    rw [show (f5_0 (4 : Int32) p1) = p1 from own_min hp1]
    obtain ⟨T6, h6, lc6, X6, e6, N6, K6, V6, st6⟩ := own_copy X5 hx hZ hown (hw _ (List.mem_of_getElem? (i := 30) rfl)) (hw _ (List.mem_of_getElem? (i := 33) rfl)) (hw _ (List.mem_of_getElem? (i := 31) rfl)) (hw _ (List.mem_of_getElem? (i := 32) rfl)) e5 (A_S.ext E3) V3 rfl (fun _ => rfl) (fun _ => rfl) (by decide) (own_lt31 _ hp1) (sp := (0 : Int32)) (dp := (0 : Int32)) (nn := p1) (by decide) (by decide) hp0 (own_le4 hp0 hp1) (own_le00 _) N0 g_b3 (gf := (mkF m 28 #[.val (.ref o0), .val (.int p1), .val (.ref b3)] [(.int p1), (.int (0 : Int32)), (.ref b3), (.int (0 : Int32)), (.ref o0)])) rfl (by rw [hml]; rfl) rfl (hb hby d4_28) (by decide) (W := 0) (by show 2 * 0 + _ ≤ _; exact Nat.le_of_eq rfl) (by decide)
    have Vc6 : IA Z h6 b3 .int p1.toNatClampNeg (fun k => .int (g k)) := V6.cong fun k hk => own_cond g hk
    refine Go.step (g' := (mkF m 31 #[.val (.ref o0), .val (.int p1), .val (.ref b3)] [])) st6 ?_
    refine Go.step (g' := (mkF m 32 #[.val (.ref o0), .val (.int p1), .val (.ref b3)] [(.ref b3)])) (fun _ k => XS.aloadN X6.here hx rfl (hb hby d4_31) rfl rfl  k) ?_
    exact Go.retW X6 hx hlk (t := (.array .int)) Bd.returns rfl (Or.inr (Or.inr (Or.inr (Or.inr ⟨rfl, rfl, rfl⟩)))) (hb hby d4_32) (by decide) (by decide) (by rw [e6]; exact ⟨b3, rfl, sz_b3, N6, (((Keep.refl h0 []).ext E3).trans K6 (allS (Or.inr sz_b3) all0)), Vc6⟩)
theorem d3_0 : decode prog_16_method_2_code 0 = .ok (.aload_n 0, 1) := by decide +kernel
theorem d3_1 : decode prog_16_method_2_code 1 = .ok (.getfield 7, 3) := by decide +kernel
theorem d3_4 : decode prog_16_method_2_code 4 = .ok (.aload_n 0, 1) := by decide +kernel
theorem d3_5 : decode prog_16_method_2_code 5 = .ok (.getfield 13, 3) := by decide +kernel
theorem d3_8 : decode prog_16_method_2_code 8 = .ok (.invokestatic 21, 3) := by decide +kernel
theorem d3_11 : decode prog_16_method_2_code 11 = .ok (.areturn, 1) := by decide +kernel
theorem pn_3 : plainName "com/example/ucs_to_octets/ucstooctets/DecodedText" = true := by first | (simp [plainName, overriddenIn]; done) | decide +kernel
theorem ef_3 (m : MethodId) (o0 : Addr) : entryFrame m #[(.ref o0)] 1 = mkF m 0 #[.val (.ref o0)] [] := by first | (simp [entryFrame, mkF, argsToLocals, Value.category]; done) | rfl
set_option maxRecDepth 65536 in
set_option maxHeartbeats 40000000 in
theorem rm3 (l : Launch) (Z : State) (a0 : Array Value) (hw : ∀ d ∈ tables_1, d.before a0 Z = true) (ws : List Jvm.Cond) (o0 : Addr) (src : Addr) (cnt : Int32) (g : Nat → Int32) (h0 : Heap) (n0 : Nat) (Z0 : n0 ≤ h0.size) (Fc : Fld Z h0 o0 "com/example/ucs_to_octets/ucstooctets/DecodedText" "codePoints" "[I" (.ref src)) (Fn : Fld Z h0 o0 "com/example/ucs_to_octets/ucstooctets/DecodedText" "codePointCount" "I" (.int cnt)) (A_S : IA Z h0 src .int 4 (fun k => .int (g k))) (E_S : Exa Z h0 src "[I") (hp0 : ¬ cnt < 0) (hp1 : ¬ (4 : Int32) < cnt) :
    MetFree l (⟨"com/example/ucs_to_octets/ucstooctets/DecodedText", "codePoints", "()[I"⟩ : MethodName) (head1 (Jvm.Cond.code (⟨"com/example/ucs_to_octets/ucstooctets/DecodedText", "codePoints", "()[I"⟩ : MethodName) prog_16_method_2_code 1 (some (.array .int)) :: ws) ({ frames := 2, cells := 1, slots := 4, locals := 54 } : Room)) (fun a U => a = #[(.ref o0)] ∧ Z.Warmed39 U.vm ∧ U.heap = h0) (fun _ _ _ _ _ => True) (fun _ U o U' => ∃ v L, o = .returned v ∧ (QF Z cnt g h0 n0) v U'.heap L ∧ FrameEnd U o U' L ({ frames := 2, cells := 1, slots := 4, locals := 54 } : Room).cells ({ frames := 2, cells := 1, slots := 4, locals := 54 } : Room).slots) := by
  refine MetFree.of_bodySF (plainFor_of_name pn_3) hisR ?_
  intro p e s m args below meth c s₁ Bd hml0 hP hK
  obtain ⟨rfl, hZ, hh⟩ := hP
  have hx := Bd.exec
  have hby := Bd.bytes
  have hlk : meth.locks = false := BodyLoose.notSynchronized Bd
  have hml : c.maxLocals = 1 := hml0
  have hown : s.vm.findClass "com/example/ucs_to_octets/ucstooctets/DecodedText" = some m.cls := findClass_of_methodNamed Bd.named
  have hnm := (name_of_methodNamed Bd.named Bd.method).1
  have X0 : Stand p l e ({ frames := 2, cells := 1, slots := 4, locals := 54 } : Room) s m #[(.ref o0)] below meth c s₁ ([] : List Loc) 0 0 := Stand.of_body Bd
  have e0 : s₁.heap = h0 := by rw [← hh, Bd.state]; rfl
  show Go p e below s 1 4 (QF Z cnt g h0 n0) s₁ (entryFrame m #[(.ref o0)] 1)
  rw [ef_3 m o0]
  have N0 := Fr.nil n0
  refine Go.step (g' := (mkF m 1 #[.val (.ref o0)] [(.ref o0)])) (fun _ k => XS.aloadN X0.here hx rfl (hb hby d3_0) rfl rfl  k) ?_
  obtain ⟨T1, X1, e1, st1⟩ := getF X0 hx hZ hown (host := "") (Or.inl (hw _ (List.mem_of_getElem? (i := 11) rfl))) Via.refl e0 Fc (g := (mkF m 1 #[.val (.ref o0)] [(.ref o0)])) rfl rfl (hb hby d3_1)
  refine Go.step (g' := (mkF m 4 #[.val (.ref o0)] [(.ref src)])) st1 ?_
  refine Go.step (g' := (mkF m 5 #[.val (.ref o0)] [(.ref o0), (.ref src)])) (fun _ k => XS.aloadN X1.here hx rfl (hb hby d3_4) rfl rfl  k) ?_
  obtain ⟨T2, X2, e2, st2⟩ := getF X1 hx hZ hown (host := "") (Or.inl (hw _ (List.mem_of_getElem? (i := 13) rfl))) Via.refl e1 Fn (g := (mkF m 5 #[.val (.ref o0)] [(.ref o0), (.ref src)])) rfl rfl (hb hby d3_5)
  refine Go.step (g' := (mkF m 8 #[.val (.ref o0)] [(.int cnt), (.ref src)])) st2 ?_
  obtain ⟨_, _, ⟨T4, L4, k4, n4⟩, -, X4, ⟨Lc4, hQ4, l4, y4, z4⟩, st4⟩ := Jvm.LawKit.callS X2 hx (y := (⟨"java/util/Arrays", "copyOf", "([II)[I"⟩ : MethodName)) hown (mvT hZ (hw _ (List.mem_of_getElem? (i := 22) rfl))) (mvT hZ (hw _ (List.mem_of_getElem? (i := 23) rfl))) (mvT hZ (hw _ (List.mem_of_getElem? (i := 24) rfl))) (mvT hZ (hw _ (List.mem_of_getElem? (i := 25) rfl))) (by decide) (backOf (W := 0) (rm4 l Z a0 hw [] src cnt g h0 n0 Z0 A_S E_S hp0 hp1) hZ (hw _ (List.mem_of_getElem? (i := 25) rfl)) (hw _ (List.mem_of_getElem? (i := 24) rfl)) (by decide) (by decide)) (g := (mkF m 8 #[.val (.ref o0)] [(.int cnt), (.ref src)])) rfl (by rw [hml]; rfl) (argsL := [(.ref src), (.int cnt)]) (rest := []) (lenOf pd_1 rfl) rfl (by show 2 * 0 + _ ≤ _; exact Nat.le_of_eq rfl) (hb hby d3_8) (fun _ _ => ⟨rfl, e2, (by decide : 0 + 1 ≤ _), (by decide : 0 + 4 ≤ _)⟩)
  dsimp only [Pt.U, Pt.locs, Pt.cells, Pt.slots] at X4 l4 y4 z4 st4 hQ4
  subst l4 y4 z4
  obtain ⟨b4, rfl, szq4, N4q, K4, V4⟩ := hQ4
  have ne_o0_b4 : o0 ≠ b4 := Nat.ne_of_lt (Nat.lt_of_lt_of_le Fc.lt szq4)
  have ne_src_b4 : src ≠ b4 := Nat.ne_of_lt (Nat.lt_of_lt_of_le E_S.lt szq4)
  have g_b4 : n0 ≤ b4 := Nat.le_trans Z0 szq4
  have sz_b4 : h0.size ≤ b4 := Nat.le_trans (Keep.refl h0 []).1 szq4
  obtain ⟨lc4, X4, N4⟩ := own_pack X4 (Fr.app N0 N4q)
  refine Go.step (g' := (mkF m 11 #[.val (.ref o0)] [(.ref b4)])) st4 ?_
  exact Go.retW X4 hx hlk (t := (.array .int)) Bd.returns rfl (Or.inr (Or.inr (Or.inr (Or.inr ⟨rfl, rfl, rfl⟩)))) (hb hby d3_11) (by decide) (by decide) (by exact ⟨b4, rfl, sz_b4, N4, ((Keep.refl h0 []).trans K4 all0), V4⟩)
theorem d6_0 : decode method_3_code 0 = .ok (.iload_n 1, 1) := by decide +kernel
theorem d6_1 : decode method_3_code 1 = .ok (.ifCond .le 12, 3) := by decide +kernel
theorem d6_4 : decode method_3_code 4 = .ok (.aload_n 0, 1) := by decide +kernel
theorem d6_5 : decode method_3_code 5 = .ok (.iconst 0, 1) := by decide +kernel
theorem d6_6 : decode method_3_code 6 = .ok (.iaload, 1) := by decide +kernel
theorem d6_7 : decode method_3_code 7 = .ok (.iload_n 2, 1) := by decide +kernel
theorem d6_8 : decode method_3_code 8 = .ok (.if_icmp .eq 5, 3) := by decide +kernel
theorem d6_11 : decode method_3_code 11 = .ok (.iconst 0, 1) := by decide +kernel
theorem d6_12 : decode method_3_code 12 = .ok (.ireturn, 1) := by decide +kernel
theorem d6_13 : decode method_3_code 13 = .ok (.iload_n 1, 1) := by decide +kernel
theorem d6_14 : decode method_3_code 14 = .ok (.iconst 1, 1) := by decide +kernel
theorem d6_15 : decode method_3_code 15 = .ok (.if_icmp .le 12, 3) := by decide +kernel
theorem d6_18 : decode method_3_code 18 = .ok (.aload_n 0, 1) := by decide +kernel
theorem d6_19 : decode method_3_code 19 = .ok (.iconst 1, 1) := by decide +kernel
theorem d6_20 : decode method_3_code 20 = .ok (.iaload, 1) := by decide +kernel
theorem d6_21 : decode method_3_code 21 = .ok (.iload_n 3, 1) := by decide +kernel
theorem d6_22 : decode method_3_code 22 = .ok (.if_icmp .eq 5, 3) := by decide +kernel
theorem d6_25 : decode method_3_code 25 = .ok (.iconst 0, 1) := by decide +kernel
theorem d6_26 : decode method_3_code 26 = .ok (.ireturn, 1) := by decide +kernel
theorem d6_27 : decode method_3_code 27 = .ok (.iload_n 1, 1) := by decide +kernel
theorem d6_28 : decode method_3_code 28 = .ok (.iconst 2, 1) := by decide +kernel
theorem d6_29 : decode method_3_code 29 = .ok (.if_icmp .le 13, 3) := by decide +kernel
theorem d6_32 : decode method_3_code 32 = .ok (.aload_n 0, 1) := by decide +kernel
theorem d6_33 : decode method_3_code 33 = .ok (.iconst 2, 1) := by decide +kernel
theorem d6_34 : decode method_3_code 34 = .ok (.iaload, 1) := by decide +kernel
theorem d6_35 : decode method_3_code 35 = .ok (.iload 4, 2) := by decide +kernel
theorem d6_37 : decode method_3_code 37 = .ok (.if_icmp .eq 5, 3) := by decide +kernel
theorem d6_40 : decode method_3_code 40 = .ok (.iconst 0, 1) := by decide +kernel
theorem d6_41 : decode method_3_code 41 = .ok (.ireturn, 1) := by decide +kernel
theorem d6_42 : decode method_3_code 42 = .ok (.iload_n 1, 1) := by decide +kernel
theorem d6_43 : decode method_3_code 43 = .ok (.iconst 3, 1) := by decide +kernel
theorem d6_44 : decode method_3_code 44 = .ok (.if_icmp .le 13, 3) := by decide +kernel
theorem d6_47 : decode method_3_code 47 = .ok (.aload_n 0, 1) := by decide +kernel
theorem d6_48 : decode method_3_code 48 = .ok (.iconst 3, 1) := by decide +kernel
theorem d6_49 : decode method_3_code 49 = .ok (.iaload, 1) := by decide +kernel
theorem d6_50 : decode method_3_code 50 = .ok (.iload 5, 2) := by decide +kernel
theorem d6_52 : decode method_3_code 52 = .ok (.if_icmp .eq 5, 3) := by decide +kernel
theorem d6_55 : decode method_3_code 55 = .ok (.iconst 0, 1) := by decide +kernel
theorem d6_56 : decode method_3_code 56 = .ok (.ireturn, 1) := by decide +kernel
theorem d6_57 : decode method_3_code 57 = .ok (.iconst 1, 1) := by decide +kernel
theorem d6_58 : decode method_3_code 58 = .ok (.ireturn, 1) := by decide +kernel
theorem pn_6 : plainName "com/example/ucs_to_octets/ucstooctets/DecodedTextCodePointsPinLaw" = true := by first | (simp [plainName, overriddenIn]; done) | decide +kernel
theorem ef_6 (m : MethodId) (o0 : Addr) (p1 : Int32) (p2 : Int32) (p3 : Int32) (p4 : Int32) (p5 : Int32) : entryFrame m #[(.ref o0), (.int p1), (.int p2), (.int p3), (.int p4), (.int p5)] 6 = mkF m 0 #[.val (.ref o0), .val (.int p1), .val (.int p2), .val (.int p3), .val (.int p4), .val (.int p5)] [] := by first | (simp [entryFrame, mkF, argsToLocals, Value.category]; done) | rfl
def f6_57 : Int32 := (nar .boolean (1 : Int32))
def f6_55 : Int32 := (nar .boolean (0 : Int32))
def f6_47 (p5 : Int32) (g : Nat → Int32) : Int32 := if (g (3 : Int32).toNatClampNeg) = p5 then f6_57 else f6_55
def f6_42 (p1 : Int32) (p5 : Int32) (g : Nat → Int32) : Int32 := if (3 : Int32) < p1 then (f6_47 p5 g) else f6_57
def f6_40 : Int32 := (nar .boolean (0 : Int32))
def f6_32 (p1 : Int32) (p4 : Int32) (p5 : Int32) (g : Nat → Int32) : Int32 := if (g (2 : Int32).toNatClampNeg) = p4 then (f6_42 p1 p5 g) else f6_40
def f6_27 (p1 : Int32) (p4 : Int32) (p5 : Int32) (g : Nat → Int32) : Int32 := if (2 : Int32) < p1 then (f6_32 p1 p4 p5 g) else (f6_42 p1 p5 g)
def f6_25 : Int32 := (nar .boolean (0 : Int32))
def f6_18 (p1 : Int32) (p3 : Int32) (p4 : Int32) (p5 : Int32) (g : Nat → Int32) : Int32 := if (g (1 : Int32).toNatClampNeg) = p3 then (f6_27 p1 p4 p5 g) else f6_25
def f6_13 (p1 : Int32) (p3 : Int32) (p4 : Int32) (p5 : Int32) (g : Nat → Int32) : Int32 := if (1 : Int32) < p1 then (f6_18 p1 p3 p4 p5 g) else (f6_27 p1 p4 p5 g)
def f6_11 : Int32 := (nar .boolean (0 : Int32))
def f6_4 (p1 : Int32) (p2 : Int32) (p3 : Int32) (p4 : Int32) (p5 : Int32) (g : Nat → Int32) : Int32 := if (g (0 : Int32).toNatClampNeg) = p2 then (f6_13 p1 p3 p4 p5 g) else f6_11
def f6_0 (p1 : Int32) (p2 : Int32) (p3 : Int32) (p4 : Int32) (p5 : Int32) (g : Nat → Int32) : Int32 := if (0 : Int32) < p1 then (f6_4 p1 p2 p3 p4 p5 g) else (f6_13 p1 p3 p4 p5 g)
set_option maxRecDepth 65536 in
set_option maxHeartbeats 40000000 in
theorem rm6 (l : Launch) (Z : State) (a0 : Array Value) (hw : ∀ d ∈ tables_1, d.before a0 Z = true) (ws : List Jvm.Cond) (o0 : Addr) (p1 : Int32) (p2 : Int32) (p3 : Int32) (p4 : Int32) (p5 : Int32) (g : Nat → Int32) (h0 : Heap) (A_T : IA Z h0 o0 .int p1.toNatClampNeg (fun k => .int (g k))) :
    MetFree l (⟨"com/example/ucs_to_octets/ucstooctets/DecodedTextCodePointsPinLaw", "prefixOk", "([IIIIII)Z"⟩ : MethodName) (head1 (Jvm.Cond.code (⟨"com/example/ucs_to_octets/ucstooctets/DecodedTextCodePointsPinLaw", "prefixOk", "([IIIIII)Z"⟩ : MethodName) method_3_code 6 (some .boolean) :: ws) ({ frames := 0, cells := 0, slots := 0, locals := 0 } : Room)) (fun a U => a = #[(.ref o0), (.int p1), (.int p2), (.int p3), (.int p4), (.int p5)] ∧ Z.Warmed39 U.vm ∧ U.heap = h0) (fun _ _ _ _ _ => True) (fun _ U o U' => ∃ v L, o = .returned v ∧ (PureQ (.int (f6_0 p1 p2 p3 p4 p5 g)) h0) v U'.heap L ∧ FrameEnd U o U' L ({ frames := 0, cells := 0, slots := 0, locals := 0 } : Room).cells ({ frames := 0, cells := 0, slots := 0, locals := 0 } : Room).slots) := by
  refine MetFree.of_bodySF (plainFor_of_name pn_6) hisR ?_
  intro p e s m args below meth c s₁ Bd hml0 hP hK
  obtain ⟨rfl, hZ, hh⟩ := hP
  have hx := Bd.exec
  have hby := Bd.bytes
  have hlk : meth.locks = false := BodyLoose.notSynchronized Bd
  have hml : c.maxLocals = 6 := hml0
  have hown : s.vm.findClass "com/example/ucs_to_octets/ucstooctets/DecodedTextCodePointsPinLaw" = some m.cls := findClass_of_methodNamed Bd.named
  have hnm := (name_of_methodNamed Bd.named Bd.method).1
  have X0 : Stand p l e ({ frames := 0, cells := 0, slots := 0, locals := 0 } : Room) s m #[(.ref o0), (.int p1), (.int p2), (.int p3), (.int p4), (.int p5)] below meth c s₁ ([] : List Loc) 0 0 := Stand.of_body Bd
  have e0 : s₁.heap = h0 := by rw [← hh, Bd.state]; rfl
  show Go p e below s 0 0 (PureQ (.int (f6_0 p1 p2 p3 p4 p5 g)) h0) s₁ (entryFrame m #[(.ref o0), (.int p1), (.int p2), (.int p3), (.int p4), (.int p5)] 6)
  rw [ef_6 m o0 p1 p2 p3 p4 p5]
  refine Go.step (g' := (mkF m 1 #[.val (.ref o0), .val (.int p1), .val (.int p2), .val (.int p3), .val (.int p4), .val (.int p5)] [(.int p1)])) (fun _ k => XS.iloadN X0.here hx rfl (hb hby d6_0) rfl  k) ?_
  have t13 : Go p e below s 0 0 (PureQ (.int (f6_13 p1 p3 p4 p5 g)) h0) s₁ (mkF m 13 #[.val (.ref o0), .val (.int p1), .val (.int p2), .val (.int p3), .val (.int p4), .val (.int p5)] []) := by
    refine Go.step (g' := (mkF m 14 #[.val (.ref o0), .val (.int p1), .val (.int p2), .val (.int p3), .val (.int p4), .val (.int p5)] [(.int p1)])) (fun _ k => XS.iloadN X0.here hx rfl (hb hby d6_13) rfl  k) ?_
    refine Go.step (g' := (mkF m 15 #[.val (.ref o0), .val (.int p1), .val (.int p2), .val (.int p3), .val (.int p4), .val (.int p5)] [(.int (1 : Int32)), (.int p1)])) (fun _ k => XS.iconst X0.here hx rfl (hb hby d6_14) k) ?_
    have t27 : Go p e below s 0 0 (PureQ (.int (f6_27 p1 p4 p5 g)) h0) s₁ (mkF m 27 #[.val (.ref o0), .val (.int p1), .val (.int p2), .val (.int p3), .val (.int p4), .val (.int p5)] []) := by
      refine Go.step (g' := (mkF m 28 #[.val (.ref o0), .val (.int p1), .val (.int p2), .val (.int p3), .val (.int p4), .val (.int p5)] [(.int p1)])) (fun _ k => XS.iloadN X0.here hx rfl (hb hby d6_27) rfl  k) ?_
      refine Go.step (g' := (mkF m 29 #[.val (.ref o0), .val (.int p1), .val (.int p2), .val (.int p3), .val (.int p4), .val (.int p5)] [(.int (2 : Int32)), (.int p1)])) (fun _ k => XS.iconst X0.here hx rfl (hb hby d6_28) k) ?_
      have t42 : Go p e below s 0 0 (PureQ (.int (f6_42 p1 p5 g)) h0) s₁ (mkF m 42 #[.val (.ref o0), .val (.int p1), .val (.int p2), .val (.int p3), .val (.int p4), .val (.int p5)] []) := by
        refine Go.step (g' := (mkF m 43 #[.val (.ref o0), .val (.int p1), .val (.int p2), .val (.int p3), .val (.int p4), .val (.int p5)] [(.int p1)])) (fun _ k => XS.iloadN X0.here hx rfl (hb hby d6_42) rfl  k) ?_
        refine Go.step (g' := (mkF m 44 #[.val (.ref o0), .val (.int p1), .val (.int p2), .val (.int p3), .val (.int p4), .val (.int p5)] [(.int (3 : Int32)), (.int p1)])) (fun _ k => XS.iconst X0.here hx rfl (hb hby d6_43) k) ?_
        have t57 : Go p e below s 0 0 (PureQ (.int f6_57) h0) s₁ (mkF m 57 #[.val (.ref o0), .val (.int p1), .val (.int p2), .val (.int p3), .val (.int p4), .val (.int p5)] []) := by
          refine Go.step (g' := (mkF m 58 #[.val (.ref o0), .val (.int p1), .val (.int p2), .val (.int p3), .val (.int p4), .val (.int p5)] [(.int (1 : Int32))])) (fun _ k => XS.iconst X0.here hx rfl (hb hby d6_57) k) ?_
          exact Go.retN X0 hx hlk (t := .boolean) Bd.returns (by simp) (hb hby d6_58) (by decide) (by decide) ⟨rfl, rfl, e0⟩
        by_cases hc44 : (3 : Int32) < p1
        · rw [show (f6_42 p1 p5 g) = (f6_47 p5 g) from if_pos hc44]
          refine Go.step (g' := (mkF m 47 #[.val (.ref o0), .val (.int p1), .val (.int p2), .val (.int p3), .val (.int p4), .val (.int p5)] [])) (fun _ k => XS.icmpNo X0.here hx rfl (hb hby d6_44) rfl (tlt hc44).2.2.2 k) ?_
          refine Go.step (g' := (mkF m 48 #[.val (.ref o0), .val (.int p1), .val (.int p2), .val (.int p3), .val (.int p4), .val (.int p5)] [(.ref o0)])) (fun _ k => XS.aloadN X0.here hx rfl (hb hby d6_47) rfl rfl  k) ?_
          refine Go.step (g' := (mkF m 49 #[.val (.ref o0), .val (.int p1), .val (.int p2), .val (.int p3), .val (.int p4), .val (.int p5)] [(.int (3 : Int32)), (.ref o0)])) (fun _ k => XS.iconst X0.here hx rfl (hb hby d6_48) k) ?_
          refine Go.step (g' := (mkF m 50 #[.val (.ref o0), .val (.int p1), .val (.int p2), .val (.int p3), .val (.int p4), .val (.int p5)] [(.int (g (3 : Int32).toNatClampNeg))])) (fun _ k => getAI X0 hx hZ e0 A_T (j := (3 : Int32)) (own_ib (by decide) hc44) (gf := (mkF m 49 #[.val (.ref o0), .val (.int p1), .val (.int p2), .val (.int p3), .val (.int p4), .val (.int p5)] [(.int (3 : Int32)), (.ref o0)])) rfl rfl (hb hby d6_49) k) ?_
          refine Go.step (g' := (mkF m 52 #[.val (.ref o0), .val (.int p1), .val (.int p2), .val (.int p3), .val (.int p4), .val (.int p5)] [(.int p5), (.int (g (3 : Int32).toNatClampNeg))])) (fun _ k => XS.iload X0.here hx rfl (hb hby d6_50) rfl  k) ?_
          by_cases hc52 : (g (3 : Int32).toNatClampNeg) = p5
          · rw [show (f6_47 p5 g) = f6_57 from if_pos hc52]
            refine Go.step (g' := (mkF m 57 #[.val (.ref o0), .val (.int p1), .val (.int p2), .val (.int p3), .val (.int p4), .val (.int p5)] [])) (fun _ k => XS.icmpYes X0.here hx rfl (pc0 := 52) (pc' := 57) rfl (hb hby d6_52) rfl (teq hc52).1 (by decide) (by decide) k) ?_
            exact t57 
          · rw [show (f6_47 p5 g) = f6_55 from if_neg hc52]
            refine Go.step (g' := (mkF m 55 #[.val (.ref o0), .val (.int p1), .val (.int p2), .val (.int p3), .val (.int p4), .val (.int p5)] [])) (fun _ k => XS.icmpNo X0.here hx rfl (hb hby d6_52) rfl (feq hc52).1 k) ?_
            refine Go.step (g' := (mkF m 56 #[.val (.ref o0), .val (.int p1), .val (.int p2), .val (.int p3), .val (.int p4), .val (.int p5)] [(.int (0 : Int32))])) (fun _ k => XS.iconst X0.here hx rfl (hb hby d6_55) k) ?_
            exact Go.retN X0 hx hlk (t := .boolean) Bd.returns (by simp) (hb hby d6_56) (by decide) (by decide) ⟨rfl, rfl, e0⟩
        · rw [show (f6_42 p1 p5 g) = f6_57 from if_neg hc44]
          refine Go.step (g' := (mkF m 57 #[.val (.ref o0), .val (.int p1), .val (.int p2), .val (.int p3), .val (.int p4), .val (.int p5)] [])) (fun _ k => XS.icmpYes X0.here hx rfl (pc0 := 44) (pc' := 57) rfl (hb hby d6_44) rfl (flt hc44).2.2.2 (by decide) (by decide) k) ?_
          exact t57 
      by_cases hc29 : (2 : Int32) < p1
      · rw [show (f6_27 p1 p4 p5 g) = (f6_32 p1 p4 p5 g) from if_pos hc29]
        refine Go.step (g' := (mkF m 32 #[.val (.ref o0), .val (.int p1), .val (.int p2), .val (.int p3), .val (.int p4), .val (.int p5)] [])) (fun _ k => XS.icmpNo X0.here hx rfl (hb hby d6_29) rfl (tlt hc29).2.2.2 k) ?_
        refine Go.step (g' := (mkF m 33 #[.val (.ref o0), .val (.int p1), .val (.int p2), .val (.int p3), .val (.int p4), .val (.int p5)] [(.ref o0)])) (fun _ k => XS.aloadN X0.here hx rfl (hb hby d6_32) rfl rfl  k) ?_
        refine Go.step (g' := (mkF m 34 #[.val (.ref o0), .val (.int p1), .val (.int p2), .val (.int p3), .val (.int p4), .val (.int p5)] [(.int (2 : Int32)), (.ref o0)])) (fun _ k => XS.iconst X0.here hx rfl (hb hby d6_33) k) ?_
        refine Go.step (g' := (mkF m 35 #[.val (.ref o0), .val (.int p1), .val (.int p2), .val (.int p3), .val (.int p4), .val (.int p5)] [(.int (g (2 : Int32).toNatClampNeg))])) (fun _ k => getAI X0 hx hZ e0 A_T (j := (2 : Int32)) (own_ib (by decide) hc29) (gf := (mkF m 34 #[.val (.ref o0), .val (.int p1), .val (.int p2), .val (.int p3), .val (.int p4), .val (.int p5)] [(.int (2 : Int32)), (.ref o0)])) rfl rfl (hb hby d6_34) k) ?_
        refine Go.step (g' := (mkF m 37 #[.val (.ref o0), .val (.int p1), .val (.int p2), .val (.int p3), .val (.int p4), .val (.int p5)] [(.int p4), (.int (g (2 : Int32).toNatClampNeg))])) (fun _ k => XS.iload X0.here hx rfl (hb hby d6_35) rfl  k) ?_
        by_cases hc37 : (g (2 : Int32).toNatClampNeg) = p4
        · rw [show (f6_32 p1 p4 p5 g) = (f6_42 p1 p5 g) from if_pos hc37]
          refine Go.step (g' := (mkF m 42 #[.val (.ref o0), .val (.int p1), .val (.int p2), .val (.int p3), .val (.int p4), .val (.int p5)] [])) (fun _ k => XS.icmpYes X0.here hx rfl (pc0 := 37) (pc' := 42) rfl (hb hby d6_37) rfl (teq hc37).1 (by decide) (by decide) k) ?_
          exact t42 
        · rw [show (f6_32 p1 p4 p5 g) = f6_40 from if_neg hc37]
          refine Go.step (g' := (mkF m 40 #[.val (.ref o0), .val (.int p1), .val (.int p2), .val (.int p3), .val (.int p4), .val (.int p5)] [])) (fun _ k => XS.icmpNo X0.here hx rfl (hb hby d6_37) rfl (feq hc37).1 k) ?_
          refine Go.step (g' := (mkF m 41 #[.val (.ref o0), .val (.int p1), .val (.int p2), .val (.int p3), .val (.int p4), .val (.int p5)] [(.int (0 : Int32))])) (fun _ k => XS.iconst X0.here hx rfl (hb hby d6_40) k) ?_
          exact Go.retN X0 hx hlk (t := .boolean) Bd.returns (by simp) (hb hby d6_41) (by decide) (by decide) ⟨rfl, rfl, e0⟩
      · rw [show (f6_27 p1 p4 p5 g) = (f6_42 p1 p5 g) from if_neg hc29]
        refine Go.step (g' := (mkF m 42 #[.val (.ref o0), .val (.int p1), .val (.int p2), .val (.int p3), .val (.int p4), .val (.int p5)] [])) (fun _ k => XS.icmpYes X0.here hx rfl (pc0 := 29) (pc' := 42) rfl (hb hby d6_29) rfl (flt hc29).2.2.2 (by decide) (by decide) k) ?_
        exact t42 
    by_cases hc15 : (1 : Int32) < p1
    · rw [show (f6_13 p1 p3 p4 p5 g) = (f6_18 p1 p3 p4 p5 g) from if_pos hc15]
      refine Go.step (g' := (mkF m 18 #[.val (.ref o0), .val (.int p1), .val (.int p2), .val (.int p3), .val (.int p4), .val (.int p5)] [])) (fun _ k => XS.icmpNo X0.here hx rfl (hb hby d6_15) rfl (tlt hc15).2.2.2 k) ?_
      refine Go.step (g' := (mkF m 19 #[.val (.ref o0), .val (.int p1), .val (.int p2), .val (.int p3), .val (.int p4), .val (.int p5)] [(.ref o0)])) (fun _ k => XS.aloadN X0.here hx rfl (hb hby d6_18) rfl rfl  k) ?_
      refine Go.step (g' := (mkF m 20 #[.val (.ref o0), .val (.int p1), .val (.int p2), .val (.int p3), .val (.int p4), .val (.int p5)] [(.int (1 : Int32)), (.ref o0)])) (fun _ k => XS.iconst X0.here hx rfl (hb hby d6_19) k) ?_
      refine Go.step (g' := (mkF m 21 #[.val (.ref o0), .val (.int p1), .val (.int p2), .val (.int p3), .val (.int p4), .val (.int p5)] [(.int (g (1 : Int32).toNatClampNeg))])) (fun _ k => getAI X0 hx hZ e0 A_T (j := (1 : Int32)) (own_ib (by decide) hc15) (gf := (mkF m 20 #[.val (.ref o0), .val (.int p1), .val (.int p2), .val (.int p3), .val (.int p4), .val (.int p5)] [(.int (1 : Int32)), (.ref o0)])) rfl rfl (hb hby d6_20) k) ?_
      refine Go.step (g' := (mkF m 22 #[.val (.ref o0), .val (.int p1), .val (.int p2), .val (.int p3), .val (.int p4), .val (.int p5)] [(.int p3), (.int (g (1 : Int32).toNatClampNeg))])) (fun _ k => XS.iloadN X0.here hx rfl (hb hby d6_21) rfl  k) ?_
      by_cases hc22 : (g (1 : Int32).toNatClampNeg) = p3
      · rw [show (f6_18 p1 p3 p4 p5 g) = (f6_27 p1 p4 p5 g) from if_pos hc22]
        refine Go.step (g' := (mkF m 27 #[.val (.ref o0), .val (.int p1), .val (.int p2), .val (.int p3), .val (.int p4), .val (.int p5)] [])) (fun _ k => XS.icmpYes X0.here hx rfl (pc0 := 22) (pc' := 27) rfl (hb hby d6_22) rfl (teq hc22).1 (by decide) (by decide) k) ?_
        exact t27 
      · rw [show (f6_18 p1 p3 p4 p5 g) = f6_25 from if_neg hc22]
        refine Go.step (g' := (mkF m 25 #[.val (.ref o0), .val (.int p1), .val (.int p2), .val (.int p3), .val (.int p4), .val (.int p5)] [])) (fun _ k => XS.icmpNo X0.here hx rfl (hb hby d6_22) rfl (feq hc22).1 k) ?_
        refine Go.step (g' := (mkF m 26 #[.val (.ref o0), .val (.int p1), .val (.int p2), .val (.int p3), .val (.int p4), .val (.int p5)] [(.int (0 : Int32))])) (fun _ k => XS.iconst X0.here hx rfl (hb hby d6_25) k) ?_
        exact Go.retN X0 hx hlk (t := .boolean) Bd.returns (by simp) (hb hby d6_26) (by decide) (by decide) ⟨rfl, rfl, e0⟩
    · rw [show (f6_13 p1 p3 p4 p5 g) = (f6_27 p1 p4 p5 g) from if_neg hc15]
      refine Go.step (g' := (mkF m 27 #[.val (.ref o0), .val (.int p1), .val (.int p2), .val (.int p3), .val (.int p4), .val (.int p5)] [])) (fun _ k => XS.icmpYes X0.here hx rfl (pc0 := 15) (pc' := 27) rfl (hb hby d6_15) rfl (flt hc15).2.2.2 (by decide) (by decide) k) ?_
      exact t27 
  by_cases hc1 : (0 : Int32) < p1
  · rw [show (f6_0 p1 p2 p3 p4 p5 g) = (f6_4 p1 p2 p3 p4 p5 g) from if_pos hc1]
    refine Go.step (g' := (mkF m 4 #[.val (.ref o0), .val (.int p1), .val (.int p2), .val (.int p3), .val (.int p4), .val (.int p5)] [])) (fun _ k => XS.ifNo X0.here hx rfl (hb hby d6_1) rfl ((if0 _ _).trans (tlt hc1).2.2.2) k) ?_
    refine Go.step (g' := (mkF m 5 #[.val (.ref o0), .val (.int p1), .val (.int p2), .val (.int p3), .val (.int p4), .val (.int p5)] [(.ref o0)])) (fun _ k => XS.aloadN X0.here hx rfl (hb hby d6_4) rfl rfl  k) ?_
    refine Go.step (g' := (mkF m 6 #[.val (.ref o0), .val (.int p1), .val (.int p2), .val (.int p3), .val (.int p4), .val (.int p5)] [(.int (0 : Int32)), (.ref o0)])) (fun _ k => XS.iconst X0.here hx rfl (hb hby d6_5) k) ?_
    refine Go.step (g' := (mkF m 7 #[.val (.ref o0), .val (.int p1), .val (.int p2), .val (.int p3), .val (.int p4), .val (.int p5)] [(.int (g (0 : Int32).toNatClampNeg))])) (fun _ k => getAI X0 hx hZ e0 A_T (j := (0 : Int32)) (own_ib (by decide) hc1) (gf := (mkF m 6 #[.val (.ref o0), .val (.int p1), .val (.int p2), .val (.int p3), .val (.int p4), .val (.int p5)] [(.int (0 : Int32)), (.ref o0)])) rfl rfl (hb hby d6_6) k) ?_
    refine Go.step (g' := (mkF m 8 #[.val (.ref o0), .val (.int p1), .val (.int p2), .val (.int p3), .val (.int p4), .val (.int p5)] [(.int p2), (.int (g (0 : Int32).toNatClampNeg))])) (fun _ k => XS.iloadN X0.here hx rfl (hb hby d6_7) rfl  k) ?_
    by_cases hc8 : (g (0 : Int32).toNatClampNeg) = p2
    · rw [show (f6_4 p1 p2 p3 p4 p5 g) = (f6_13 p1 p3 p4 p5 g) from if_pos hc8]
      refine Go.step (g' := (mkF m 13 #[.val (.ref o0), .val (.int p1), .val (.int p2), .val (.int p3), .val (.int p4), .val (.int p5)] [])) (fun _ k => XS.icmpYes X0.here hx rfl (pc0 := 8) (pc' := 13) rfl (hb hby d6_8) rfl (teq hc8).1 (by decide) (by decide) k) ?_
      exact t13 
    · rw [show (f6_4 p1 p2 p3 p4 p5 g) = f6_11 from if_neg hc8]
      refine Go.step (g' := (mkF m 11 #[.val (.ref o0), .val (.int p1), .val (.int p2), .val (.int p3), .val (.int p4), .val (.int p5)] [])) (fun _ k => XS.icmpNo X0.here hx rfl (hb hby d6_8) rfl (feq hc8).1 k) ?_
      refine Go.step (g' := (mkF m 12 #[.val (.ref o0), .val (.int p1), .val (.int p2), .val (.int p3), .val (.int p4), .val (.int p5)] [(.int (0 : Int32))])) (fun _ k => XS.iconst X0.here hx rfl (hb hby d6_11) k) ?_
      exact Go.retN X0 hx hlk (t := .boolean) Bd.returns (by simp) (hb hby d6_12) (by decide) (by decide) ⟨rfl, rfl, e0⟩
  · rw [show (f6_0 p1 p2 p3 p4 p5 g) = (f6_13 p1 p3 p4 p5 g) from if_neg hc1]
    refine Go.step (g' := (mkF m 13 #[.val (.ref o0), .val (.int p1), .val (.int p2), .val (.int p3), .val (.int p4), .val (.int p5)] [])) (fun _ k => XS.ifYes X0.here hx rfl (pc0 := 1) (pc' := 13) rfl (hb hby d6_1) rfl ((if0 _ _).trans (flt hc1).2.2.2) (by decide) (by decide) k) ?_
    exact t13 
theorem pn_0 : plainName "com/example/ucs_to_octets/ucstooctets/DecodedTextCodePointsPinLaw" = true := by first | (simp [plainName, overriddenIn]; done) | decide +kernel
theorem ef_0 (m : MethodId) (p0 : Int32) (p1 : Int32) (p2 : Int32) (p3 : Int32) (p4 : Int32) (q5 : Int64) : entryFrame m #[(.int p0), (.int p1), (.int p2), (.int p3), (.int p4), (.long q5)] maxLocals = mkF m 0 #[.val (.int p0), .val (.int p1), .val (.int p2), .val (.int p3), .val (.int p4), .val (.long q5), .second, .unset, .unset, .unset, .unset, .unset] [] := by first | (simp [entryFrame, mkF, argsToLocals, Value.category, maxLocals]; done) | rfl
def f0_191d126d142 (p0 : Int32) (p1 : Int32) (p2 : Int32) (p3 : Int32) (cnt : Int32) : Int32 := (nar .boolean (f6_0 cnt p0 p1 p2 p3 (upd (upd (upd (upd (fun _ => (0 : Int32)) (0 : Int32).toNatClampNeg p0) (1 : Int32).toNatClampNeg p1) (2 : Int32).toNatClampNeg p2) (3 : Int32).toNatClampNeg p3)))
def f0_181d126d142 (p0 : Int32) (p1 : Int32) (p2 : Int32) (p3 : Int32) (cnt : Int32) : Int32 := (f0_191d126d142 p0 p1 p2 p3 cnt)
def f0_174d126d142 (p0 : Int32) (p1 : Int32) (p2 : Int32) (p3 : Int32) (cnt : Int32) : Int32 := (f0_181d126d142 p0 p1 p2 p3 cnt)
def f0_167d126d142 (p0 : Int32) (p1 : Int32) (p2 : Int32) (p3 : Int32) (cnt : Int32) : Int32 := (f0_174d126d142 p0 p1 p2 p3 cnt)
def f0_155d126d142 (p0 : Int32) (p1 : Int32) (p2 : Int32) (p3 : Int32) (cnt : Int32) : Int32 := (f0_167d126d142 p0 p1 p2 p3 cnt)
def f0_191d126d154 (p0 : Int32) (p1 : Int32) (p2 : Int32) (p3 : Int32) (cnt : Int32) : Int32 := (nar .boolean (f6_0 cnt p0 p1 p2 p3 (upd (upd (upd (upd (fun _ => (0 : Int32)) (0 : Int32).toNatClampNeg p0) (1 : Int32).toNatClampNeg p1) (2 : Int32).toNatClampNeg p2) (3 : Int32).toNatClampNeg p3)))
def f0_181d126d154 (p0 : Int32) (p1 : Int32) (p2 : Int32) (p3 : Int32) (cnt : Int32) : Int32 := (f0_191d126d154 p0 p1 p2 p3 cnt)
def f0_174d126d154 (p0 : Int32) (p1 : Int32) (p2 : Int32) (p3 : Int32) (cnt : Int32) : Int32 := (f0_181d126d154 p0 p1 p2 p3 cnt)
def f0_167d126d154 (p0 : Int32) (p1 : Int32) (p2 : Int32) (p3 : Int32) (cnt : Int32) : Int32 := (f0_174d126d154 p0 p1 p2 p3 cnt)
def f0_155d126d154 (p0 : Int32) (p1 : Int32) (p2 : Int32) (p3 : Int32) (cnt : Int32) : Int32 := (f0_167d126d154 p0 p1 p2 p3 cnt)
def f0_145d126 (p0 : Int32) (p1 : Int32) (p2 : Int32) (p3 : Int32) (cnt : Int32) : Int32 := (f0_155d126d154 p0 p1 p2 p3 cnt)
def f0_139d126 (p0 : Int32) (p1 : Int32) (p2 : Int32) (p3 : Int32) (cnt : Int32) : Int32 := if (3 : Int32) < cnt then (f0_145d126 p0 p1 p2 p3 cnt) else (f0_155d126d142 p0 p1 p2 p3 cnt)
def f0_191d138d142 (p0 : Int32) (p1 : Int32) (p2 : Int32) (p3 : Int32) (cnt : Int32) : Int32 := (nar .boolean (f6_0 cnt p0 p1 p2 p3 (upd (upd (upd (upd (fun _ => (0 : Int32)) (0 : Int32).toNatClampNeg p0) (1 : Int32).toNatClampNeg p1) (2 : Int32).toNatClampNeg p2) (3 : Int32).toNatClampNeg p3)))
def f0_181d138d142 (p0 : Int32) (p1 : Int32) (p2 : Int32) (p3 : Int32) (cnt : Int32) : Int32 := (f0_191d138d142 p0 p1 p2 p3 cnt)
def f0_174d138d142 (p0 : Int32) (p1 : Int32) (p2 : Int32) (p3 : Int32) (cnt : Int32) : Int32 := (f0_181d138d142 p0 p1 p2 p3 cnt)
def f0_167d138d142 (p0 : Int32) (p1 : Int32) (p2 : Int32) (p3 : Int32) (cnt : Int32) : Int32 := (f0_174d138d142 p0 p1 p2 p3 cnt)
def f0_155d138d142 (p0 : Int32) (p1 : Int32) (p2 : Int32) (p3 : Int32) (cnt : Int32) : Int32 := (f0_167d138d142 p0 p1 p2 p3 cnt)
def f0_191d138d154 (p0 : Int32) (p1 : Int32) (p2 : Int32) (p3 : Int32) (cnt : Int32) : Int32 := (nar .boolean (f6_0 cnt p0 p1 p2 p3 (upd (upd (upd (upd (fun _ => (0 : Int32)) (0 : Int32).toNatClampNeg p0) (1 : Int32).toNatClampNeg p1) (2 : Int32).toNatClampNeg p2) (3 : Int32).toNatClampNeg p3)))
def f0_181d138d154 (p0 : Int32) (p1 : Int32) (p2 : Int32) (p3 : Int32) (cnt : Int32) : Int32 := (f0_191d138d154 p0 p1 p2 p3 cnt)
def f0_174d138d154 (p0 : Int32) (p1 : Int32) (p2 : Int32) (p3 : Int32) (cnt : Int32) : Int32 := (f0_181d138d154 p0 p1 p2 p3 cnt)
def f0_167d138d154 (p0 : Int32) (p1 : Int32) (p2 : Int32) (p3 : Int32) (cnt : Int32) : Int32 := (f0_174d138d154 p0 p1 p2 p3 cnt)
def f0_155d138d154 (p0 : Int32) (p1 : Int32) (p2 : Int32) (p3 : Int32) (cnt : Int32) : Int32 := (f0_167d138d154 p0 p1 p2 p3 cnt)
def f0_145d138 (p0 : Int32) (p1 : Int32) (p2 : Int32) (p3 : Int32) (cnt : Int32) : Int32 := (f0_155d138d154 p0 p1 p2 p3 cnt)
def f0_139d138 (p0 : Int32) (p1 : Int32) (p2 : Int32) (p3 : Int32) (cnt : Int32) : Int32 := if (3 : Int32) < cnt then (f0_145d138 p0 p1 p2 p3 cnt) else (f0_155d138d142 p0 p1 p2 p3 cnt)
def f0_129 (p0 : Int32) (p1 : Int32) (p2 : Int32) (p3 : Int32) (cnt : Int32) : Int32 := (f0_139d138 p0 p1 p2 p3 cnt)
def f0_124 (p0 : Int32) (p1 : Int32) (p2 : Int32) (p3 : Int32) (cnt : Int32) : Int32 := if (0 : Int32) < cnt then (f0_129 p0 p1 p2 p3 cnt) else (f0_139d126 p0 p1 p2 p3 cnt)
def f0_114 (p0 : Int32) (p1 : Int32) (p2 : Int32) (p3 : Int32) (cnt : Int32) : Int32 := (f0_124 p0 p1 p2 p3 cnt)
def f0_106 (p0 : Int32) (p1 : Int32) (p2 : Int32) (p3 : Int32) (cnt : Int32) : Int32 := (f0_114 p0 p1 p2 p3 cnt)
def f0_98 (p0 : Int32) (p1 : Int32) (p2 : Int32) (p3 : Int32) (cnt : Int32) : Int32 := (f0_106 p0 p1 p2 p3 cnt)
def f0_90 (p0 : Int32) (p1 : Int32) (p2 : Int32) (p3 : Int32) (cnt : Int32) : Int32 := (f0_98 p0 p1 p2 p3 cnt)
def f0_74 (p0 : Int32) (p1 : Int32) (p2 : Int32) (p3 : Int32) (cnt : Int32) : Int32 := (f0_90 p0 p1 p2 p3 cnt)
def f0_64 (p0 : Int32) (p1 : Int32) (p2 : Int32) (p3 : Int32) (cnt : Int32) : Int32 := (f0_74 p0 p1 p2 p3 cnt)
def f0_57 (p0 : Int32) (p1 : Int32) (p2 : Int32) (p3 : Int32) (cnt : Int32) : Int32 := (f0_64 p0 p1 p2 p3 cnt)
def f0_9 (p0 : Int32) (p1 : Int32) (p2 : Int32) (p3 : Int32) (cnt : Int32) : Int32 := (f0_57 p0 p1 p2 p3 cnt)
def f0_0 : Int32 := 1
theorem own_pre (p0 p1 p2 p3 cnt : Int32) : f6_0 cnt p0 p1 p2 p3 (upd (upd (upd (upd (fun _ => (0 : Int32)) (0 : Int32).toNatClampNeg p0) (1 : Int32).toNatClampNeg p1) (2 : Int32).toNatClampNeg p2) (3 : Int32).toNatClampNeg p3) = 1 := by
  have n1 : nar .boolean 1 = 1 := by decide
  have g0 : (upd (upd (upd (upd (fun _ => (0 : Int32)) (0 : Int32).toNatClampNeg p0) (1 : Int32).toNatClampNeg p1) (2 : Int32).toNatClampNeg p2) (3 : Int32).toNatClampNeg p3) (0 : Int32).toNatClampNeg = p0 := rfl
  have g1 : (upd (upd (upd (upd (fun _ => (0 : Int32)) (0 : Int32).toNatClampNeg p0) (1 : Int32).toNatClampNeg p1) (2 : Int32).toNatClampNeg p2) (3 : Int32).toNatClampNeg p3) (1 : Int32).toNatClampNeg = p1 := rfl
  have g2 : (upd (upd (upd (upd (fun _ => (0 : Int32)) (0 : Int32).toNatClampNeg p0) (1 : Int32).toNatClampNeg p1) (2 : Int32).toNatClampNeg p2) (3 : Int32).toNatClampNeg p3) (2 : Int32).toNatClampNeg = p2 := rfl
  have g3 : (upd (upd (upd (upd (fun _ => (0 : Int32)) (0 : Int32).toNatClampNeg p0) (1 : Int32).toNatClampNeg p1) (2 : Int32).toNatClampNeg p2) (3 : Int32).toNatClampNeg p3) (3 : Int32).toNatClampNeg = p3 := rfl
  simp only [f6_57, f6_55, f6_47, f6_42, f6_40, f6_32, f6_27, f6_25, f6_18, f6_13, f6_11, f6_4, f6_0, g0, g1, g2, g3]
  simp [n1]
theorem own_pre0 (p0 p1 p2 p3 cnt : Int32) : ¬ f6_0 cnt p0 p1 p2 p3 (upd (upd (upd (upd (fun _ => (0 : Int32)) (0 : Int32).toNatClampNeg p0) (1 : Int32).toNatClampNeg p1) (2 : Int32).toNatClampNeg p2) (3 : Int32).toNatClampNeg p3) = 0 := by rw [own_pre]; decide
theorem law_at (p0 p1 p2 p3 cnt : Int32) : f0_9 p0 p1 p2 p3 cnt = 1 := by
  have n1 : nar .boolean 1 = 1 := by decide
  simp only [f0_191d126d142, f0_181d126d142, f0_174d126d142, f0_167d126d142, f0_155d126d142, f0_191d126d154, f0_181d126d154, f0_174d126d154, f0_167d126d154, f0_155d126d154, f0_145d126, f0_139d126, f0_191d138d142, f0_181d138d142, f0_174d138d142, f0_167d138d142, f0_155d138d142, f0_191d138d154, f0_181d138d154, f0_174d138d154, f0_167d138d154, f0_155d138d154, f0_145d138, f0_139d138, f0_129, f0_124, f0_114, f0_106, f0_98, f0_90, f0_74, f0_64, f0_57, f0_9, own_pre, n1]
  simp
set_option maxRecDepth 65536 in
set_option maxHeartbeats 40000000 in
theorem rm0 (l : Launch) (Z : State) (a0 : Array Value) (hw : ∀ d ∈ tables_1, d.before a0 Z = true) (ws : List Jvm.Cond) (p0 : Int32) (p1 : Int32) (p2 : Int32) (p3 : Int32) (p4 : Int32) (q5 : Int64)  (h0 : Heap) (n0 : Nat) (Z0 : n0 ≤ h0.size) :
    MetFree l x (head1 (Jvm.Cond.code x code maxLocals ret :: ws) room_1) (fun a U => a = #[(.int p0), (.int p1), (.int p2), (.int p3), (.int p4), (.long q5)] ∧ Z.Warmed39 U.vm ∧ U.heap = h0) (fun _ _ _ _ _ => True) (fun _ U o U' => ∃ v L, o = .returned v ∧ (LawQ (some (.int f0_0)) n0) v U'.heap L ∧ FrameEnd U o U' L room_1.cells room_1.slots) := by
  refine MetFree.of_bodySF (plainFor_of_name pn_0) hisR ?_
  intro p e s m args below meth c s₁ Bd hml0 hP hK
  obtain ⟨rfl, hZ, hh⟩ := hP
  have hx := Bd.exec
  have hby := Bd.bytes
  have hlk : meth.locks = false := BodyLoose.notSynchronized Bd
  have hml : c.maxLocals = 12 := hml0
  have hown : s.vm.findClass "com/example/ucs_to_octets/ucstooctets/DecodedTextCodePointsPinLaw" = some m.cls := findClass_of_methodNamed Bd.named
  have hnm := (name_of_methodNamed Bd.named Bd.method).1
  have X0 : Stand p l e room_1 s m #[(.int p0), (.int p1), (.int p2), (.int p3), (.int p4), (.long q5)] below meth c s₁ ([] : List Loc) 0 0 := Stand.of_body Bd
  have e0 : s₁.heap = h0 := by rw [← hh, Bd.state]; rfl
  show Go p e below s room_1.cells room_1.slots (LawQ (some (.int f0_0)) n0) s₁ (entryFrame m #[(.int p0), (.int p1), (.int p2), (.int p3), (.int p4), (.long q5)] maxLocals)
  rw [ef_0 m p0 p1 p2 p3 p4 q5]
  have N0 := Fr.nil n0
  refine Go.step (g' := (mkF m 2 #[.val (.int p0), .val (.int p1), .val (.int p2), .val (.int p3), .val (.int p4), .val (.long q5), .second, .unset, .unset, .unset, .unset, .unset] [(.int p4)])) (fun _ k => XS.iload X0.here hx rfl (hb hby at_0) rfl  k) ?_
  refine Go.step (g' := (mkF m 4 #[.val (.int p0), .val (.int p1), .val (.int p2), .val (.int p3), .val (.int p4), .val (.long q5), .second, .unset, .unset, .unset, .unset, .unset] [(.int (2147483647 : Int32)), (.int p4)])) (fun _ k => X0.ldcI hx hown (mvT hZ (hw _ (List.mem_of_getElem? (i := 0) rfl))) rfl (hb hby at_2) k) ?_
  refine Go.step (g' := (mkF m 5 #[.val (.int p0), .val (.int p1), .val (.int p2), .val (.int p3), .val (.int p4), .val (.long q5), .second, .unset, .unset, .unset, .unset, .unset] [(.int (p4 &&& (2147483647 : Int32)))])) (fun _ k => XS.iand X0.here hx rfl (hb hby at_4) rfl k) ?_
  refine Go.step (g' := (mkF m 6 #[.val (.int p0), .val (.int p1), .val (.int p2), .val (.int p3), .val (.int p4), .val (.long q5), .second, .unset, .unset, .unset, .unset, .unset] [(.int (5 : Int32)), (.int (p4 &&& (2147483647 : Int32)))])) (fun _ k => XS.iconst X0.here hx rfl (hb hby at_5) k) ?_
  refine Go.step (g' := (mkF m 7 #[.val (.int p0), .val (.int p1), .val (.int p2), .val (.int p3), .val (.int p4), .val (.long q5), .second, .unset, .unset, .unset, .unset, .unset] [(.int ((p4 &&& (2147483647 : Int32)) % (5 : Int32)))])) (fun _ k => Jvm.RoadKit.iremM X0 hx rfl (hb hby at_6) rfl (by decide) k) ?_
  refine Go.step (g' := (mkF m 9 #[.val (.int p0), .val (.int p1), .val (.int p2), .val (.int p3), .val (.int p4), .val (.long q5), .second, .val (.int ((p4 &&& (2147483647 : Int32)) % (5 : Int32))), .unset, .unset, .unset, .unset] [])) (fun _ k => XS.istore X0.here hx rfl (hb hby at_7) rfl (l' := #[.val (.int p0), .val (.int p1), .val (.int p2), .val (.int p3), .val (.int p4), .val (.long q5), .second, .val (.int ((p4 &&& (2147483647 : Int32)) % (5 : Int32))), .unset, .unset, .unset, .unset]) rfl k) ?_
  generalize hcnt : ((p4 &&& (2147483647 : Int32)) % (5 : Int32)) = cnt
  have hp0 : ¬ cnt < 0 := hcnt ▸ (own_cnt p4).1
  have hp1 : ¬ (4 : Int32) < cnt := hcnt ▸ (own_cnt p4).2
  rw [show f0_0 = (f0_9 p0 p1 p2 p3 cnt) from (law_at _ _ _ _ _).symm]
  refine Go.step (g' := (mkF m 10 #[.val (.int p0), .val (.int p1), .val (.int p2), .val (.int p3), .val (.int p4), .val (.long q5), .second, .val (.int cnt), .unset, .unset, .unset, .unset] [(.int (4 : Int32))])) (fun _ k => XS.iconst X0.here hx rfl (hb hby at_9) k) ?_
  obtain ⟨T1, h1, k1, X1, e1, E1, A1, Ex1, st1⟩ := newPE X0 hx hZ (hw _ (List.mem_of_getElem? (i := 1) rfl)) e0 (g := (mkF m 10 #[.val (.int p0), .val (.int p1), .val (.int p2), .val (.int p3), .val (.int p4), .val (.long q5), .second, .val (.int cnt), .unset, .unset, .unset, .unset] [(.int (4 : Int32))])) rfl (hb hby at_10) rfl (by decide) (cap := 4) (by decide) (by decide) (by decide) (by decide) (ad := "[I") (by decide)
  obtain ⟨b1, g1⟩ : ∃ z, z = h0.size := ⟨_, rfl⟩
  rw [← g1] at A1 Ex1 st1
  have g_b1 : n0 ≤ b1 := Nat.le_trans Z0 (Nat.le_of_eq g1.symm)
  have sz_b1 : h0.size ≤ b1 := Nat.le_trans (Keep.refl h0 []).1 (Nat.le_of_eq g1.symm)
  have V1 : IA Z h1 b1 .int 4 (fun k => .int ((fun _ => (0 : Int32)) k)) := IA.of_new A1 (by decide)
  refine Go.step (g' := (mkF m 12 #[.val (.int p0), .val (.int p1), .val (.int p2), .val (.int p3), .val (.int p4), .val (.long q5), .second, .val (.int cnt), .unset, .unset, .unset, .unset] [(.ref b1)])) st1 ?_
  refine Go.step (g' := (mkF m 13 #[.val (.int p0), .val (.int p1), .val (.int p2), .val (.int p3), .val (.int p4), .val (.long q5), .second, .val (.int cnt), .unset, .unset, .unset, .unset] [(.ref b1), (.ref b1)])) (fun _ k => XS.dup X1.here hx rfl (hb hby at_12) rfl rfl k) ?_
  refine Go.step (g' := (mkF m 14 #[.val (.int p0), .val (.int p1), .val (.int p2), .val (.int p3), .val (.int p4), .val (.long q5), .second, .val (.int cnt), .unset, .unset, .unset, .unset] [(.int (0 : Int32)), (.ref b1), (.ref b1)])) (fun _ k => XS.iconst X1.here hx rfl (hb hby at_13) k) ?_
  refine Go.step (g' := (mkF m 15 #[.val (.int p0), .val (.int p1), .val (.int p2), .val (.int p3), .val (.int p4), .val (.long q5), .second, .val (.int cnt), .unset, .unset, .unset, .unset] [(.int p0), (.int (0 : Int32)), (.ref b1), (.ref b1)])) (fun _ k => XS.iloadN X1.here hx rfl (hb hby at_14) rfl  k) ?_
  obtain ⟨T2, h2, lc2, X2, e2, W2, N2, V2, st2⟩ := putAI X1 hx hZ e1 V1 (j := (0 : Int32)) (by decide) N0 g_b1 (gf := (mkF m 15 #[.val (.int p0), .val (.int p1), .val (.int p2), .val (.int p3), .val (.int p4), .val (.long q5), .second, .val (.int cnt), .unset, .unset, .unset, .unset] [(.int p0), (.int (0 : Int32)), (.ref b1), (.ref b1)])) rfl rfl (hb hby at_15)
  refine Go.step (g' := (mkF m 16 #[.val (.int p0), .val (.int p1), .val (.int p2), .val (.int p3), .val (.int p4), .val (.long q5), .second, .val (.int cnt), .unset, .unset, .unset, .unset] [(.ref b1)])) st2 ?_
  refine Go.step (g' := (mkF m 17 #[.val (.int p0), .val (.int p1), .val (.int p2), .val (.int p3), .val (.int p4), .val (.long q5), .second, .val (.int cnt), .unset, .unset, .unset, .unset] [(.ref b1), (.ref b1)])) (fun _ k => XS.dup X2.here hx rfl (hb hby at_16) rfl rfl k) ?_
  refine Go.step (g' := (mkF m 18 #[.val (.int p0), .val (.int p1), .val (.int p2), .val (.int p3), .val (.int p4), .val (.long q5), .second, .val (.int cnt), .unset, .unset, .unset, .unset] [(.int (1 : Int32)), (.ref b1), (.ref b1)])) (fun _ k => XS.iconst X2.here hx rfl (hb hby at_17) k) ?_
  refine Go.step (g' := (mkF m 19 #[.val (.int p0), .val (.int p1), .val (.int p2), .val (.int p3), .val (.int p4), .val (.long q5), .second, .val (.int cnt), .unset, .unset, .unset, .unset] [(.int p1), (.int (1 : Int32)), (.ref b1), (.ref b1)])) (fun _ k => XS.iloadN X2.here hx rfl (hb hby at_18) rfl  k) ?_
  obtain ⟨T3, h3, lc3, X3, e3, W3, N3, V3, st3⟩ := putAI X2 hx hZ e2 V2 (j := (1 : Int32)) (by decide) N2 g_b1 (gf := (mkF m 19 #[.val (.int p0), .val (.int p1), .val (.int p2), .val (.int p3), .val (.int p4), .val (.long q5), .second, .val (.int cnt), .unset, .unset, .unset, .unset] [(.int p1), (.int (1 : Int32)), (.ref b1), (.ref b1)])) rfl rfl (hb hby at_19)
  refine Go.step (g' := (mkF m 20 #[.val (.int p0), .val (.int p1), .val (.int p2), .val (.int p3), .val (.int p4), .val (.long q5), .second, .val (.int cnt), .unset, .unset, .unset, .unset] [(.ref b1)])) st3 ?_
  have Q4 := (Nat.le_trans (Nat.le_trans (Nat.le_trans Z0 E1.1) (Keep.of_wr W2).1) (Keep.of_wr W3).1)
  have Q5 := ((((Keep.refl h0 []).ext E1).wr W2 (Or.inr sz_b1)).wr W3 (Or.inr sz_b1))
  refine Go.step (g' := (mkF m 21 #[.val (.int p0), .val (.int p1), .val (.int p2), .val (.int p3), .val (.int p4), .val (.long q5), .second, .val (.int cnt), .unset, .unset, .unset, .unset] [(.ref b1), (.ref b1)])) (fun _ k => XS.dup X3.here hx rfl (hb hby at_20) rfl rfl k) ?_
  refine Go.step (g' := (mkF m 22 #[.val (.int p0), .val (.int p1), .val (.int p2), .val (.int p3), .val (.int p4), .val (.long q5), .second, .val (.int cnt), .unset, .unset, .unset, .unset] [(.int (2 : Int32)), (.ref b1), (.ref b1)])) (fun _ k => XS.iconst X3.here hx rfl (hb hby at_21) k) ?_
  refine Go.step (g' := (mkF m 23 #[.val (.int p0), .val (.int p1), .val (.int p2), .val (.int p3), .val (.int p4), .val (.long q5), .second, .val (.int cnt), .unset, .unset, .unset, .unset] [(.int p2), (.int (2 : Int32)), (.ref b1), (.ref b1)])) (fun _ k => XS.iloadN X3.here hx rfl (hb hby at_22) rfl  k) ?_
  obtain ⟨T6, h6, lc6, X6, e6, W6, N6, V6, st6⟩ := putAI X3 hx hZ e3 V3 (j := (2 : Int32)) (by decide) N3 g_b1 (gf := (mkF m 23 #[.val (.int p0), .val (.int p1), .val (.int p2), .val (.int p3), .val (.int p4), .val (.long q5), .second, .val (.int cnt), .unset, .unset, .unset, .unset] [(.int p2), (.int (2 : Int32)), (.ref b1), (.ref b1)])) rfl rfl (hb hby at_23)
  refine Go.step (g' := (mkF m 24 #[.val (.int p0), .val (.int p1), .val (.int p2), .val (.int p3), .val (.int p4), .val (.long q5), .second, .val (.int cnt), .unset, .unset, .unset, .unset] [(.ref b1)])) st6 ?_
  refine Go.step (g' := (mkF m 25 #[.val (.int p0), .val (.int p1), .val (.int p2), .val (.int p3), .val (.int p4), .val (.long q5), .second, .val (.int cnt), .unset, .unset, .unset, .unset] [(.ref b1), (.ref b1)])) (fun _ k => XS.dup X6.here hx rfl (hb hby at_24) rfl rfl k) ?_
  refine Go.step (g' := (mkF m 26 #[.val (.int p0), .val (.int p1), .val (.int p2), .val (.int p3), .val (.int p4), .val (.long q5), .second, .val (.int cnt), .unset, .unset, .unset, .unset] [(.int (3 : Int32)), (.ref b1), (.ref b1)])) (fun _ k => XS.iconst X6.here hx rfl (hb hby at_25) k) ?_
  refine Go.step (g' := (mkF m 27 #[.val (.int p0), .val (.int p1), .val (.int p2), .val (.int p3), .val (.int p4), .val (.long q5), .second, .val (.int cnt), .unset, .unset, .unset, .unset] [(.int p3), (.int (3 : Int32)), (.ref b1), (.ref b1)])) (fun _ k => XS.iloadN X6.here hx rfl (hb hby at_26) rfl  k) ?_
  obtain ⟨T7, h7, lc7, X7, e7, W7, N7, V7, st7⟩ := putAI X6 hx hZ e6 V6 (j := (3 : Int32)) (by decide) N6 g_b1 (gf := (mkF m 27 #[.val (.int p0), .val (.int p1), .val (.int p2), .val (.int p3), .val (.int p4), .val (.long q5), .second, .val (.int cnt), .unset, .unset, .unset, .unset] [(.int p3), (.int (3 : Int32)), (.ref b1), (.ref b1)])) rfl rfl (hb hby at_27)
  refine Go.step (g' := (mkF m 28 #[.val (.int p0), .val (.int p1), .val (.int p2), .val (.int p3), .val (.int p4), .val (.long q5), .second, .val (.int cnt), .unset, .unset, .unset, .unset] [(.ref b1)])) st7 ?_
  have Q8 := (Nat.le_trans (Nat.le_trans Q4 (Keep.of_wr W6).1) (Keep.of_wr W7).1)
  refine Go.step (g' := (mkF m 30 #[.val (.int p0), .val (.int p1), .val (.int p2), .val (.int p3), .val (.int p4), .val (.long q5), .second, .val (.int cnt), .val (.ref b1), .unset, .unset, .unset] [])) (fun _ k => XS.astore X7.here hx rfl (hb hby at_28) rfl rfl (l' := #[.val (.int p0), .val (.int p1), .val (.int p2), .val (.int p3), .val (.int p4), .val (.long q5), .second, .val (.int cnt), .val (.ref b1), .unset, .unset, .unset]) rfl k) ?_
  obtain ⟨T9, h9, X9, e9, E9, A9, D9, -, st9⟩ := newO X7 hx hZ hown (hw _ (List.mem_of_getElem? (i := 2) rfl)) (hw _ (List.mem_of_getElem? (i := 3) rfl)) (hw _ (List.mem_of_getElem? (i := 4) rfl)) e7 (g := (mkF m 30 #[.val (.int p0), .val (.int p1), .val (.int p2), .val (.int p3), .val (.int p4), .val (.long q5), .second, .val (.int cnt), .val (.ref b1), .unset, .unset, .unset] [])) rfl (hb hby at_30) (by decide) (by decide)
  obtain ⟨b9, g9⟩ : ∃ z, z = h7.size := ⟨_, rfl⟩
  rw [← g9] at A9 D9 st9
  have ne_b1_b9 : b1 ≠ b9 := Nat.ne_of_lt (Nat.lt_of_lt_of_le ((((Ex1.wr W2).wr W3).wr W6).wr W7).lt (Nat.le_of_eq g9.symm))
  have g_b9 : n0 ≤ b9 := Nat.le_trans Q8 (Nat.le_of_eq g9.symm)
  have sz_b9 : h0.size ≤ b9 := Nat.le_trans ((Q5.wr W6 (Or.inr sz_b1)).wr W7 (Or.inr sz_b1)).1 (Nat.le_of_eq g9.symm)
  have F9_codePoints : Fld Z h9 b9 "com/example/ucs_to_octets/ucstooctets/DecodedText" "codePoints" "[I" .null := D9 (Or.inr (hw _ (List.mem_of_getElem? (i := 12) rfl))) (ty := (.array .int)) (by decide)
  have F9_codePointCount : Fld Z h9 b9 "com/example/ucs_to_octets/ucstooctets/DecodedText" "codePointCount" "I" (.int (0 : Int32)) := D9 (Or.inr (hw _ (List.mem_of_getElem? (i := 14) rfl))) (ty := .int) (by decide)
  have F9_replacementCount : Fld Z h9 b9 "com/example/ucs_to_octets/ucstooctets/DecodedText" "replacementCount" "J" (.long (0 : Int64)) := D9 (Or.inr (hw _ (List.mem_of_getElem? (i := 16) rfl))) (ty := .long) (by decide)
  refine Go.step (g' := (mkF m 33 #[.val (.int p0), .val (.int p1), .val (.int p2), .val (.int p3), .val (.int p4), .val (.long q5), .second, .val (.int cnt), .val (.ref b1), .unset, .unset, .unset] [(.ref b9)])) st9 ?_
  refine Go.step (g' := (mkF m 34 #[.val (.int p0), .val (.int p1), .val (.int p2), .val (.int p3), .val (.int p4), .val (.long q5), .second, .val (.int cnt), .val (.ref b1), .unset, .unset, .unset] [(.ref b9), (.ref b9)])) (fun _ k => XS.dup X9.here hx rfl (hb hby at_33) rfl rfl k) ?_
  refine Go.step (g' := (mkF m 36 #[.val (.int p0), .val (.int p1), .val (.int p2), .val (.int p3), .val (.int p4), .val (.long q5), .second, .val (.int cnt), .val (.ref b1), .unset, .unset, .unset] [(.ref b1), (.ref b9), (.ref b9)])) (fun _ k => XS.aload X9.here hx rfl (hb hby at_34) rfl rfl  k) ?_
  refine Go.step (g' := (mkF m 38 #[.val (.int p0), .val (.int p1), .val (.int p2), .val (.int p3), .val (.int p4), .val (.long q5), .second, .val (.int cnt), .val (.ref b1), .unset, .unset, .unset] [(.int cnt), (.ref b1), (.ref b9), (.ref b9)])) (fun _ k => XS.iload X9.here hx rfl (hb hby at_36) rfl  k) ?_
  refine Go.step (g' := (mkF m 40 #[.val (.int p0), .val (.int p1), .val (.int p2), .val (.int p3), .val (.int p4), .val (.long q5), .second, .val (.int cnt), .val (.ref b1), .unset, .unset, .unset] [(.long q5), (.int cnt), (.ref b1), (.ref b9), (.ref b9)])) (fun _ k => XS.lload X9.here hx rfl (hb hby at_38) rfl  k) ?_
  obtain ⟨_, _, ⟨T10, L10, k10, n10⟩, -, X10, ⟨Lc10, hQ10, l10, y10, z10⟩, st10⟩ := X9.specialBack hx (y := (⟨"com/example/ucs_to_octets/ucstooctets/DecodedText", "<init>", "([IIJ)V"⟩ : MethodName)) rfl hown (mvT hZ (hw _ (List.mem_of_getElem? (i := 5) rfl))) (mvT hZ (hw _ (List.mem_of_getElem? (i := 6) rfl))) (mvT hZ (hw _ (List.mem_of_getElem? (i := 7) rfl))) (by decide) (backOf (W := 1) (rm1 l Z a0 hw [] b9 b1 cnt q5 h9 n0 (Nat.le_trans Q8 E9.1) A9 g_b9 F9_codePoints F9_codePointCount F9_replacementCount) hZ (hw _ (List.mem_of_getElem? (i := 7) rfl)) (hw _ (List.mem_of_getElem? (i := 4) rfl)) (by decide) (by decide)) (g := (mkF m 40 #[.val (.int p0), .val (.int p1), .val (.int p2), .val (.int p3), .val (.int p4), .val (.long q5), .second, .val (.int cnt), .val (.ref b1), .unset, .unset, .unset] [(.long q5), (.int cnt), (.ref b1), (.ref b9), (.ref b9)])) rfl (by rw [hml]; rfl) (Steps.refl _) (a := b9) (argsL := [(.ref b1), (.int cnt), (.long q5)]) (rest := [(.ref b9)]) (lenOf pd_2 rfl) rfl (by show 2 * 0 + _ ≤ _; exact Nat.le_of_eq rfl) (hb hby at_40) (fun _ _ => ⟨rfl, e9, (by decide : ((0 + 1) + 1) + 0 ≤ _), (by decide : ((0 + 4) + 3) + 0 ≤ _)⟩)
  dsimp only [Pt.U, Pt.locs, Pt.cells, Pt.slots] at X10 l10 y10 z10 st10 hQ10
  subst l10 y10 z10
  obtain ⟨rfl, N10q, K10, Xp10_0, Xp10_1, Xp10_2⟩ := hQ10
  obtain ⟨lc10, X10, N10⟩ := own_pack X10 (Fr.app N7 N10q)
  have Q11 := ((((Q5.wr W6 (Or.inr sz_b1)).wr W7 (Or.inr sz_b1)).ext E9).trans K10 (allS (Or.inr sz_b9) all0))
  refine Go.step (g' := (mkF m 43 #[.val (.int p0), .val (.int p1), .val (.int p2), .val (.int p3), .val (.int p4), .val (.long q5), .second, .val (.int cnt), .val (.ref b1), .unset, .unset, .unset] [(.ref b9)])) (fun _ k => st10.trans k) ?_
  refine Go.step (g' := (mkF m 45 #[.val (.int p0), .val (.int p1), .val (.int p2), .val (.int p3), .val (.int p4), .val (.long q5), .second, .val (.int cnt), .val (.ref b1), .val (.ref b9), .unset, .unset] [])) (fun _ k => XS.astore X10.here hx rfl (hb hby at_43) rfl rfl (l' := #[.val (.int p0), .val (.int p1), .val (.int p2), .val (.int p3), .val (.int p4), .val (.long q5), .second, .val (.int cnt), .val (.ref b1), .val (.ref b9), .unset, .unset]) rfl k) ?_
  refine Go.step (g' := (mkF m 47 #[.val (.int p0), .val (.int p1), .val (.int p2), .val (.int p3), .val (.int p4), .val (.long q5), .second, .val (.int cnt), .val (.ref b1), .val (.ref b9), .unset, .unset] [(.ref b9)])) (fun _ k => XS.aload X10.here hx rfl (hb hby at_45) rfl rfl  k) ?_
  obtain ⟨cq12, kq12, q12a, q12b, q12c⟩ := isOf hZ rfl Xp10_0
  obtain ⟨_, _, ⟨T12, L12, k12, n12⟩, -, X12, ⟨Lc12, hQ12, l12, y12, z12⟩, st12⟩ := X10.virtualBack hx (y := (⟨"com/example/ucs_to_octets/ucstooctets/DecodedText", "codePoints", "()[I"⟩ : MethodName)) (z := (⟨"com/example/ucs_to_octets/ucstooctets/DecodedText", "codePoints", "()[I"⟩ : MethodName)) hown (mvT hZ (hw _ (List.mem_of_getElem? (i := 17) rfl))) (mvT hZ (hw _ (List.mem_of_getElem? (i := 18) rfl))) (notFace_of_selects (args := #[]) (mvT hZ (hw _ (List.mem_of_getElem? (i := 20) rfl)))) (mvT hZ (hw _ (List.mem_of_getElem? (i := 20) rfl))) (mvT hZ (hw _ (List.mem_of_getElem? (i := 19) rfl))) (by decide) (backOf (W := 0) (rm3 l Z a0 hw [] b9 b1 cnt (upd (upd (upd (upd (fun _ => (0 : Int32)) (0 : Int32).toNatClampNeg p0) (1 : Int32).toNatClampNeg p1) (2 : Int32).toNatClampNeg p2) (3 : Int32).toNatClampNeg p3) T10.heap n0 (Nat.le_trans (Nat.le_trans Q8 E9.1) K10.1) Xp10_1 Xp10_2 ((V7.ext E9).keep K10 (ninS ne_b1_b9 nin0)) ((((((Ex1.wr W2).wr W3).wr W6).wr W7).ext E9).keep K10) hp0 hp1) hZ (hw _ (List.mem_of_getElem? (i := 21) rfl)) (hw _ (List.mem_of_getElem? (i := 4) rfl)) (by decide) (by decide)) q12a q12c (g := (mkF m 47 #[.val (.int p0), .val (.int p1), .val (.int p2), .val (.int p3), .val (.int p4), .val (.long q5), .second, .val (.int cnt), .val (.ref b1), .val (.ref b9), .unset, .unset] [(.ref b9)])) rfl (by rw [hml]; rfl) (Steps.refl _) (argsL := []) (rest := []) (lenOf pd_3 rfl) rfl (by show 2 * 0 + _ ≤ _; exact Nat.le_of_eq rfl) (hb hby at_47) (fun _ _ => ⟨rfl, rfl, (by decide : (((0 + 1) + 1) + 0) + 1 ≤ _), (by decide : (((0 + 4) + 3) + 0) + 4 ≤ _)⟩)
  dsimp only [Pt.U, Pt.locs, Pt.cells, Pt.slots] at X12 l12 y12 z12 st12 hQ12
  subst l12 y12 z12
  obtain ⟨b12, rfl, szq12, N12q, K12, V12⟩ := hQ12
  have ne_b1_b12 : b1 ≠ b12 := Nat.ne_of_lt (Nat.lt_of_lt_of_le ((((((Ex1.wr W2).wr W3).wr W6).wr W7).ext E9).keep K10).lt szq12)
  have ne_b9_b12 : b9 ≠ b12 := Nat.ne_of_lt (Nat.lt_of_lt_of_le Xp10_0.lt szq12)
  have g_b12 : n0 ≤ b12 := Nat.le_trans (Nat.le_trans (Nat.le_trans Q8 E9.1) K10.1) szq12
  have sz_b12 : h0.size ≤ b12 := Nat.le_trans Q11.1 szq12
  obtain ⟨lc12, X12, N12⟩ := own_pack X12 (Fr.app N10 N12q)
  have Q13 := (((((((Ex1.wr W2).wr W3).wr W6).wr W7).ext E9).keep K10).keep K12)
  have Q14 := (Nat.le_trans (Nat.le_trans (Nat.le_trans Q8 E9.1) K10.1) K12.1)
  refine Go.step (g' := (mkF m 50 #[.val (.int p0), .val (.int p1), .val (.int p2), .val (.int p3), .val (.int p4), .val (.long q5), .second, .val (.int cnt), .val (.ref b1), .val (.ref b9), .unset, .unset] [(.ref b12)])) (fun _ k => st12.trans k) ?_
  refine Go.step (g' := (mkF m 52 #[.val (.int p0), .val (.int p1), .val (.int p2), .val (.int p3), .val (.int p4), .val (.long q5), .second, .val (.int cnt), .val (.ref b1), .val (.ref b9), .val (.ref b12), .unset] [])) (fun _ k => XS.astore X12.here hx rfl (hb hby at_50) rfl rfl (l' := #[.val (.int p0), .val (.int p1), .val (.int p2), .val (.int p3), .val (.int p4), .val (.long q5), .second, .val (.int cnt), .val (.ref b1), .val (.ref b9), .val (.ref b12), .unset]) rfl k) ?_
  refine Go.step (g' := (mkF m 54 #[.val (.int p0), .val (.int p1), .val (.int p2), .val (.int p3), .val (.int p4), .val (.long q5), .second, .val (.int cnt), .val (.ref b1), .val (.ref b9), .val (.ref b12), .unset] [(.ref b12)])) (fun _ k => XS.aload X12.here hx rfl (hb hby at_52) rfl rfl  k) ?_
  refine Go.step (g' := (mkF m 57 #[.val (.int p0), .val (.int p1), .val (.int p2), .val (.int p3), .val (.int p4), .val (.long q5), .second, .val (.int cnt), .val (.ref b1), .val (.ref b9), .val (.ref b12), .unset] [])) (fun _ k => XS.ifnullNo X12.here hx rfl (hb hby at_54) rfl k) ?_
  rw [show (f0_9 p0 p1 p2 p3 cnt) = (f0_57 p0 p1 p2 p3 cnt) from rfl]
  refine Go.step (g' := (mkF m 59 #[.val (.int p0), .val (.int p1), .val (.int p2), .val (.int p3), .val (.int p4), .val (.long q5), .second, .val (.int cnt), .val (.ref b1), .val (.ref b9), .val (.ref b12), .unset] [(.ref b12)])) (fun _ k => XS.aload X12.here hx rfl (hb hby at_57) rfl rfl  k) ?_
  refine Go.step (g' := (mkF m 61 #[.val (.int p0), .val (.int p1), .val (.int p2), .val (.int p3), .val (.int p4), .val (.long q5), .second, .val (.int cnt), .val (.ref b1), .val (.ref b9), .val (.ref b12), .unset] [(.ref b1), (.ref b12)])) (fun _ k => XS.aload X12.here hx rfl (hb hby at_59) rfl rfl  k) ?_
  refine Go.step (g' := (mkF m 64 #[.val (.int p0), .val (.int p1), .val (.int p2), .val (.int p3), .val (.int p4), .val (.long q5), .second, .val (.int cnt), .val (.ref b1), .val (.ref b9), .val (.ref b12), .unset] [])) (fun _ k => Jvm.RoadKit.acmp (g := (mkF m 61 #[.val (.int p0), .val (.int p1), .val (.int p2), .val (.int p3), .val (.int p4), .val (.long q5), .second, .val (.int cnt), .val (.ref b1), .val (.ref b9), .val (.ref b12), .unset] [(.ref b1), (.ref b12)])) X12 hx rfl rfl rfl (pc0 := 61) (pc' := 64) (same := false) rfl (hb hby at_61) rfl (decide_eq_false fun q => (Ne.symm ne_b1_b12 : ¬ (b12 = b1)) (Value.ref.inj q)) (by decide) (by decide) k) ?_
  rw [show (f0_57 p0 p1 p2 p3 cnt) = (f0_64 p0 p1 p2 p3 cnt) from rfl]
  refine Go.step (g' := (mkF m 66 #[.val (.int p0), .val (.int p1), .val (.int p2), .val (.int p3), .val (.int p4), .val (.long q5), .second, .val (.int cnt), .val (.ref b1), .val (.ref b9), .val (.ref b12), .unset] [(.ref b12)])) (fun _ k => XS.aload X12.here hx rfl (hb hby at_64) rfl rfl  k) ?_
  refine Go.step (g' := (mkF m 67 #[.val (.int p0), .val (.int p1), .val (.int p2), .val (.int p3), .val (.int p4), .val (.long q5), .second, .val (.int cnt), .val (.ref b1), .val (.ref b9), .val (.ref b12), .unset] [(.int cnt)])) (fun _ k => getLen X12 hx hZ rfl V12 (back32 hp0).1 (gf := (mkF m 66 #[.val (.int p0), .val (.int p1), .val (.int p2), .val (.int p3), .val (.int p4), .val (.long q5), .second, .val (.int cnt), .val (.ref b1), .val (.ref b9), .val (.ref b12), .unset] [(.ref b12)])) rfl rfl (hb hby at_66) k) ?_
  refine Go.step (g' := (mkF m 69 #[.val (.int p0), .val (.int p1), .val (.int p2), .val (.int p3), .val (.int p4), .val (.long q5), .second, .val (.int cnt), .val (.ref b1), .val (.ref b9), .val (.ref b12), .unset] [(.int cnt), (.int cnt)])) (fun _ k => XS.iload X12.here hx rfl (hb hby at_67) rfl  k) ?_
  refine Go.step (g' := (mkF m 74 #[.val (.int p0), .val (.int p1), .val (.int p2), .val (.int p3), .val (.int p4), .val (.long q5), .second, .val (.int cnt), .val (.ref b1), .val (.ref b9), .val (.ref b12), .unset] [])) (fun _ k => XS.icmpYes X12.here hx rfl (pc0 := 69) (pc' := 74) rfl (hb hby at_69) rfl (teq (rfl : cnt = cnt)).1 (by decide) (by decide) k) ?_
  rw [show (f0_64 p0 p1 p2 p3 cnt) = (f0_74 p0 p1 p2 p3 cnt) from rfl]
  refine Go.step (g' := (mkF m 76 #[.val (.int p0), .val (.int p1), .val (.int p2), .val (.int p3), .val (.int p4), .val (.long q5), .second, .val (.int cnt), .val (.ref b1), .val (.ref b9), .val (.ref b12), .unset] [(.ref b12)])) (fun _ k => XS.aload X12.here hx rfl (hb hby at_74) rfl rfl  k) ?_
  refine Go.step (g' := (mkF m 78 #[.val (.int p0), .val (.int p1), .val (.int p2), .val (.int p3), .val (.int p4), .val (.long q5), .second, .val (.int cnt), .val (.ref b1), .val (.ref b9), .val (.ref b12), .unset] [(.int cnt), (.ref b12)])) (fun _ k => XS.iload X12.here hx rfl (hb hby at_76) rfl  k) ?_
  refine Go.step (g' := (mkF m 79 #[.val (.int p0), .val (.int p1), .val (.int p2), .val (.int p3), .val (.int p4), .val (.long q5), .second, .val (.int cnt), .val (.ref b1), .val (.ref b9), .val (.ref b12), .unset] [(.int p0), (.int cnt), (.ref b12)])) (fun _ k => XS.iloadN X12.here hx rfl (hb hby at_78) rfl  k) ?_
  refine Go.step (g' := (mkF m 80 #[.val (.int p0), .val (.int p1), .val (.int p2), .val (.int p3), .val (.int p4), .val (.long q5), .second, .val (.int cnt), .val (.ref b1), .val (.ref b9), .val (.ref b12), .unset] [(.int p1), (.int p0), (.int cnt), (.ref b12)])) (fun _ k => XS.iloadN X12.here hx rfl (hb hby at_79) rfl  k) ?_
  refine Go.step (g' := (mkF m 81 #[.val (.int p0), .val (.int p1), .val (.int p2), .val (.int p3), .val (.int p4), .val (.long q5), .second, .val (.int cnt), .val (.ref b1), .val (.ref b9), .val (.ref b12), .unset] [(.int p2), (.int p1), (.int p0), (.int cnt), (.ref b12)])) (fun _ k => XS.iloadN X12.here hx rfl (hb hby at_80) rfl  k) ?_
  refine Go.step (g' := (mkF m 82 #[.val (.int p0), .val (.int p1), .val (.int p2), .val (.int p3), .val (.int p4), .val (.long q5), .second, .val (.int cnt), .val (.ref b1), .val (.ref b9), .val (.ref b12), .unset] [(.int p3), (.int p2), (.int p1), (.int p0), (.int cnt), (.ref b12)])) (fun _ k => XS.iloadN X12.here hx rfl (hb hby at_81) rfl  k) ?_
  obtain ⟨_, _, ⟨T15, L15, k15, n15⟩, -, X15, ⟨Lc15, hQ15, l15, y15, z15⟩, st15⟩ := Jvm.LawKit.callS X12 hx (y := (⟨"com/example/ucs_to_octets/ucstooctets/DecodedTextCodePointsPinLaw", "prefixOk", "([IIIIII)Z"⟩ : MethodName)) hown (mvT hZ (hw _ (List.mem_of_getElem? (i := 34) rfl))) (mvT hZ (hw _ (List.mem_of_getElem? (i := 35) rfl))) (mvT hZ (hw _ (List.mem_of_getElem? (i := 36) rfl))) (mvT hZ (hw _ (List.mem_of_getElem? (i := 37) rfl))) (by decide) (backOf (W := 0) (rm6 l Z a0 hw [] b12 cnt p0 p1 p2 p3 (upd (upd (upd (upd (fun _ => (0 : Int32)) (0 : Int32).toNatClampNeg p0) (1 : Int32).toNatClampNeg p1) (2 : Int32).toNatClampNeg p2) (3 : Int32).toNatClampNeg p3) T12.heap V12) hZ (hw _ (List.mem_of_getElem? (i := 37) rfl)) (hw _ (List.mem_of_getElem? (i := 36) rfl)) (by decide) (by decide)) (g := (mkF m 82 #[.val (.int p0), .val (.int p1), .val (.int p2), .val (.int p3), .val (.int p4), .val (.long q5), .second, .val (.int cnt), .val (.ref b1), .val (.ref b9), .val (.ref b12), .unset] [(.int p3), (.int p2), (.int p1), (.int p0), (.int cnt), (.ref b12)])) rfl (by rw [hml]; rfl) (argsL := [(.ref b12), (.int cnt), (.int p0), (.int p1), (.int p2), (.int p3)]) (rest := []) (lenOf pd_4 rfl) rfl (by show 2 * 0 + _ ≤ _; exact Nat.le_of_eq rfl) (hb hby at_82) (fun _ _ => ⟨rfl, rfl, (by decide : ((((0 + 1) + 1) + 0) + 1) + 0 ≤ _), (by decide : ((((0 + 4) + 3) + 0) + 4) + 0 ≤ _)⟩)
  dsimp only [Pt.U, Pt.locs, Pt.cells, Pt.slots] at X15 l15 y15 z15 st15 hQ15
  subst l15 y15 z15
  obtain ⟨rfl, rfl, e15⟩ := hQ15
  try rw [List.append_nil] at X15
  refine Go.step (g' := (mkF m 85 #[.val (.int p0), .val (.int p1), .val (.int p2), .val (.int p3), .val (.int p4), .val (.long q5), .second, .val (.int cnt), .val (.ref b1), .val (.ref b9), .val (.ref b12), .unset] [(.int (f6_0 cnt p0 p1 p2 p3 (upd (upd (upd (upd (fun _ => (0 : Int32)) (0 : Int32).toNatClampNeg p0) (1 : Int32).toNatClampNeg p1) (2 : Int32).toNatClampNeg p2) (3 : Int32).toNatClampNeg p3)))])) st15 ?_
  refine Go.step (g' := (mkF m 90 #[.val (.int p0), .val (.int p1), .val (.int p2), .val (.int p3), .val (.int p4), .val (.long q5), .second, .val (.int cnt), .val (.ref b1), .val (.ref b9), .val (.ref b12), .unset] [])) (fun _ k => XS.ifYes X15.here hx rfl (pc0 := 85) (pc' := 90) rfl (hb hby at_85) rfl ((if0 _ _).trans (feq (own_pre0 _ _ _ _ _ : ¬ ((f6_0 cnt p0 p1 p2 p3 (upd (upd (upd (upd (fun _ => (0 : Int32)) (0 : Int32).toNatClampNeg p0) (1 : Int32).toNatClampNeg p1) (2 : Int32).toNatClampNeg p2) (3 : Int32).toNatClampNeg p3)) = (0 : Int32)))).2) (by decide) (by decide) k) ?_
  rw [show (f0_74 p0 p1 p2 p3 cnt) = (f0_90 p0 p1 p2 p3 cnt) from rfl]
  refine Go.step (g' := (mkF m 92 #[.val (.int p0), .val (.int p1), .val (.int p2), .val (.int p3), .val (.int p4), .val (.long q5), .second, .val (.int cnt), .val (.ref b1), .val (.ref b9), .val (.ref b12), .unset] [(.ref b1)])) (fun _ k => XS.aload X15.here hx rfl (hb hby at_90) rfl rfl  k) ?_
  refine Go.step (g' := (mkF m 93 #[.val (.int p0), .val (.int p1), .val (.int p2), .val (.int p3), .val (.int p4), .val (.long q5), .second, .val (.int cnt), .val (.ref b1), .val (.ref b9), .val (.ref b12), .unset] [(.int (0 : Int32)), (.ref b1)])) (fun _ k => XS.iconst X15.here hx rfl (hb hby at_92) k) ?_
  refine Go.step (g' := (mkF m 94 #[.val (.int p0), .val (.int p1), .val (.int p2), .val (.int p3), .val (.int p4), .val (.long q5), .second, .val (.int cnt), .val (.ref b1), .val (.ref b9), .val (.ref b12), .unset] [(.int ((upd (upd (upd (upd (fun _ => (0 : Int32)) (0 : Int32).toNatClampNeg p0) (1 : Int32).toNatClampNeg p1) (2 : Int32).toNatClampNeg p2) (3 : Int32).toNatClampNeg p3) (0 : Int32).toNatClampNeg))])) (fun _ k => getAI X15 hx hZ e15 (((V7.ext E9).keep K10 (ninS ne_b1_b9 nin0)).keep K12 nin0) (j := (0 : Int32)) (by decide) (gf := (mkF m 93 #[.val (.int p0), .val (.int p1), .val (.int p2), .val (.int p3), .val (.int p4), .val (.long q5), .second, .val (.int cnt), .val (.ref b1), .val (.ref b9), .val (.ref b12), .unset] [(.int (0 : Int32)), (.ref b1)])) rfl rfl (hb hby at_93) k) ?_
  refine Go.step (g' := (mkF m 95 #[.val (.int p0), .val (.int p1), .val (.int p2), .val (.int p3), .val (.int p4), .val (.long q5), .second, .val (.int cnt), .val (.ref b1), .val (.ref b9), .val (.ref b12), .unset] [(.int p0), (.int ((upd (upd (upd (upd (fun _ => (0 : Int32)) (0 : Int32).toNatClampNeg p0) (1 : Int32).toNatClampNeg p1) (2 : Int32).toNatClampNeg p2) (3 : Int32).toNatClampNeg p3) (0 : Int32).toNatClampNeg))])) (fun _ k => XS.iloadN X15.here hx rfl (hb hby at_94) rfl  k) ?_
  refine Go.step (g' := (mkF m 98 #[.val (.int p0), .val (.int p1), .val (.int p2), .val (.int p3), .val (.int p4), .val (.long q5), .second, .val (.int cnt), .val (.ref b1), .val (.ref b9), .val (.ref b12), .unset] [])) (fun _ k => XS.icmpNo X15.here hx rfl (hb hby at_95) rfl (teq (rfl : ((upd (upd (upd (upd (fun _ => (0 : Int32)) (0 : Int32).toNatClampNeg p0) (1 : Int32).toNatClampNeg p1) (2 : Int32).toNatClampNeg p2) (3 : Int32).toNatClampNeg p3) (0 : Int32).toNatClampNeg) = p0)).2 k) ?_
  rw [show (f0_90 p0 p1 p2 p3 cnt) = (f0_98 p0 p1 p2 p3 cnt) from rfl]
  refine Go.step (g' := (mkF m 100 #[.val (.int p0), .val (.int p1), .val (.int p2), .val (.int p3), .val (.int p4), .val (.long q5), .second, .val (.int cnt), .val (.ref b1), .val (.ref b9), .val (.ref b12), .unset] [(.ref b1)])) (fun _ k => XS.aload X15.here hx rfl (hb hby at_98) rfl rfl  k) ?_
  refine Go.step (g' := (mkF m 101 #[.val (.int p0), .val (.int p1), .val (.int p2), .val (.int p3), .val (.int p4), .val (.long q5), .second, .val (.int cnt), .val (.ref b1), .val (.ref b9), .val (.ref b12), .unset] [(.int (1 : Int32)), (.ref b1)])) (fun _ k => XS.iconst X15.here hx rfl (hb hby at_100) k) ?_
  refine Go.step (g' := (mkF m 102 #[.val (.int p0), .val (.int p1), .val (.int p2), .val (.int p3), .val (.int p4), .val (.long q5), .second, .val (.int cnt), .val (.ref b1), .val (.ref b9), .val (.ref b12), .unset] [(.int ((upd (upd (upd (upd (fun _ => (0 : Int32)) (0 : Int32).toNatClampNeg p0) (1 : Int32).toNatClampNeg p1) (2 : Int32).toNatClampNeg p2) (3 : Int32).toNatClampNeg p3) (1 : Int32).toNatClampNeg))])) (fun _ k => getAI X15 hx hZ e15 (((V7.ext E9).keep K10 (ninS ne_b1_b9 nin0)).keep K12 nin0) (j := (1 : Int32)) (by decide) (gf := (mkF m 101 #[.val (.int p0), .val (.int p1), .val (.int p2), .val (.int p3), .val (.int p4), .val (.long q5), .second, .val (.int cnt), .val (.ref b1), .val (.ref b9), .val (.ref b12), .unset] [(.int (1 : Int32)), (.ref b1)])) rfl rfl (hb hby at_101) k) ?_
  refine Go.step (g' := (mkF m 103 #[.val (.int p0), .val (.int p1), .val (.int p2), .val (.int p3), .val (.int p4), .val (.long q5), .second, .val (.int cnt), .val (.ref b1), .val (.ref b9), .val (.ref b12), .unset] [(.int p1), (.int ((upd (upd (upd (upd (fun _ => (0 : Int32)) (0 : Int32).toNatClampNeg p0) (1 : Int32).toNatClampNeg p1) (2 : Int32).toNatClampNeg p2) (3 : Int32).toNatClampNeg p3) (1 : Int32).toNatClampNeg))])) (fun _ k => XS.iloadN X15.here hx rfl (hb hby at_102) rfl  k) ?_
  refine Go.step (g' := (mkF m 106 #[.val (.int p0), .val (.int p1), .val (.int p2), .val (.int p3), .val (.int p4), .val (.long q5), .second, .val (.int cnt), .val (.ref b1), .val (.ref b9), .val (.ref b12), .unset] [])) (fun _ k => XS.icmpNo X15.here hx rfl (hb hby at_103) rfl (teq (rfl : ((upd (upd (upd (upd (fun _ => (0 : Int32)) (0 : Int32).toNatClampNeg p0) (1 : Int32).toNatClampNeg p1) (2 : Int32).toNatClampNeg p2) (3 : Int32).toNatClampNeg p3) (1 : Int32).toNatClampNeg) = p1)).2 k) ?_
  rw [show (f0_98 p0 p1 p2 p3 cnt) = (f0_106 p0 p1 p2 p3 cnt) from rfl]
  refine Go.step (g' := (mkF m 108 #[.val (.int p0), .val (.int p1), .val (.int p2), .val (.int p3), .val (.int p4), .val (.long q5), .second, .val (.int cnt), .val (.ref b1), .val (.ref b9), .val (.ref b12), .unset] [(.ref b1)])) (fun _ k => XS.aload X15.here hx rfl (hb hby at_106) rfl rfl  k) ?_
  refine Go.step (g' := (mkF m 109 #[.val (.int p0), .val (.int p1), .val (.int p2), .val (.int p3), .val (.int p4), .val (.long q5), .second, .val (.int cnt), .val (.ref b1), .val (.ref b9), .val (.ref b12), .unset] [(.int (2 : Int32)), (.ref b1)])) (fun _ k => XS.iconst X15.here hx rfl (hb hby at_108) k) ?_
  refine Go.step (g' := (mkF m 110 #[.val (.int p0), .val (.int p1), .val (.int p2), .val (.int p3), .val (.int p4), .val (.long q5), .second, .val (.int cnt), .val (.ref b1), .val (.ref b9), .val (.ref b12), .unset] [(.int ((upd (upd (upd (upd (fun _ => (0 : Int32)) (0 : Int32).toNatClampNeg p0) (1 : Int32).toNatClampNeg p1) (2 : Int32).toNatClampNeg p2) (3 : Int32).toNatClampNeg p3) (2 : Int32).toNatClampNeg))])) (fun _ k => getAI X15 hx hZ e15 (((V7.ext E9).keep K10 (ninS ne_b1_b9 nin0)).keep K12 nin0) (j := (2 : Int32)) (by decide) (gf := (mkF m 109 #[.val (.int p0), .val (.int p1), .val (.int p2), .val (.int p3), .val (.int p4), .val (.long q5), .second, .val (.int cnt), .val (.ref b1), .val (.ref b9), .val (.ref b12), .unset] [(.int (2 : Int32)), (.ref b1)])) rfl rfl (hb hby at_109) k) ?_
  refine Go.step (g' := (mkF m 111 #[.val (.int p0), .val (.int p1), .val (.int p2), .val (.int p3), .val (.int p4), .val (.long q5), .second, .val (.int cnt), .val (.ref b1), .val (.ref b9), .val (.ref b12), .unset] [(.int p2), (.int ((upd (upd (upd (upd (fun _ => (0 : Int32)) (0 : Int32).toNatClampNeg p0) (1 : Int32).toNatClampNeg p1) (2 : Int32).toNatClampNeg p2) (3 : Int32).toNatClampNeg p3) (2 : Int32).toNatClampNeg))])) (fun _ k => XS.iloadN X15.here hx rfl (hb hby at_110) rfl  k) ?_
  refine Go.step (g' := (mkF m 114 #[.val (.int p0), .val (.int p1), .val (.int p2), .val (.int p3), .val (.int p4), .val (.long q5), .second, .val (.int cnt), .val (.ref b1), .val (.ref b9), .val (.ref b12), .unset] [])) (fun _ k => XS.icmpNo X15.here hx rfl (hb hby at_111) rfl (teq (rfl : ((upd (upd (upd (upd (fun _ => (0 : Int32)) (0 : Int32).toNatClampNeg p0) (1 : Int32).toNatClampNeg p1) (2 : Int32).toNatClampNeg p2) (3 : Int32).toNatClampNeg p3) (2 : Int32).toNatClampNeg) = p2)).2 k) ?_
  rw [show (f0_106 p0 p1 p2 p3 cnt) = (f0_114 p0 p1 p2 p3 cnt) from rfl]
  refine Go.step (g' := (mkF m 116 #[.val (.int p0), .val (.int p1), .val (.int p2), .val (.int p3), .val (.int p4), .val (.long q5), .second, .val (.int cnt), .val (.ref b1), .val (.ref b9), .val (.ref b12), .unset] [(.ref b1)])) (fun _ k => XS.aload X15.here hx rfl (hb hby at_114) rfl rfl  k) ?_
  refine Go.step (g' := (mkF m 117 #[.val (.int p0), .val (.int p1), .val (.int p2), .val (.int p3), .val (.int p4), .val (.long q5), .second, .val (.int cnt), .val (.ref b1), .val (.ref b9), .val (.ref b12), .unset] [(.int (3 : Int32)), (.ref b1)])) (fun _ k => XS.iconst X15.here hx rfl (hb hby at_116) k) ?_
  refine Go.step (g' := (mkF m 118 #[.val (.int p0), .val (.int p1), .val (.int p2), .val (.int p3), .val (.int p4), .val (.long q5), .second, .val (.int cnt), .val (.ref b1), .val (.ref b9), .val (.ref b12), .unset] [(.int ((upd (upd (upd (upd (fun _ => (0 : Int32)) (0 : Int32).toNatClampNeg p0) (1 : Int32).toNatClampNeg p1) (2 : Int32).toNatClampNeg p2) (3 : Int32).toNatClampNeg p3) (3 : Int32).toNatClampNeg))])) (fun _ k => getAI X15 hx hZ e15 (((V7.ext E9).keep K10 (ninS ne_b1_b9 nin0)).keep K12 nin0) (j := (3 : Int32)) (by decide) (gf := (mkF m 117 #[.val (.int p0), .val (.int p1), .val (.int p2), .val (.int p3), .val (.int p4), .val (.long q5), .second, .val (.int cnt), .val (.ref b1), .val (.ref b9), .val (.ref b12), .unset] [(.int (3 : Int32)), (.ref b1)])) rfl rfl (hb hby at_117) k) ?_
  refine Go.step (g' := (mkF m 119 #[.val (.int p0), .val (.int p1), .val (.int p2), .val (.int p3), .val (.int p4), .val (.long q5), .second, .val (.int cnt), .val (.ref b1), .val (.ref b9), .val (.ref b12), .unset] [(.int p3), (.int ((upd (upd (upd (upd (fun _ => (0 : Int32)) (0 : Int32).toNatClampNeg p0) (1 : Int32).toNatClampNeg p1) (2 : Int32).toNatClampNeg p2) (3 : Int32).toNatClampNeg p3) (3 : Int32).toNatClampNeg))])) (fun _ k => XS.iloadN X15.here hx rfl (hb hby at_118) rfl  k) ?_
  refine Go.step (g' := (mkF m 124 #[.val (.int p0), .val (.int p1), .val (.int p2), .val (.int p3), .val (.int p4), .val (.long q5), .second, .val (.int cnt), .val (.ref b1), .val (.ref b9), .val (.ref b12), .unset] [])) (fun _ k => XS.icmpYes X15.here hx rfl (pc0 := 119) (pc' := 124) rfl (hb hby at_119) rfl (teq (rfl : ((upd (upd (upd (upd (fun _ => (0 : Int32)) (0 : Int32).toNatClampNeg p0) (1 : Int32).toNatClampNeg p1) (2 : Int32).toNatClampNeg p2) (3 : Int32).toNatClampNeg p3) (3 : Int32).toNatClampNeg) = p3)).1 (by decide) (by decide) k) ?_
  rw [show (f0_114 p0 p1 p2 p3 cnt) = (f0_124 p0 p1 p2 p3 cnt) from rfl]
  refine Go.step (g' := (mkF m 126 #[.val (.int p0), .val (.int p1), .val (.int p2), .val (.int p3), .val (.int p4), .val (.long q5), .second, .val (.int cnt), .val (.ref b1), .val (.ref b9), .val (.ref b12), .unset] [(.int cnt)])) (fun _ k => XS.iload X15.here hx rfl (hb hby at_124) rfl  k) ?_
  by_cases hc126 : (0 : Int32) < cnt
  · rw [show (f0_124 p0 p1 p2 p3 cnt) = (f0_129 p0 p1 p2 p3 cnt) from if_pos hc126]
    refine Go.step (g' := (mkF m 129 #[.val (.int p0), .val (.int p1), .val (.int p2), .val (.int p3), .val (.int p4), .val (.long q5), .second, .val (.int cnt), .val (.ref b1), .val (.ref b9), .val (.ref b12), .unset] [])) (fun _ k => XS.ifNo X15.here hx rfl (hb hby at_126) rfl ((if0 _ _).trans (tlt hc126).2.2.2) k) ?_
    refine Go.step (g' := (mkF m 131 #[.val (.int p0), .val (.int p1), .val (.int p2), .val (.int p3), .val (.int p4), .val (.long q5), .second, .val (.int cnt), .val (.ref b1), .val (.ref b9), .val (.ref b12), .unset] [(.ref b12)])) (fun _ k => XS.aload X15.here hx rfl (hb hby at_129) rfl rfl  k) ?_
    refine Go.step (g' := (mkF m 132 #[.val (.int p0), .val (.int p1), .val (.int p2), .val (.int p3), .val (.int p4), .val (.long q5), .second, .val (.int cnt), .val (.ref b1), .val (.ref b9), .val (.ref b12), .unset] [(.int (0 : Int32)), (.ref b12)])) (fun _ k => XS.iconst X15.here hx rfl (hb hby at_131) k) ?_
    refine Go.step (g' := (mkF m 134 #[.val (.int p0), .val (.int p1), .val (.int p2), .val (.int p3), .val (.int p4), .val (.long q5), .second, .val (.int cnt), .val (.ref b1), .val (.ref b9), .val (.ref b12), .unset] [(.ref b12), (.int (0 : Int32)), (.ref b12)])) (fun _ k => XS.aload X15.here hx rfl (hb hby at_132) rfl rfl  k) ?_
    refine Go.step (g' := (mkF m 135 #[.val (.int p0), .val (.int p1), .val (.int p2), .val (.int p3), .val (.int p4), .val (.long q5), .second, .val (.int cnt), .val (.ref b1), .val (.ref b9), .val (.ref b12), .unset] [(.int (0 : Int32)), (.ref b12), (.int (0 : Int32)), (.ref b12)])) (fun _ k => XS.iconst X15.here hx rfl (hb hby at_134) k) ?_
    refine Go.step (g' := (mkF m 136 #[.val (.int p0), .val (.int p1), .val (.int p2), .val (.int p3), .val (.int p4), .val (.long q5), .second, .val (.int cnt), .val (.ref b1), .val (.ref b9), .val (.ref b12), .unset] [(.int ((upd (upd (upd (upd (fun _ => (0 : Int32)) (0 : Int32).toNatClampNeg p0) (1 : Int32).toNatClampNeg p1) (2 : Int32).toNatClampNeg p2) (3 : Int32).toNatClampNeg p3) (0 : Int32).toNatClampNeg)), (.int (0 : Int32)), (.ref b12)])) (fun _ k => getAI X15 hx hZ e15 V12 (j := (0 : Int32)) (own_ib (by decide) hc126) (gf := (mkF m 135 #[.val (.int p0), .val (.int p1), .val (.int p2), .val (.int p3), .val (.int p4), .val (.long q5), .second, .val (.int cnt), .val (.ref b1), .val (.ref b9), .val (.ref b12), .unset] [(.int (0 : Int32)), (.ref b12), (.int (0 : Int32)), (.ref b12)])) rfl rfl (hb hby at_135) k) ?_
    refine Go.step (g' := (mkF m 137 #[.val (.int p0), .val (.int p1), .val (.int p2), .val (.int p3), .val (.int p4), .val (.long q5), .second, .val (.int cnt), .val (.ref b1), .val (.ref b9), .val (.ref b12), .unset] [(.int (-1 : Int32)), (.int ((upd (upd (upd (upd (fun _ => (0 : Int32)) (0 : Int32).toNatClampNeg p0) (1 : Int32).toNatClampNeg p1) (2 : Int32).toNatClampNeg p2) (3 : Int32).toNatClampNeg p3) (0 : Int32).toNatClampNeg)), (.int (0 : Int32)), (.ref b12)])) (fun _ k => XS.iconst X15.here hx rfl (hb hby at_136) k) ?_
    refine Go.step (g' := (mkF m 138 #[.val (.int p0), .val (.int p1), .val (.int p2), .val (.int p3), .val (.int p4), .val (.long q5), .second, .val (.int cnt), .val (.ref b1), .val (.ref b9), .val (.ref b12), .unset] [(.int (((upd (upd (upd (upd (fun _ => (0 : Int32)) (0 : Int32).toNatClampNeg p0) (1 : Int32).toNatClampNeg p1) (2 : Int32).toNatClampNeg p2) (3 : Int32).toNatClampNeg p3) (0 : Int32).toNatClampNeg) ^^^ (-1 : Int32))), (.int (0 : Int32)), (.ref b12)])) (fun _ k => XS.ixor X15.here hx rfl (hb hby at_137) rfl k) ?_
    obtain ⟨T16, h16, lc16, X16, e16, W16, N16, V16, st16⟩ := putAI X15 hx hZ e15 V12 (j := (0 : Int32)) (own_ib (by decide) hc126) N12 g_b12 (gf := (mkF m 138 #[.val (.int p0), .val (.int p1), .val (.int p2), .val (.int p3), .val (.int p4), .val (.long q5), .second, .val (.int cnt), .val (.ref b1), .val (.ref b9), .val (.ref b12), .unset] [(.int (((upd (upd (upd (upd (fun _ => (0 : Int32)) (0 : Int32).toNatClampNeg p0) (1 : Int32).toNatClampNeg p1) (2 : Int32).toNatClampNeg p2) (3 : Int32).toNatClampNeg p3) (0 : Int32).toNatClampNeg) ^^^ (-1 : Int32))), (.int (0 : Int32)), (.ref b12)])) rfl rfl (hb hby at_138)
    refine Go.step (g' := (mkF m 139 #[.val (.int p0), .val (.int p1), .val (.int p2), .val (.int p3), .val (.int p4), .val (.long q5), .second, .val (.int cnt), .val (.ref b1), .val (.ref b9), .val (.ref b12), .unset] [])) st16 ?_
    have Q17 := ((((V7.ext E9).keep K10 (ninS ne_b1_b9 nin0)).keep K12 nin0).other W16 ne_b1_b12)
    rw [show (f0_129 p0 p1 p2 p3 cnt) = (f0_139d138 p0 p1 p2 p3 cnt) from rfl]
    refine Go.step (g' := (mkF m 141 #[.val (.int p0), .val (.int p1), .val (.int p2), .val (.int p3), .val (.int p4), .val (.long q5), .second, .val (.int cnt), .val (.ref b1), .val (.ref b9), .val (.ref b12), .unset] [(.int cnt)])) (fun _ k => XS.iload X16.here hx rfl (hb hby at_139) rfl  k) ?_
    refine Go.step (g' := (mkF m 142 #[.val (.int p0), .val (.int p1), .val (.int p2), .val (.int p3), .val (.int p4), .val (.long q5), .second, .val (.int cnt), .val (.ref b1), .val (.ref b9), .val (.ref b12), .unset] [(.int (3 : Int32)), (.int cnt)])) (fun _ k => XS.iconst X16.here hx rfl (hb hby at_141) k) ?_
    by_cases hc142d138 : (3 : Int32) < cnt
    · rw [show (f0_139d138 p0 p1 p2 p3 cnt) = (f0_145d138 p0 p1 p2 p3 cnt) from if_pos hc142d138]
      refine Go.step (g' := (mkF m 145 #[.val (.int p0), .val (.int p1), .val (.int p2), .val (.int p3), .val (.int p4), .val (.long q5), .second, .val (.int cnt), .val (.ref b1), .val (.ref b9), .val (.ref b12), .unset] [])) (fun _ k => XS.icmpNo X16.here hx rfl (hb hby at_142) rfl (tlt hc142d138).2.2.2 k) ?_
      refine Go.step (g' := (mkF m 147 #[.val (.int p0), .val (.int p1), .val (.int p2), .val (.int p3), .val (.int p4), .val (.long q5), .second, .val (.int cnt), .val (.ref b1), .val (.ref b9), .val (.ref b12), .unset] [(.ref b12)])) (fun _ k => XS.aload X16.here hx rfl (hb hby at_145) rfl rfl  k) ?_
      refine Go.step (g' := (mkF m 148 #[.val (.int p0), .val (.int p1), .val (.int p2), .val (.int p3), .val (.int p4), .val (.long q5), .second, .val (.int cnt), .val (.ref b1), .val (.ref b9), .val (.ref b12), .unset] [(.int (3 : Int32)), (.ref b12)])) (fun _ k => XS.iconst X16.here hx rfl (hb hby at_147) k) ?_
      refine Go.step (g' := (mkF m 150 #[.val (.int p0), .val (.int p1), .val (.int p2), .val (.int p3), .val (.int p4), .val (.long q5), .second, .val (.int cnt), .val (.ref b1), .val (.ref b9), .val (.ref b12), .unset] [(.ref b12), (.int (3 : Int32)), (.ref b12)])) (fun _ k => XS.aload X16.here hx rfl (hb hby at_148) rfl rfl  k) ?_
      refine Go.step (g' := (mkF m 151 #[.val (.int p0), .val (.int p1), .val (.int p2), .val (.int p3), .val (.int p4), .val (.long q5), .second, .val (.int cnt), .val (.ref b1), .val (.ref b9), .val (.ref b12), .unset] [(.int (3 : Int32)), (.ref b12), (.int (3 : Int32)), (.ref b12)])) (fun _ k => XS.iconst X16.here hx rfl (hb hby at_150) k) ?_
      refine Go.step (g' := (mkF m 152 #[.val (.int p0), .val (.int p1), .val (.int p2), .val (.int p3), .val (.int p4), .val (.long q5), .second, .val (.int cnt), .val (.ref b1), .val (.ref b9), .val (.ref b12), .unset] [(.int ((upd (upd (upd (upd (upd (fun _ => (0 : Int32)) (0 : Int32).toNatClampNeg p0) (1 : Int32).toNatClampNeg p1) (2 : Int32).toNatClampNeg p2) (3 : Int32).toNatClampNeg p3) (0 : Int32).toNatClampNeg (((upd (upd (upd (upd (fun _ => (0 : Int32)) (0 : Int32).toNatClampNeg p0) (1 : Int32).toNatClampNeg p1) (2 : Int32).toNatClampNeg p2) (3 : Int32).toNatClampNeg p3) (0 : Int32).toNatClampNeg) ^^^ (-1 : Int32))) (3 : Int32).toNatClampNeg)), (.int (3 : Int32)), (.ref b12)])) (fun _ k => getAI X16 hx hZ e16 V16 (j := (3 : Int32)) (own_ib (by decide) hc142d138) (gf := (mkF m 151 #[.val (.int p0), .val (.int p1), .val (.int p2), .val (.int p3), .val (.int p4), .val (.long q5), .second, .val (.int cnt), .val (.ref b1), .val (.ref b9), .val (.ref b12), .unset] [(.int (3 : Int32)), (.ref b12), (.int (3 : Int32)), (.ref b12)])) rfl rfl (hb hby at_151) k) ?_
      refine Go.step (g' := (mkF m 153 #[.val (.int p0), .val (.int p1), .val (.int p2), .val (.int p3), .val (.int p4), .val (.long q5), .second, .val (.int cnt), .val (.ref b1), .val (.ref b9), .val (.ref b12), .unset] [(.int (-1 : Int32)), (.int ((upd (upd (upd (upd (upd (fun _ => (0 : Int32)) (0 : Int32).toNatClampNeg p0) (1 : Int32).toNatClampNeg p1) (2 : Int32).toNatClampNeg p2) (3 : Int32).toNatClampNeg p3) (0 : Int32).toNatClampNeg (((upd (upd (upd (upd (fun _ => (0 : Int32)) (0 : Int32).toNatClampNeg p0) (1 : Int32).toNatClampNeg p1) (2 : Int32).toNatClampNeg p2) (3 : Int32).toNatClampNeg p3) (0 : Int32).toNatClampNeg) ^^^ (-1 : Int32))) (3 : Int32).toNatClampNeg)), (.int (3 : Int32)), (.ref b12)])) (fun _ k => XS.iconst X16.here hx rfl (hb hby at_152) k) ?_
      refine Go.step (g' := (mkF m 154 #[.val (.int p0), .val (.int p1), .val (.int p2), .val (.int p3), .val (.int p4), .val (.long q5), .second, .val (.int cnt), .val (.ref b1), .val (.ref b9), .val (.ref b12), .unset] [(.int (((upd (upd (upd (upd (upd (fun _ => (0 : Int32)) (0 : Int32).toNatClampNeg p0) (1 : Int32).toNatClampNeg p1) (2 : Int32).toNatClampNeg p2) (3 : Int32).toNatClampNeg p3) (0 : Int32).toNatClampNeg (((upd (upd (upd (upd (fun _ => (0 : Int32)) (0 : Int32).toNatClampNeg p0) (1 : Int32).toNatClampNeg p1) (2 : Int32).toNatClampNeg p2) (3 : Int32).toNatClampNeg p3) (0 : Int32).toNatClampNeg) ^^^ (-1 : Int32))) (3 : Int32).toNatClampNeg) ^^^ (-1 : Int32))), (.int (3 : Int32)), (.ref b12)])) (fun _ k => XS.ixor X16.here hx rfl (hb hby at_153) rfl k) ?_
      obtain ⟨T18, h18, lc18, X18, e18, W18, N18, V18, st18⟩ := putAI X16 hx hZ e16 V16 (j := (3 : Int32)) (own_ib (by decide) hc142d138) N16 g_b12 (gf := (mkF m 154 #[.val (.int p0), .val (.int p1), .val (.int p2), .val (.int p3), .val (.int p4), .val (.long q5), .second, .val (.int cnt), .val (.ref b1), .val (.ref b9), .val (.ref b12), .unset] [(.int (((upd (upd (upd (upd (upd (fun _ => (0 : Int32)) (0 : Int32).toNatClampNeg p0) (1 : Int32).toNatClampNeg p1) (2 : Int32).toNatClampNeg p2) (3 : Int32).toNatClampNeg p3) (0 : Int32).toNatClampNeg (((upd (upd (upd (upd (fun _ => (0 : Int32)) (0 : Int32).toNatClampNeg p0) (1 : Int32).toNatClampNeg p1) (2 : Int32).toNatClampNeg p2) (3 : Int32).toNatClampNeg p3) (0 : Int32).toNatClampNeg) ^^^ (-1 : Int32))) (3 : Int32).toNatClampNeg) ^^^ (-1 : Int32))), (.int (3 : Int32)), (.ref b12)])) rfl rfl (hb hby at_154)
      refine Go.step (g' := (mkF m 155 #[.val (.int p0), .val (.int p1), .val (.int p2), .val (.int p3), .val (.int p4), .val (.long q5), .second, .val (.int cnt), .val (.ref b1), .val (.ref b9), .val (.ref b12), .unset] [])) st18 ?_
      have Q19 := (((Xp10_1.keep K12 nin0).other W16 (Or.inl ne_b9_b12)).other W18 (Or.inl ne_b9_b12))
      have Q20 := (((Xp10_2.keep K12 nin0).other W16 (Or.inl ne_b9_b12)).other W18 (Or.inl ne_b9_b12))
      have Q21 := (Nat.le_trans (Nat.le_trans Q14 (Keep.of_wr W16).1) (Keep.of_wr W18).1)
      have Q22 := (((Q11.trans K12 all0).wr W16 (Or.inr sz_b12)).wr W18 (Or.inr sz_b12))
      rw [show (f0_145d138 p0 p1 p2 p3 cnt) = (f0_155d138d154 p0 p1 p2 p3 cnt) from rfl]
      refine Go.step (g' := (mkF m 157 #[.val (.int p0), .val (.int p1), .val (.int p2), .val (.int p3), .val (.int p4), .val (.long q5), .second, .val (.int cnt), .val (.ref b1), .val (.ref b9), .val (.ref b12), .unset] [(.ref b9)])) (fun _ k => XS.aload X18.here hx rfl (hb hby at_155) rfl rfl  k) ?_
      obtain ⟨cq23, kq23, q23a, q23b, q23c⟩ := isOf hZ e18 (((Xp10_0.keep K12).wr W16).wr W18)
      obtain ⟨_, _, ⟨T23, L23, k23, n23⟩, -, X23, ⟨Lc23, hQ23, l23, y23, z23⟩, st23⟩ := X18.virtualBack hx (y := (⟨"com/example/ucs_to_octets/ucstooctets/DecodedText", "codePoints", "()[I"⟩ : MethodName)) (z := (⟨"com/example/ucs_to_octets/ucstooctets/DecodedText", "codePoints", "()[I"⟩ : MethodName)) hown (mvT hZ (hw _ (List.mem_of_getElem? (i := 17) rfl))) (mvT hZ (hw _ (List.mem_of_getElem? (i := 18) rfl))) (notFace_of_selects (args := #[]) (mvT hZ (hw _ (List.mem_of_getElem? (i := 20) rfl)))) (mvT hZ (hw _ (List.mem_of_getElem? (i := 20) rfl))) (mvT hZ (hw _ (List.mem_of_getElem? (i := 19) rfl))) (by decide) (backOf (W := 0) (rm3 l Z a0 hw [] b9 b1 cnt (upd (upd (upd (upd (fun _ => (0 : Int32)) (0 : Int32).toNatClampNeg p0) (1 : Int32).toNatClampNeg p1) (2 : Int32).toNatClampNeg p2) (3 : Int32).toNatClampNeg p3) h18 n0 Q21 Q19 Q20 (Q17.other W18 ne_b1_b12) ((Q13.wr W16).wr W18) hp0 hp1) hZ (hw _ (List.mem_of_getElem? (i := 21) rfl)) (hw _ (List.mem_of_getElem? (i := 4) rfl)) (by decide) (by decide)) q23a q23c (g := (mkF m 157 #[.val (.int p0), .val (.int p1), .val (.int p2), .val (.int p3), .val (.int p4), .val (.long q5), .second, .val (.int cnt), .val (.ref b1), .val (.ref b9), .val (.ref b12), .unset] [(.ref b9)])) rfl (by rw [hml]; rfl) (Steps.refl _) (argsL := []) (rest := []) (lenOf pd_3 rfl) rfl (by show 2 * 0 + _ ≤ _; exact Nat.le_of_eq rfl) (hb hby at_157) (fun _ _ => ⟨rfl, e18, (by decide : ((((0 + 1) + 1) + 0) + 1) + 1 ≤ _), (by decide : ((((0 + 4) + 3) + 0) + 4) + 4 ≤ _)⟩)
      dsimp only [Pt.U, Pt.locs, Pt.cells, Pt.slots] at X23 l23 y23 z23 st23 hQ23
      subst l23 y23 z23
      obtain ⟨b23, rfl, szq23, N23q, K23, V23⟩ := hQ23
      have ne_b1_b23 : b1 ≠ b23 := Nat.ne_of_lt (Nat.lt_of_lt_of_le ((Q13.wr W16).wr W18).lt szq23)
      have ne_b9_b23 : b9 ≠ b23 := Nat.ne_of_lt (Nat.lt_of_lt_of_le (((Xp10_0.keep K12).wr W16).wr W18).lt szq23)
      have ne_b12_b23 : b12 ≠ b23 := Nat.ne_of_lt (Nat.lt_of_lt_of_le V18.lt szq23)
      have g_b23 : n0 ≤ b23 := Nat.le_trans Q21 szq23
      have sz_b23 : h0.size ≤ b23 := Nat.le_trans Q22.1 szq23
      obtain ⟨lc23, X23, N23⟩ := own_pack X23 (Fr.app N18 N23q)
      refine Go.step (g' := (mkF m 160 #[.val (.int p0), .val (.int p1), .val (.int p2), .val (.int p3), .val (.int p4), .val (.long q5), .second, .val (.int cnt), .val (.ref b1), .val (.ref b9), .val (.ref b12), .unset] [(.ref b23)])) (fun _ k => st23.trans k) ?_
      refine Go.step (g' := (mkF m 162 #[.val (.int p0), .val (.int p1), .val (.int p2), .val (.int p3), .val (.int p4), .val (.long q5), .second, .val (.int cnt), .val (.ref b1), .val (.ref b9), .val (.ref b12), .val (.ref b23)] [])) (fun _ k => XS.astore X23.here hx rfl (hb hby at_160) rfl rfl (l' := #[.val (.int p0), .val (.int p1), .val (.int p2), .val (.int p3), .val (.int p4), .val (.long q5), .second, .val (.int cnt), .val (.ref b1), .val (.ref b9), .val (.ref b12), .val (.ref b23)]) rfl k) ?_
      refine Go.step (g' := (mkF m 164 #[.val (.int p0), .val (.int p1), .val (.int p2), .val (.int p3), .val (.int p4), .val (.long q5), .second, .val (.int cnt), .val (.ref b1), .val (.ref b9), .val (.ref b12), .val (.ref b23)] [(.ref b23)])) (fun _ k => XS.aload X23.here hx rfl (hb hby at_162) rfl rfl  k) ?_
      refine Go.step (g' := (mkF m 167 #[.val (.int p0), .val (.int p1), .val (.int p2), .val (.int p3), .val (.int p4), .val (.long q5), .second, .val (.int cnt), .val (.ref b1), .val (.ref b9), .val (.ref b12), .val (.ref b23)] [])) (fun _ k => XS.ifnullNo X23.here hx rfl (hb hby at_164) rfl k) ?_
      rw [show (f0_155d138d154 p0 p1 p2 p3 cnt) = (f0_167d138d154 p0 p1 p2 p3 cnt) from rfl]
      refine Go.step (g' := (mkF m 169 #[.val (.int p0), .val (.int p1), .val (.int p2), .val (.int p3), .val (.int p4), .val (.long q5), .second, .val (.int cnt), .val (.ref b1), .val (.ref b9), .val (.ref b12), .val (.ref b23)] [(.ref b23)])) (fun _ k => XS.aload X23.here hx rfl (hb hby at_167) rfl rfl  k) ?_
      refine Go.step (g' := (mkF m 171 #[.val (.int p0), .val (.int p1), .val (.int p2), .val (.int p3), .val (.int p4), .val (.long q5), .second, .val (.int cnt), .val (.ref b1), .val (.ref b9), .val (.ref b12), .val (.ref b23)] [(.ref b1), (.ref b23)])) (fun _ k => XS.aload X23.here hx rfl (hb hby at_169) rfl rfl  k) ?_
      refine Go.step (g' := (mkF m 174 #[.val (.int p0), .val (.int p1), .val (.int p2), .val (.int p3), .val (.int p4), .val (.long q5), .second, .val (.int cnt), .val (.ref b1), .val (.ref b9), .val (.ref b12), .val (.ref b23)] [])) (fun _ k => Jvm.RoadKit.acmp (g := (mkF m 171 #[.val (.int p0), .val (.int p1), .val (.int p2), .val (.int p3), .val (.int p4), .val (.long q5), .second, .val (.int cnt), .val (.ref b1), .val (.ref b9), .val (.ref b12), .val (.ref b23)] [(.ref b1), (.ref b23)])) X23 hx rfl rfl rfl (pc0 := 171) (pc' := 174) (same := false) rfl (hb hby at_171) rfl (decide_eq_false fun q => (Ne.symm ne_b1_b23 : ¬ (b23 = b1)) (Value.ref.inj q)) (by decide) (by decide) k) ?_
      rw [show (f0_167d138d154 p0 p1 p2 p3 cnt) = (f0_174d138d154 p0 p1 p2 p3 cnt) from rfl]
      refine Go.step (g' := (mkF m 176 #[.val (.int p0), .val (.int p1), .val (.int p2), .val (.int p3), .val (.int p4), .val (.long q5), .second, .val (.int cnt), .val (.ref b1), .val (.ref b9), .val (.ref b12), .val (.ref b23)] [(.ref b23)])) (fun _ k => XS.aload X23.here hx rfl (hb hby at_174) rfl rfl  k) ?_
      refine Go.step (g' := (mkF m 178 #[.val (.int p0), .val (.int p1), .val (.int p2), .val (.int p3), .val (.int p4), .val (.long q5), .second, .val (.int cnt), .val (.ref b1), .val (.ref b9), .val (.ref b12), .val (.ref b23)] [(.ref b12), (.ref b23)])) (fun _ k => XS.aload X23.here hx rfl (hb hby at_176) rfl rfl  k) ?_
      refine Go.step (g' := (mkF m 181 #[.val (.int p0), .val (.int p1), .val (.int p2), .val (.int p3), .val (.int p4), .val (.long q5), .second, .val (.int cnt), .val (.ref b1), .val (.ref b9), .val (.ref b12), .val (.ref b23)] [])) (fun _ k => Jvm.RoadKit.acmp (g := (mkF m 178 #[.val (.int p0), .val (.int p1), .val (.int p2), .val (.int p3), .val (.int p4), .val (.long q5), .second, .val (.int cnt), .val (.ref b1), .val (.ref b9), .val (.ref b12), .val (.ref b23)] [(.ref b12), (.ref b23)])) X23 hx rfl rfl rfl (pc0 := 178) (pc' := 181) (same := false) rfl (hb hby at_178) rfl (decide_eq_false fun q => (Ne.symm ne_b12_b23 : ¬ (b23 = b12)) (Value.ref.inj q)) (by decide) (by decide) k) ?_
      rw [show (f0_174d138d154 p0 p1 p2 p3 cnt) = (f0_181d138d154 p0 p1 p2 p3 cnt) from rfl]
      refine Go.step (g' := (mkF m 183 #[.val (.int p0), .val (.int p1), .val (.int p2), .val (.int p3), .val (.int p4), .val (.long q5), .second, .val (.int cnt), .val (.ref b1), .val (.ref b9), .val (.ref b12), .val (.ref b23)] [(.ref b23)])) (fun _ k => XS.aload X23.here hx rfl (hb hby at_181) rfl rfl  k) ?_
      refine Go.step (g' := (mkF m 184 #[.val (.int p0), .val (.int p1), .val (.int p2), .val (.int p3), .val (.int p4), .val (.long q5), .second, .val (.int cnt), .val (.ref b1), .val (.ref b9), .val (.ref b12), .val (.ref b23)] [(.int cnt)])) (fun _ k => getLen X23 hx hZ rfl V23 (back32 hp0).1 (gf := (mkF m 183 #[.val (.int p0), .val (.int p1), .val (.int p2), .val (.int p3), .val (.int p4), .val (.long q5), .second, .val (.int cnt), .val (.ref b1), .val (.ref b9), .val (.ref b12), .val (.ref b23)] [(.ref b23)])) rfl rfl (hb hby at_183) k) ?_
      refine Go.step (g' := (mkF m 186 #[.val (.int p0), .val (.int p1), .val (.int p2), .val (.int p3), .val (.int p4), .val (.long q5), .second, .val (.int cnt), .val (.ref b1), .val (.ref b9), .val (.ref b12), .val (.ref b23)] [(.int cnt), (.int cnt)])) (fun _ k => XS.iload X23.here hx rfl (hb hby at_184) rfl  k) ?_
      refine Go.step (g' := (mkF m 191 #[.val (.int p0), .val (.int p1), .val (.int p2), .val (.int p3), .val (.int p4), .val (.long q5), .second, .val (.int cnt), .val (.ref b1), .val (.ref b9), .val (.ref b12), .val (.ref b23)] [])) (fun _ k => XS.icmpYes X23.here hx rfl (pc0 := 186) (pc' := 191) rfl (hb hby at_186) rfl (teq (rfl : cnt = cnt)).1 (by decide) (by decide) k) ?_
      rw [show (f0_181d138d154 p0 p1 p2 p3 cnt) = (f0_191d138d154 p0 p1 p2 p3 cnt) from rfl]
      refine Go.step (g' := (mkF m 193 #[.val (.int p0), .val (.int p1), .val (.int p2), .val (.int p3), .val (.int p4), .val (.long q5), .second, .val (.int cnt), .val (.ref b1), .val (.ref b9), .val (.ref b12), .val (.ref b23)] [(.ref b23)])) (fun _ k => XS.aload X23.here hx rfl (hb hby at_191) rfl rfl  k) ?_
      refine Go.step (g' := (mkF m 195 #[.val (.int p0), .val (.int p1), .val (.int p2), .val (.int p3), .val (.int p4), .val (.long q5), .second, .val (.int cnt), .val (.ref b1), .val (.ref b9), .val (.ref b12), .val (.ref b23)] [(.int cnt), (.ref b23)])) (fun _ k => XS.iload X23.here hx rfl (hb hby at_193) rfl  k) ?_
      refine Go.step (g' := (mkF m 196 #[.val (.int p0), .val (.int p1), .val (.int p2), .val (.int p3), .val (.int p4), .val (.long q5), .second, .val (.int cnt), .val (.ref b1), .val (.ref b9), .val (.ref b12), .val (.ref b23)] [(.int p0), (.int cnt), (.ref b23)])) (fun _ k => XS.iloadN X23.here hx rfl (hb hby at_195) rfl  k) ?_
      refine Go.step (g' := (mkF m 197 #[.val (.int p0), .val (.int p1), .val (.int p2), .val (.int p3), .val (.int p4), .val (.long q5), .second, .val (.int cnt), .val (.ref b1), .val (.ref b9), .val (.ref b12), .val (.ref b23)] [(.int p1), (.int p0), (.int cnt), (.ref b23)])) (fun _ k => XS.iloadN X23.here hx rfl (hb hby at_196) rfl  k) ?_
      refine Go.step (g' := (mkF m 198 #[.val (.int p0), .val (.int p1), .val (.int p2), .val (.int p3), .val (.int p4), .val (.long q5), .second, .val (.int cnt), .val (.ref b1), .val (.ref b9), .val (.ref b12), .val (.ref b23)] [(.int p2), (.int p1), (.int p0), (.int cnt), (.ref b23)])) (fun _ k => XS.iloadN X23.here hx rfl (hb hby at_197) rfl  k) ?_
      refine Go.step (g' := (mkF m 199 #[.val (.int p0), .val (.int p1), .val (.int p2), .val (.int p3), .val (.int p4), .val (.long q5), .second, .val (.int cnt), .val (.ref b1), .val (.ref b9), .val (.ref b12), .val (.ref b23)] [(.int p3), (.int p2), (.int p1), (.int p0), (.int cnt), (.ref b23)])) (fun _ k => XS.iloadN X23.here hx rfl (hb hby at_198) rfl  k) ?_
      obtain ⟨_, _, ⟨T24, L24, k24, n24⟩, -, X24, ⟨Lc24, hQ24, l24, y24, z24⟩, st24⟩ := Jvm.LawKit.callS X23 hx (y := (⟨"com/example/ucs_to_octets/ucstooctets/DecodedTextCodePointsPinLaw", "prefixOk", "([IIIIII)Z"⟩ : MethodName)) hown (mvT hZ (hw _ (List.mem_of_getElem? (i := 34) rfl))) (mvT hZ (hw _ (List.mem_of_getElem? (i := 35) rfl))) (mvT hZ (hw _ (List.mem_of_getElem? (i := 36) rfl))) (mvT hZ (hw _ (List.mem_of_getElem? (i := 37) rfl))) (by decide) (backOf (W := 0) (rm6 l Z a0 hw [] b23 cnt p0 p1 p2 p3 (upd (upd (upd (upd (fun _ => (0 : Int32)) (0 : Int32).toNatClampNeg p0) (1 : Int32).toNatClampNeg p1) (2 : Int32).toNatClampNeg p2) (3 : Int32).toNatClampNeg p3) T23.heap V23) hZ (hw _ (List.mem_of_getElem? (i := 37) rfl)) (hw _ (List.mem_of_getElem? (i := 36) rfl)) (by decide) (by decide)) (g := (mkF m 199 #[.val (.int p0), .val (.int p1), .val (.int p2), .val (.int p3), .val (.int p4), .val (.long q5), .second, .val (.int cnt), .val (.ref b1), .val (.ref b9), .val (.ref b12), .val (.ref b23)] [(.int p3), (.int p2), (.int p1), (.int p0), (.int cnt), (.ref b23)])) rfl (by rw [hml]; rfl) (argsL := [(.ref b23), (.int cnt), (.int p0), (.int p1), (.int p2), (.int p3)]) (rest := []) (lenOf pd_4 rfl) rfl (by show 2 * 0 + _ ≤ _; exact Nat.le_of_eq rfl) (hb hby at_199) (fun _ _ => ⟨rfl, rfl, (by decide : (((((0 + 1) + 1) + 0) + 1) + 1) + 0 ≤ _), (by decide : (((((0 + 4) + 3) + 0) + 4) + 4) + 0 ≤ _)⟩)
      dsimp only [Pt.U, Pt.locs, Pt.cells, Pt.slots] at X24 l24 y24 z24 st24 hQ24
      subst l24 y24 z24
      obtain ⟨rfl, rfl, e24⟩ := hQ24
      try rw [List.append_nil] at X24
      refine Go.step (g' := (mkF m 202 #[.val (.int p0), .val (.int p1), .val (.int p2), .val (.int p3), .val (.int p4), .val (.long q5), .second, .val (.int cnt), .val (.ref b1), .val (.ref b9), .val (.ref b12), .val (.ref b23)] [(.int (f6_0 cnt p0 p1 p2 p3 (upd (upd (upd (upd (fun _ => (0 : Int32)) (0 : Int32).toNatClampNeg p0) (1 : Int32).toNatClampNeg p1) (2 : Int32).toNatClampNeg p2) (3 : Int32).toNatClampNeg p3)))])) st24 ?_
      exact Go.retN X24 hx hlk (t := .boolean) Bd.returns (by simp) (hb hby at_202) (by decide) (by decide) ⟨rfl, N23⟩
    · rw [show (f0_139d138 p0 p1 p2 p3 cnt) = (f0_155d138d142 p0 p1 p2 p3 cnt) from if_neg hc142d138]
      refine Go.step (g' := (mkF m 155 #[.val (.int p0), .val (.int p1), .val (.int p2), .val (.int p3), .val (.int p4), .val (.long q5), .second, .val (.int cnt), .val (.ref b1), .val (.ref b9), .val (.ref b12), .unset] [])) (fun _ k => XS.icmpYes X16.here hx rfl (pc0 := 142) (pc' := 155) rfl (hb hby at_142) rfl (flt hc142d138).2.2.2 (by decide) (by decide) k) ?_
      refine Go.step (g' := (mkF m 157 #[.val (.int p0), .val (.int p1), .val (.int p2), .val (.int p3), .val (.int p4), .val (.long q5), .second, .val (.int cnt), .val (.ref b1), .val (.ref b9), .val (.ref b12), .unset] [(.ref b9)])) (fun _ k => XS.aload X16.here hx rfl (hb hby at_155) rfl rfl  k) ?_
      obtain ⟨cq25, kq25, q25a, q25b, q25c⟩ := isOf hZ e16 ((Xp10_0.keep K12).wr W16)
      obtain ⟨_, _, ⟨T25, L25, k25, n25⟩, -, X25, ⟨Lc25, hQ25, l25, y25, z25⟩, st25⟩ := X16.virtualBack hx (y := (⟨"com/example/ucs_to_octets/ucstooctets/DecodedText", "codePoints", "()[I"⟩ : MethodName)) (z := (⟨"com/example/ucs_to_octets/ucstooctets/DecodedText", "codePoints", "()[I"⟩ : MethodName)) hown (mvT hZ (hw _ (List.mem_of_getElem? (i := 17) rfl))) (mvT hZ (hw _ (List.mem_of_getElem? (i := 18) rfl))) (notFace_of_selects (args := #[]) (mvT hZ (hw _ (List.mem_of_getElem? (i := 20) rfl)))) (mvT hZ (hw _ (List.mem_of_getElem? (i := 20) rfl))) (mvT hZ (hw _ (List.mem_of_getElem? (i := 19) rfl))) (by decide) (backOf (W := 0) (rm3 l Z a0 hw [] b9 b1 cnt (upd (upd (upd (upd (fun _ => (0 : Int32)) (0 : Int32).toNatClampNeg p0) (1 : Int32).toNatClampNeg p1) (2 : Int32).toNatClampNeg p2) (3 : Int32).toNatClampNeg p3) h16 n0 (Nat.le_trans Q14 (Keep.of_wr W16).1) ((Xp10_1.keep K12 nin0).other W16 (Or.inl ne_b9_b12)) ((Xp10_2.keep K12 nin0).other W16 (Or.inl ne_b9_b12)) Q17 (Q13.wr W16) hp0 hp1) hZ (hw _ (List.mem_of_getElem? (i := 21) rfl)) (hw _ (List.mem_of_getElem? (i := 4) rfl)) (by decide) (by decide)) q25a q25c (g := (mkF m 157 #[.val (.int p0), .val (.int p1), .val (.int p2), .val (.int p3), .val (.int p4), .val (.long q5), .second, .val (.int cnt), .val (.ref b1), .val (.ref b9), .val (.ref b12), .unset] [(.ref b9)])) rfl (by rw [hml]; rfl) (Steps.refl _) (argsL := []) (rest := []) (lenOf pd_3 rfl) rfl (by show 2 * 0 + _ ≤ _; exact Nat.le_of_eq rfl) (hb hby at_157) (fun _ _ => ⟨rfl, e16, (by decide : ((((0 + 1) + 1) + 0) + 1) + 1 ≤ _), (by decide : ((((0 + 4) + 3) + 0) + 4) + 4 ≤ _)⟩)
      dsimp only [Pt.U, Pt.locs, Pt.cells, Pt.slots] at X25 l25 y25 z25 st25 hQ25
      subst l25 y25 z25
      obtain ⟨b25, rfl, szq25, N25q, K25, V25⟩ := hQ25
      have ne_b1_b25 : b1 ≠ b25 := Nat.ne_of_lt (Nat.lt_of_lt_of_le (Q13.wr W16).lt szq25)
      have ne_b9_b25 : b9 ≠ b25 := Nat.ne_of_lt (Nat.lt_of_lt_of_le ((Xp10_0.keep K12).wr W16).lt szq25)
      have ne_b12_b25 : b12 ≠ b25 := Nat.ne_of_lt (Nat.lt_of_lt_of_le V16.lt szq25)
      have g_b25 : n0 ≤ b25 := Nat.le_trans (Nat.le_trans Q14 (Keep.of_wr W16).1) szq25
      have sz_b25 : h0.size ≤ b25 := Nat.le_trans ((Q11.trans K12 all0).wr W16 (Or.inr sz_b12)).1 szq25
      obtain ⟨lc25, X25, N25⟩ := own_pack X25 (Fr.app N16 N25q)
      have Q26 := (((Xp10_1.keep K12 nin0).other W16 (Or.inl ne_b9_b12)).keep K25 nin0)
      have Q27 := (((Xp10_2.keep K12 nin0).other W16 (Or.inl ne_b9_b12)).keep K25 nin0)
      have Q28 := (((Q11.trans K12 all0).wr W16 (Or.inr sz_b12)).trans K25 all0)
      refine Go.step (g' := (mkF m 160 #[.val (.int p0), .val (.int p1), .val (.int p2), .val (.int p3), .val (.int p4), .val (.long q5), .second, .val (.int cnt), .val (.ref b1), .val (.ref b9), .val (.ref b12), .unset] [(.ref b25)])) (fun _ k => st25.trans k) ?_
      refine Go.step (g' := (mkF m 162 #[.val (.int p0), .val (.int p1), .val (.int p2), .val (.int p3), .val (.int p4), .val (.long q5), .second, .val (.int cnt), .val (.ref b1), .val (.ref b9), .val (.ref b12), .val (.ref b25)] [])) (fun _ k => XS.astore X25.here hx rfl (hb hby at_160) rfl rfl (l' := #[.val (.int p0), .val (.int p1), .val (.int p2), .val (.int p3), .val (.int p4), .val (.long q5), .second, .val (.int cnt), .val (.ref b1), .val (.ref b9), .val (.ref b12), .val (.ref b25)]) rfl k) ?_
      refine Go.step (g' := (mkF m 164 #[.val (.int p0), .val (.int p1), .val (.int p2), .val (.int p3), .val (.int p4), .val (.long q5), .second, .val (.int cnt), .val (.ref b1), .val (.ref b9), .val (.ref b12), .val (.ref b25)] [(.ref b25)])) (fun _ k => XS.aload X25.here hx rfl (hb hby at_162) rfl rfl  k) ?_
      refine Go.step (g' := (mkF m 167 #[.val (.int p0), .val (.int p1), .val (.int p2), .val (.int p3), .val (.int p4), .val (.long q5), .second, .val (.int cnt), .val (.ref b1), .val (.ref b9), .val (.ref b12), .val (.ref b25)] [])) (fun _ k => XS.ifnullNo X25.here hx rfl (hb hby at_164) rfl k) ?_
      rw [show (f0_155d138d142 p0 p1 p2 p3 cnt) = (f0_167d138d142 p0 p1 p2 p3 cnt) from rfl]
      refine Go.step (g' := (mkF m 169 #[.val (.int p0), .val (.int p1), .val (.int p2), .val (.int p3), .val (.int p4), .val (.long q5), .second, .val (.int cnt), .val (.ref b1), .val (.ref b9), .val (.ref b12), .val (.ref b25)] [(.ref b25)])) (fun _ k => XS.aload X25.here hx rfl (hb hby at_167) rfl rfl  k) ?_
      refine Go.step (g' := (mkF m 171 #[.val (.int p0), .val (.int p1), .val (.int p2), .val (.int p3), .val (.int p4), .val (.long q5), .second, .val (.int cnt), .val (.ref b1), .val (.ref b9), .val (.ref b12), .val (.ref b25)] [(.ref b1), (.ref b25)])) (fun _ k => XS.aload X25.here hx rfl (hb hby at_169) rfl rfl  k) ?_
      refine Go.step (g' := (mkF m 174 #[.val (.int p0), .val (.int p1), .val (.int p2), .val (.int p3), .val (.int p4), .val (.long q5), .second, .val (.int cnt), .val (.ref b1), .val (.ref b9), .val (.ref b12), .val (.ref b25)] [])) (fun _ k => Jvm.RoadKit.acmp (g := (mkF m 171 #[.val (.int p0), .val (.int p1), .val (.int p2), .val (.int p3), .val (.int p4), .val (.long q5), .second, .val (.int cnt), .val (.ref b1), .val (.ref b9), .val (.ref b12), .val (.ref b25)] [(.ref b1), (.ref b25)])) X25 hx rfl rfl rfl (pc0 := 171) (pc' := 174) (same := false) rfl (hb hby at_171) rfl (decide_eq_false fun q => (Ne.symm ne_b1_b25 : ¬ (b25 = b1)) (Value.ref.inj q)) (by decide) (by decide) k) ?_
      rw [show (f0_167d138d142 p0 p1 p2 p3 cnt) = (f0_174d138d142 p0 p1 p2 p3 cnt) from rfl]
      refine Go.step (g' := (mkF m 176 #[.val (.int p0), .val (.int p1), .val (.int p2), .val (.int p3), .val (.int p4), .val (.long q5), .second, .val (.int cnt), .val (.ref b1), .val (.ref b9), .val (.ref b12), .val (.ref b25)] [(.ref b25)])) (fun _ k => XS.aload X25.here hx rfl (hb hby at_174) rfl rfl  k) ?_
      refine Go.step (g' := (mkF m 178 #[.val (.int p0), .val (.int p1), .val (.int p2), .val (.int p3), .val (.int p4), .val (.long q5), .second, .val (.int cnt), .val (.ref b1), .val (.ref b9), .val (.ref b12), .val (.ref b25)] [(.ref b12), (.ref b25)])) (fun _ k => XS.aload X25.here hx rfl (hb hby at_176) rfl rfl  k) ?_
      refine Go.step (g' := (mkF m 181 #[.val (.int p0), .val (.int p1), .val (.int p2), .val (.int p3), .val (.int p4), .val (.long q5), .second, .val (.int cnt), .val (.ref b1), .val (.ref b9), .val (.ref b12), .val (.ref b25)] [])) (fun _ k => Jvm.RoadKit.acmp (g := (mkF m 178 #[.val (.int p0), .val (.int p1), .val (.int p2), .val (.int p3), .val (.int p4), .val (.long q5), .second, .val (.int cnt), .val (.ref b1), .val (.ref b9), .val (.ref b12), .val (.ref b25)] [(.ref b12), (.ref b25)])) X25 hx rfl rfl rfl (pc0 := 178) (pc' := 181) (same := false) rfl (hb hby at_178) rfl (decide_eq_false fun q => (Ne.symm ne_b12_b25 : ¬ (b25 = b12)) (Value.ref.inj q)) (by decide) (by decide) k) ?_
      rw [show (f0_174d138d142 p0 p1 p2 p3 cnt) = (f0_181d138d142 p0 p1 p2 p3 cnt) from rfl]
      refine Go.step (g' := (mkF m 183 #[.val (.int p0), .val (.int p1), .val (.int p2), .val (.int p3), .val (.int p4), .val (.long q5), .second, .val (.int cnt), .val (.ref b1), .val (.ref b9), .val (.ref b12), .val (.ref b25)] [(.ref b25)])) (fun _ k => XS.aload X25.here hx rfl (hb hby at_181) rfl rfl  k) ?_
      refine Go.step (g' := (mkF m 184 #[.val (.int p0), .val (.int p1), .val (.int p2), .val (.int p3), .val (.int p4), .val (.long q5), .second, .val (.int cnt), .val (.ref b1), .val (.ref b9), .val (.ref b12), .val (.ref b25)] [(.int cnt)])) (fun _ k => getLen X25 hx hZ rfl V25 (back32 hp0).1 (gf := (mkF m 183 #[.val (.int p0), .val (.int p1), .val (.int p2), .val (.int p3), .val (.int p4), .val (.long q5), .second, .val (.int cnt), .val (.ref b1), .val (.ref b9), .val (.ref b12), .val (.ref b25)] [(.ref b25)])) rfl rfl (hb hby at_183) k) ?_
      refine Go.step (g' := (mkF m 186 #[.val (.int p0), .val (.int p1), .val (.int p2), .val (.int p3), .val (.int p4), .val (.long q5), .second, .val (.int cnt), .val (.ref b1), .val (.ref b9), .val (.ref b12), .val (.ref b25)] [(.int cnt), (.int cnt)])) (fun _ k => XS.iload X25.here hx rfl (hb hby at_184) rfl  k) ?_
      refine Go.step (g' := (mkF m 191 #[.val (.int p0), .val (.int p1), .val (.int p2), .val (.int p3), .val (.int p4), .val (.long q5), .second, .val (.int cnt), .val (.ref b1), .val (.ref b9), .val (.ref b12), .val (.ref b25)] [])) (fun _ k => XS.icmpYes X25.here hx rfl (pc0 := 186) (pc' := 191) rfl (hb hby at_186) rfl (teq (rfl : cnt = cnt)).1 (by decide) (by decide) k) ?_
      rw [show (f0_181d138d142 p0 p1 p2 p3 cnt) = (f0_191d138d142 p0 p1 p2 p3 cnt) from rfl]
      refine Go.step (g' := (mkF m 193 #[.val (.int p0), .val (.int p1), .val (.int p2), .val (.int p3), .val (.int p4), .val (.long q5), .second, .val (.int cnt), .val (.ref b1), .val (.ref b9), .val (.ref b12), .val (.ref b25)] [(.ref b25)])) (fun _ k => XS.aload X25.here hx rfl (hb hby at_191) rfl rfl  k) ?_
      refine Go.step (g' := (mkF m 195 #[.val (.int p0), .val (.int p1), .val (.int p2), .val (.int p3), .val (.int p4), .val (.long q5), .second, .val (.int cnt), .val (.ref b1), .val (.ref b9), .val (.ref b12), .val (.ref b25)] [(.int cnt), (.ref b25)])) (fun _ k => XS.iload X25.here hx rfl (hb hby at_193) rfl  k) ?_
      refine Go.step (g' := (mkF m 196 #[.val (.int p0), .val (.int p1), .val (.int p2), .val (.int p3), .val (.int p4), .val (.long q5), .second, .val (.int cnt), .val (.ref b1), .val (.ref b9), .val (.ref b12), .val (.ref b25)] [(.int p0), (.int cnt), (.ref b25)])) (fun _ k => XS.iloadN X25.here hx rfl (hb hby at_195) rfl  k) ?_
      refine Go.step (g' := (mkF m 197 #[.val (.int p0), .val (.int p1), .val (.int p2), .val (.int p3), .val (.int p4), .val (.long q5), .second, .val (.int cnt), .val (.ref b1), .val (.ref b9), .val (.ref b12), .val (.ref b25)] [(.int p1), (.int p0), (.int cnt), (.ref b25)])) (fun _ k => XS.iloadN X25.here hx rfl (hb hby at_196) rfl  k) ?_
      refine Go.step (g' := (mkF m 198 #[.val (.int p0), .val (.int p1), .val (.int p2), .val (.int p3), .val (.int p4), .val (.long q5), .second, .val (.int cnt), .val (.ref b1), .val (.ref b9), .val (.ref b12), .val (.ref b25)] [(.int p2), (.int p1), (.int p0), (.int cnt), (.ref b25)])) (fun _ k => XS.iloadN X25.here hx rfl (hb hby at_197) rfl  k) ?_
      refine Go.step (g' := (mkF m 199 #[.val (.int p0), .val (.int p1), .val (.int p2), .val (.int p3), .val (.int p4), .val (.long q5), .second, .val (.int cnt), .val (.ref b1), .val (.ref b9), .val (.ref b12), .val (.ref b25)] [(.int p3), (.int p2), (.int p1), (.int p0), (.int cnt), (.ref b25)])) (fun _ k => XS.iloadN X25.here hx rfl (hb hby at_198) rfl  k) ?_
      obtain ⟨_, _, ⟨T29, L29, k29, n29⟩, -, X29, ⟨Lc29, hQ29, l29, y29, z29⟩, st29⟩ := Jvm.LawKit.callS X25 hx (y := (⟨"com/example/ucs_to_octets/ucstooctets/DecodedTextCodePointsPinLaw", "prefixOk", "([IIIIII)Z"⟩ : MethodName)) hown (mvT hZ (hw _ (List.mem_of_getElem? (i := 34) rfl))) (mvT hZ (hw _ (List.mem_of_getElem? (i := 35) rfl))) (mvT hZ (hw _ (List.mem_of_getElem? (i := 36) rfl))) (mvT hZ (hw _ (List.mem_of_getElem? (i := 37) rfl))) (by decide) (backOf (W := 0) (rm6 l Z a0 hw [] b25 cnt p0 p1 p2 p3 (upd (upd (upd (upd (fun _ => (0 : Int32)) (0 : Int32).toNatClampNeg p0) (1 : Int32).toNatClampNeg p1) (2 : Int32).toNatClampNeg p2) (3 : Int32).toNatClampNeg p3) T25.heap V25) hZ (hw _ (List.mem_of_getElem? (i := 37) rfl)) (hw _ (List.mem_of_getElem? (i := 36) rfl)) (by decide) (by decide)) (g := (mkF m 199 #[.val (.int p0), .val (.int p1), .val (.int p2), .val (.int p3), .val (.int p4), .val (.long q5), .second, .val (.int cnt), .val (.ref b1), .val (.ref b9), .val (.ref b12), .val (.ref b25)] [(.int p3), (.int p2), (.int p1), (.int p0), (.int cnt), (.ref b25)])) rfl (by rw [hml]; rfl) (argsL := [(.ref b25), (.int cnt), (.int p0), (.int p1), (.int p2), (.int p3)]) (rest := []) (lenOf pd_4 rfl) rfl (by show 2 * 0 + _ ≤ _; exact Nat.le_of_eq rfl) (hb hby at_199) (fun _ _ => ⟨rfl, rfl, (by decide : (((((0 + 1) + 1) + 0) + 1) + 1) + 0 ≤ _), (by decide : (((((0 + 4) + 3) + 0) + 4) + 4) + 0 ≤ _)⟩)
      dsimp only [Pt.U, Pt.locs, Pt.cells, Pt.slots] at X29 l29 y29 z29 st29 hQ29
      subst l29 y29 z29
      obtain ⟨rfl, rfl, e29⟩ := hQ29
      try rw [List.append_nil] at X29
      refine Go.step (g' := (mkF m 202 #[.val (.int p0), .val (.int p1), .val (.int p2), .val (.int p3), .val (.int p4), .val (.long q5), .second, .val (.int cnt), .val (.ref b1), .val (.ref b9), .val (.ref b12), .val (.ref b25)] [(.int (f6_0 cnt p0 p1 p2 p3 (upd (upd (upd (upd (fun _ => (0 : Int32)) (0 : Int32).toNatClampNeg p0) (1 : Int32).toNatClampNeg p1) (2 : Int32).toNatClampNeg p2) (3 : Int32).toNatClampNeg p3)))])) st29 ?_
      exact Go.retN X29 hx hlk (t := .boolean) Bd.returns (by simp) (hb hby at_202) (by decide) (by decide) ⟨rfl, N25⟩
  · rw [show (f0_124 p0 p1 p2 p3 cnt) = (f0_139d126 p0 p1 p2 p3 cnt) from if_neg hc126]
    refine Go.step (g' := (mkF m 139 #[.val (.int p0), .val (.int p1), .val (.int p2), .val (.int p3), .val (.int p4), .val (.long q5), .second, .val (.int cnt), .val (.ref b1), .val (.ref b9), .val (.ref b12), .unset] [])) (fun _ k => XS.ifYes X15.here hx rfl (pc0 := 126) (pc' := 139) rfl (hb hby at_126) rfl ((if0 _ _).trans (flt hc126).2.2.2) (by decide) (by decide) k) ?_
    refine Go.step (g' := (mkF m 141 #[.val (.int p0), .val (.int p1), .val (.int p2), .val (.int p3), .val (.int p4), .val (.long q5), .second, .val (.int cnt), .val (.ref b1), .val (.ref b9), .val (.ref b12), .unset] [(.int cnt)])) (fun _ k => XS.iload X15.here hx rfl (hb hby at_139) rfl  k) ?_
    refine Go.step (g' := (mkF m 142 #[.val (.int p0), .val (.int p1), .val (.int p2), .val (.int p3), .val (.int p4), .val (.long q5), .second, .val (.int cnt), .val (.ref b1), .val (.ref b9), .val (.ref b12), .unset] [(.int (3 : Int32)), (.int cnt)])) (fun _ k => XS.iconst X15.here hx rfl (hb hby at_141) k) ?_
    by_cases hc142d126 : (3 : Int32) < cnt
    · rw [show (f0_139d126 p0 p1 p2 p3 cnt) = (f0_145d126 p0 p1 p2 p3 cnt) from if_pos hc142d126]
      refine Go.step (g' := (mkF m 145 #[.val (.int p0), .val (.int p1), .val (.int p2), .val (.int p3), .val (.int p4), .val (.long q5), .second, .val (.int cnt), .val (.ref b1), .val (.ref b9), .val (.ref b12), .unset] [])) (fun _ k => XS.icmpNo X15.here hx rfl (hb hby at_142) rfl (tlt hc142d126).2.2.2 k) ?_
      refine Go.step (g' := (mkF m 147 #[.val (.int p0), .val (.int p1), .val (.int p2), .val (.int p3), .val (.int p4), .val (.long q5), .second, .val (.int cnt), .val (.ref b1), .val (.ref b9), .val (.ref b12), .unset] [(.ref b12)])) (fun _ k => XS.aload X15.here hx rfl (hb hby at_145) rfl rfl  k) ?_
      refine Go.step (g' := (mkF m 148 #[.val (.int p0), .val (.int p1), .val (.int p2), .val (.int p3), .val (.int p4), .val (.long q5), .second, .val (.int cnt), .val (.ref b1), .val (.ref b9), .val (.ref b12), .unset] [(.int (3 : Int32)), (.ref b12)])) (fun _ k => XS.iconst X15.here hx rfl (hb hby at_147) k) ?_
      refine Go.step (g' := (mkF m 150 #[.val (.int p0), .val (.int p1), .val (.int p2), .val (.int p3), .val (.int p4), .val (.long q5), .second, .val (.int cnt), .val (.ref b1), .val (.ref b9), .val (.ref b12), .unset] [(.ref b12), (.int (3 : Int32)), (.ref b12)])) (fun _ k => XS.aload X15.here hx rfl (hb hby at_148) rfl rfl  k) ?_
      refine Go.step (g' := (mkF m 151 #[.val (.int p0), .val (.int p1), .val (.int p2), .val (.int p3), .val (.int p4), .val (.long q5), .second, .val (.int cnt), .val (.ref b1), .val (.ref b9), .val (.ref b12), .unset] [(.int (3 : Int32)), (.ref b12), (.int (3 : Int32)), (.ref b12)])) (fun _ k => XS.iconst X15.here hx rfl (hb hby at_150) k) ?_
      refine Go.step (g' := (mkF m 152 #[.val (.int p0), .val (.int p1), .val (.int p2), .val (.int p3), .val (.int p4), .val (.long q5), .second, .val (.int cnt), .val (.ref b1), .val (.ref b9), .val (.ref b12), .unset] [(.int ((upd (upd (upd (upd (fun _ => (0 : Int32)) (0 : Int32).toNatClampNeg p0) (1 : Int32).toNatClampNeg p1) (2 : Int32).toNatClampNeg p2) (3 : Int32).toNatClampNeg p3) (3 : Int32).toNatClampNeg)), (.int (3 : Int32)), (.ref b12)])) (fun _ k => getAI X15 hx hZ e15 V12 (j := (3 : Int32)) (own_ib (by decide) hc142d126) (gf := (mkF m 151 #[.val (.int p0), .val (.int p1), .val (.int p2), .val (.int p3), .val (.int p4), .val (.long q5), .second, .val (.int cnt), .val (.ref b1), .val (.ref b9), .val (.ref b12), .unset] [(.int (3 : Int32)), (.ref b12), (.int (3 : Int32)), (.ref b12)])) rfl rfl (hb hby at_151) k) ?_
      refine Go.step (g' := (mkF m 153 #[.val (.int p0), .val (.int p1), .val (.int p2), .val (.int p3), .val (.int p4), .val (.long q5), .second, .val (.int cnt), .val (.ref b1), .val (.ref b9), .val (.ref b12), .unset] [(.int (-1 : Int32)), (.int ((upd (upd (upd (upd (fun _ => (0 : Int32)) (0 : Int32).toNatClampNeg p0) (1 : Int32).toNatClampNeg p1) (2 : Int32).toNatClampNeg p2) (3 : Int32).toNatClampNeg p3) (3 : Int32).toNatClampNeg)), (.int (3 : Int32)), (.ref b12)])) (fun _ k => XS.iconst X15.here hx rfl (hb hby at_152) k) ?_
      refine Go.step (g' := (mkF m 154 #[.val (.int p0), .val (.int p1), .val (.int p2), .val (.int p3), .val (.int p4), .val (.long q5), .second, .val (.int cnt), .val (.ref b1), .val (.ref b9), .val (.ref b12), .unset] [(.int (((upd (upd (upd (upd (fun _ => (0 : Int32)) (0 : Int32).toNatClampNeg p0) (1 : Int32).toNatClampNeg p1) (2 : Int32).toNatClampNeg p2) (3 : Int32).toNatClampNeg p3) (3 : Int32).toNatClampNeg) ^^^ (-1 : Int32))), (.int (3 : Int32)), (.ref b12)])) (fun _ k => XS.ixor X15.here hx rfl (hb hby at_153) rfl k) ?_
      obtain ⟨T30, h30, lc30, X30, e30, W30, N30, V30, st30⟩ := putAI X15 hx hZ e15 V12 (j := (3 : Int32)) (own_ib (by decide) hc142d126) N12 g_b12 (gf := (mkF m 154 #[.val (.int p0), .val (.int p1), .val (.int p2), .val (.int p3), .val (.int p4), .val (.long q5), .second, .val (.int cnt), .val (.ref b1), .val (.ref b9), .val (.ref b12), .unset] [(.int (((upd (upd (upd (upd (fun _ => (0 : Int32)) (0 : Int32).toNatClampNeg p0) (1 : Int32).toNatClampNeg p1) (2 : Int32).toNatClampNeg p2) (3 : Int32).toNatClampNeg p3) (3 : Int32).toNatClampNeg) ^^^ (-1 : Int32))), (.int (3 : Int32)), (.ref b12)])) rfl rfl (hb hby at_154)
      refine Go.step (g' := (mkF m 155 #[.val (.int p0), .val (.int p1), .val (.int p2), .val (.int p3), .val (.int p4), .val (.long q5), .second, .val (.int cnt), .val (.ref b1), .val (.ref b9), .val (.ref b12), .unset] [])) st30 ?_
      have Q31 := ((((V7.ext E9).keep K10 (ninS ne_b1_b9 nin0)).keep K12 nin0).other W30 ne_b1_b12)
      rw [show (f0_145d126 p0 p1 p2 p3 cnt) = (f0_155d126d154 p0 p1 p2 p3 cnt) from rfl]
      refine Go.step (g' := (mkF m 157 #[.val (.int p0), .val (.int p1), .val (.int p2), .val (.int p3), .val (.int p4), .val (.long q5), .second, .val (.int cnt), .val (.ref b1), .val (.ref b9), .val (.ref b12), .unset] [(.ref b9)])) (fun _ k => XS.aload X30.here hx rfl (hb hby at_155) rfl rfl  k) ?_
      obtain ⟨cq32, kq32, q32a, q32b, q32c⟩ := isOf hZ e30 ((Xp10_0.keep K12).wr W30)
      obtain ⟨_, _, ⟨T32, L32, k32, n32⟩, -, X32, ⟨Lc32, hQ32, l32, y32, z32⟩, st32⟩ := X30.virtualBack hx (y := (⟨"com/example/ucs_to_octets/ucstooctets/DecodedText", "codePoints", "()[I"⟩ : MethodName)) (z := (⟨"com/example/ucs_to_octets/ucstooctets/DecodedText", "codePoints", "()[I"⟩ : MethodName)) hown (mvT hZ (hw _ (List.mem_of_getElem? (i := 17) rfl))) (mvT hZ (hw _ (List.mem_of_getElem? (i := 18) rfl))) (notFace_of_selects (args := #[]) (mvT hZ (hw _ (List.mem_of_getElem? (i := 20) rfl)))) (mvT hZ (hw _ (List.mem_of_getElem? (i := 20) rfl))) (mvT hZ (hw _ (List.mem_of_getElem? (i := 19) rfl))) (by decide) (backOf (W := 0) (rm3 l Z a0 hw [] b9 b1 cnt (upd (upd (upd (upd (fun _ => (0 : Int32)) (0 : Int32).toNatClampNeg p0) (1 : Int32).toNatClampNeg p1) (2 : Int32).toNatClampNeg p2) (3 : Int32).toNatClampNeg p3) h30 n0 (Nat.le_trans Q14 (Keep.of_wr W30).1) ((Xp10_1.keep K12 nin0).other W30 (Or.inl ne_b9_b12)) ((Xp10_2.keep K12 nin0).other W30 (Or.inl ne_b9_b12)) Q31 (Q13.wr W30) hp0 hp1) hZ (hw _ (List.mem_of_getElem? (i := 21) rfl)) (hw _ (List.mem_of_getElem? (i := 4) rfl)) (by decide) (by decide)) q32a q32c (g := (mkF m 157 #[.val (.int p0), .val (.int p1), .val (.int p2), .val (.int p3), .val (.int p4), .val (.long q5), .second, .val (.int cnt), .val (.ref b1), .val (.ref b9), .val (.ref b12), .unset] [(.ref b9)])) rfl (by rw [hml]; rfl) (Steps.refl _) (argsL := []) (rest := []) (lenOf pd_3 rfl) rfl (by show 2 * 0 + _ ≤ _; exact Nat.le_of_eq rfl) (hb hby at_157) (fun _ _ => ⟨rfl, e30, (by decide : ((((0 + 1) + 1) + 0) + 1) + 1 ≤ _), (by decide : ((((0 + 4) + 3) + 0) + 4) + 4 ≤ _)⟩)
      dsimp only [Pt.U, Pt.locs, Pt.cells, Pt.slots] at X32 l32 y32 z32 st32 hQ32
      subst l32 y32 z32
      obtain ⟨b32, rfl, szq32, N32q, K32, V32⟩ := hQ32
      have ne_b1_b32 : b1 ≠ b32 := Nat.ne_of_lt (Nat.lt_of_lt_of_le (Q13.wr W30).lt szq32)
      have ne_b9_b32 : b9 ≠ b32 := Nat.ne_of_lt (Nat.lt_of_lt_of_le ((Xp10_0.keep K12).wr W30).lt szq32)
      have ne_b12_b32 : b12 ≠ b32 := Nat.ne_of_lt (Nat.lt_of_lt_of_le V30.lt szq32)
      have g_b32 : n0 ≤ b32 := Nat.le_trans (Nat.le_trans Q14 (Keep.of_wr W30).1) szq32
      have sz_b32 : h0.size ≤ b32 := Nat.le_trans ((Q11.trans K12 all0).wr W30 (Or.inr sz_b12)).1 szq32
      obtain ⟨lc32, X32, N32⟩ := own_pack X32 (Fr.app N30 N32q)
      have Q33 := (((Xp10_1.keep K12 nin0).other W30 (Or.inl ne_b9_b12)).keep K32 nin0)
      have Q34 := (((Xp10_2.keep K12 nin0).other W30 (Or.inl ne_b9_b12)).keep K32 nin0)
      have Q35 := (((Q11.trans K12 all0).wr W30 (Or.inr sz_b12)).trans K32 all0)
      refine Go.step (g' := (mkF m 160 #[.val (.int p0), .val (.int p1), .val (.int p2), .val (.int p3), .val (.int p4), .val (.long q5), .second, .val (.int cnt), .val (.ref b1), .val (.ref b9), .val (.ref b12), .unset] [(.ref b32)])) (fun _ k => st32.trans k) ?_
      refine Go.step (g' := (mkF m 162 #[.val (.int p0), .val (.int p1), .val (.int p2), .val (.int p3), .val (.int p4), .val (.long q5), .second, .val (.int cnt), .val (.ref b1), .val (.ref b9), .val (.ref b12), .val (.ref b32)] [])) (fun _ k => XS.astore X32.here hx rfl (hb hby at_160) rfl rfl (l' := #[.val (.int p0), .val (.int p1), .val (.int p2), .val (.int p3), .val (.int p4), .val (.long q5), .second, .val (.int cnt), .val (.ref b1), .val (.ref b9), .val (.ref b12), .val (.ref b32)]) rfl k) ?_
      refine Go.step (g' := (mkF m 164 #[.val (.int p0), .val (.int p1), .val (.int p2), .val (.int p3), .val (.int p4), .val (.long q5), .second, .val (.int cnt), .val (.ref b1), .val (.ref b9), .val (.ref b12), .val (.ref b32)] [(.ref b32)])) (fun _ k => XS.aload X32.here hx rfl (hb hby at_162) rfl rfl  k) ?_
      refine Go.step (g' := (mkF m 167 #[.val (.int p0), .val (.int p1), .val (.int p2), .val (.int p3), .val (.int p4), .val (.long q5), .second, .val (.int cnt), .val (.ref b1), .val (.ref b9), .val (.ref b12), .val (.ref b32)] [])) (fun _ k => XS.ifnullNo X32.here hx rfl (hb hby at_164) rfl k) ?_
      rw [show (f0_155d126d154 p0 p1 p2 p3 cnt) = (f0_167d126d154 p0 p1 p2 p3 cnt) from rfl]
      refine Go.step (g' := (mkF m 169 #[.val (.int p0), .val (.int p1), .val (.int p2), .val (.int p3), .val (.int p4), .val (.long q5), .second, .val (.int cnt), .val (.ref b1), .val (.ref b9), .val (.ref b12), .val (.ref b32)] [(.ref b32)])) (fun _ k => XS.aload X32.here hx rfl (hb hby at_167) rfl rfl  k) ?_
      refine Go.step (g' := (mkF m 171 #[.val (.int p0), .val (.int p1), .val (.int p2), .val (.int p3), .val (.int p4), .val (.long q5), .second, .val (.int cnt), .val (.ref b1), .val (.ref b9), .val (.ref b12), .val (.ref b32)] [(.ref b1), (.ref b32)])) (fun _ k => XS.aload X32.here hx rfl (hb hby at_169) rfl rfl  k) ?_
      refine Go.step (g' := (mkF m 174 #[.val (.int p0), .val (.int p1), .val (.int p2), .val (.int p3), .val (.int p4), .val (.long q5), .second, .val (.int cnt), .val (.ref b1), .val (.ref b9), .val (.ref b12), .val (.ref b32)] [])) (fun _ k => Jvm.RoadKit.acmp (g := (mkF m 171 #[.val (.int p0), .val (.int p1), .val (.int p2), .val (.int p3), .val (.int p4), .val (.long q5), .second, .val (.int cnt), .val (.ref b1), .val (.ref b9), .val (.ref b12), .val (.ref b32)] [(.ref b1), (.ref b32)])) X32 hx rfl rfl rfl (pc0 := 171) (pc' := 174) (same := false) rfl (hb hby at_171) rfl (decide_eq_false fun q => (Ne.symm ne_b1_b32 : ¬ (b32 = b1)) (Value.ref.inj q)) (by decide) (by decide) k) ?_
      rw [show (f0_167d126d154 p0 p1 p2 p3 cnt) = (f0_174d126d154 p0 p1 p2 p3 cnt) from rfl]
      refine Go.step (g' := (mkF m 176 #[.val (.int p0), .val (.int p1), .val (.int p2), .val (.int p3), .val (.int p4), .val (.long q5), .second, .val (.int cnt), .val (.ref b1), .val (.ref b9), .val (.ref b12), .val (.ref b32)] [(.ref b32)])) (fun _ k => XS.aload X32.here hx rfl (hb hby at_174) rfl rfl  k) ?_
      refine Go.step (g' := (mkF m 178 #[.val (.int p0), .val (.int p1), .val (.int p2), .val (.int p3), .val (.int p4), .val (.long q5), .second, .val (.int cnt), .val (.ref b1), .val (.ref b9), .val (.ref b12), .val (.ref b32)] [(.ref b12), (.ref b32)])) (fun _ k => XS.aload X32.here hx rfl (hb hby at_176) rfl rfl  k) ?_
      refine Go.step (g' := (mkF m 181 #[.val (.int p0), .val (.int p1), .val (.int p2), .val (.int p3), .val (.int p4), .val (.long q5), .second, .val (.int cnt), .val (.ref b1), .val (.ref b9), .val (.ref b12), .val (.ref b32)] [])) (fun _ k => Jvm.RoadKit.acmp (g := (mkF m 178 #[.val (.int p0), .val (.int p1), .val (.int p2), .val (.int p3), .val (.int p4), .val (.long q5), .second, .val (.int cnt), .val (.ref b1), .val (.ref b9), .val (.ref b12), .val (.ref b32)] [(.ref b12), (.ref b32)])) X32 hx rfl rfl rfl (pc0 := 178) (pc' := 181) (same := false) rfl (hb hby at_178) rfl (decide_eq_false fun q => (Ne.symm ne_b12_b32 : ¬ (b32 = b12)) (Value.ref.inj q)) (by decide) (by decide) k) ?_
      rw [show (f0_174d126d154 p0 p1 p2 p3 cnt) = (f0_181d126d154 p0 p1 p2 p3 cnt) from rfl]
      refine Go.step (g' := (mkF m 183 #[.val (.int p0), .val (.int p1), .val (.int p2), .val (.int p3), .val (.int p4), .val (.long q5), .second, .val (.int cnt), .val (.ref b1), .val (.ref b9), .val (.ref b12), .val (.ref b32)] [(.ref b32)])) (fun _ k => XS.aload X32.here hx rfl (hb hby at_181) rfl rfl  k) ?_
      refine Go.step (g' := (mkF m 184 #[.val (.int p0), .val (.int p1), .val (.int p2), .val (.int p3), .val (.int p4), .val (.long q5), .second, .val (.int cnt), .val (.ref b1), .val (.ref b9), .val (.ref b12), .val (.ref b32)] [(.int cnt)])) (fun _ k => getLen X32 hx hZ rfl V32 (back32 hp0).1 (gf := (mkF m 183 #[.val (.int p0), .val (.int p1), .val (.int p2), .val (.int p3), .val (.int p4), .val (.long q5), .second, .val (.int cnt), .val (.ref b1), .val (.ref b9), .val (.ref b12), .val (.ref b32)] [(.ref b32)])) rfl rfl (hb hby at_183) k) ?_
      refine Go.step (g' := (mkF m 186 #[.val (.int p0), .val (.int p1), .val (.int p2), .val (.int p3), .val (.int p4), .val (.long q5), .second, .val (.int cnt), .val (.ref b1), .val (.ref b9), .val (.ref b12), .val (.ref b32)] [(.int cnt), (.int cnt)])) (fun _ k => XS.iload X32.here hx rfl (hb hby at_184) rfl  k) ?_
      refine Go.step (g' := (mkF m 191 #[.val (.int p0), .val (.int p1), .val (.int p2), .val (.int p3), .val (.int p4), .val (.long q5), .second, .val (.int cnt), .val (.ref b1), .val (.ref b9), .val (.ref b12), .val (.ref b32)] [])) (fun _ k => XS.icmpYes X32.here hx rfl (pc0 := 186) (pc' := 191) rfl (hb hby at_186) rfl (teq (rfl : cnt = cnt)).1 (by decide) (by decide) k) ?_
      rw [show (f0_181d126d154 p0 p1 p2 p3 cnt) = (f0_191d126d154 p0 p1 p2 p3 cnt) from rfl]
      refine Go.step (g' := (mkF m 193 #[.val (.int p0), .val (.int p1), .val (.int p2), .val (.int p3), .val (.int p4), .val (.long q5), .second, .val (.int cnt), .val (.ref b1), .val (.ref b9), .val (.ref b12), .val (.ref b32)] [(.ref b32)])) (fun _ k => XS.aload X32.here hx rfl (hb hby at_191) rfl rfl  k) ?_
      refine Go.step (g' := (mkF m 195 #[.val (.int p0), .val (.int p1), .val (.int p2), .val (.int p3), .val (.int p4), .val (.long q5), .second, .val (.int cnt), .val (.ref b1), .val (.ref b9), .val (.ref b12), .val (.ref b32)] [(.int cnt), (.ref b32)])) (fun _ k => XS.iload X32.here hx rfl (hb hby at_193) rfl  k) ?_
      refine Go.step (g' := (mkF m 196 #[.val (.int p0), .val (.int p1), .val (.int p2), .val (.int p3), .val (.int p4), .val (.long q5), .second, .val (.int cnt), .val (.ref b1), .val (.ref b9), .val (.ref b12), .val (.ref b32)] [(.int p0), (.int cnt), (.ref b32)])) (fun _ k => XS.iloadN X32.here hx rfl (hb hby at_195) rfl  k) ?_
      refine Go.step (g' := (mkF m 197 #[.val (.int p0), .val (.int p1), .val (.int p2), .val (.int p3), .val (.int p4), .val (.long q5), .second, .val (.int cnt), .val (.ref b1), .val (.ref b9), .val (.ref b12), .val (.ref b32)] [(.int p1), (.int p0), (.int cnt), (.ref b32)])) (fun _ k => XS.iloadN X32.here hx rfl (hb hby at_196) rfl  k) ?_
      refine Go.step (g' := (mkF m 198 #[.val (.int p0), .val (.int p1), .val (.int p2), .val (.int p3), .val (.int p4), .val (.long q5), .second, .val (.int cnt), .val (.ref b1), .val (.ref b9), .val (.ref b12), .val (.ref b32)] [(.int p2), (.int p1), (.int p0), (.int cnt), (.ref b32)])) (fun _ k => XS.iloadN X32.here hx rfl (hb hby at_197) rfl  k) ?_
      refine Go.step (g' := (mkF m 199 #[.val (.int p0), .val (.int p1), .val (.int p2), .val (.int p3), .val (.int p4), .val (.long q5), .second, .val (.int cnt), .val (.ref b1), .val (.ref b9), .val (.ref b12), .val (.ref b32)] [(.int p3), (.int p2), (.int p1), (.int p0), (.int cnt), (.ref b32)])) (fun _ k => XS.iloadN X32.here hx rfl (hb hby at_198) rfl  k) ?_
      obtain ⟨_, _, ⟨T36, L36, k36, n36⟩, -, X36, ⟨Lc36, hQ36, l36, y36, z36⟩, st36⟩ := Jvm.LawKit.callS X32 hx (y := (⟨"com/example/ucs_to_octets/ucstooctets/DecodedTextCodePointsPinLaw", "prefixOk", "([IIIIII)Z"⟩ : MethodName)) hown (mvT hZ (hw _ (List.mem_of_getElem? (i := 34) rfl))) (mvT hZ (hw _ (List.mem_of_getElem? (i := 35) rfl))) (mvT hZ (hw _ (List.mem_of_getElem? (i := 36) rfl))) (mvT hZ (hw _ (List.mem_of_getElem? (i := 37) rfl))) (by decide) (backOf (W := 0) (rm6 l Z a0 hw [] b32 cnt p0 p1 p2 p3 (upd (upd (upd (upd (fun _ => (0 : Int32)) (0 : Int32).toNatClampNeg p0) (1 : Int32).toNatClampNeg p1) (2 : Int32).toNatClampNeg p2) (3 : Int32).toNatClampNeg p3) T32.heap V32) hZ (hw _ (List.mem_of_getElem? (i := 37) rfl)) (hw _ (List.mem_of_getElem? (i := 36) rfl)) (by decide) (by decide)) (g := (mkF m 199 #[.val (.int p0), .val (.int p1), .val (.int p2), .val (.int p3), .val (.int p4), .val (.long q5), .second, .val (.int cnt), .val (.ref b1), .val (.ref b9), .val (.ref b12), .val (.ref b32)] [(.int p3), (.int p2), (.int p1), (.int p0), (.int cnt), (.ref b32)])) rfl (by rw [hml]; rfl) (argsL := [(.ref b32), (.int cnt), (.int p0), (.int p1), (.int p2), (.int p3)]) (rest := []) (lenOf pd_4 rfl) rfl (by show 2 * 0 + _ ≤ _; exact Nat.le_of_eq rfl) (hb hby at_199) (fun _ _ => ⟨rfl, rfl, (by decide : (((((0 + 1) + 1) + 0) + 1) + 1) + 0 ≤ _), (by decide : (((((0 + 4) + 3) + 0) + 4) + 4) + 0 ≤ _)⟩)
      dsimp only [Pt.U, Pt.locs, Pt.cells, Pt.slots] at X36 l36 y36 z36 st36 hQ36
      subst l36 y36 z36
      obtain ⟨rfl, rfl, e36⟩ := hQ36
      try rw [List.append_nil] at X36
      refine Go.step (g' := (mkF m 202 #[.val (.int p0), .val (.int p1), .val (.int p2), .val (.int p3), .val (.int p4), .val (.long q5), .second, .val (.int cnt), .val (.ref b1), .val (.ref b9), .val (.ref b12), .val (.ref b32)] [(.int (f6_0 cnt p0 p1 p2 p3 (upd (upd (upd (upd (fun _ => (0 : Int32)) (0 : Int32).toNatClampNeg p0) (1 : Int32).toNatClampNeg p1) (2 : Int32).toNatClampNeg p2) (3 : Int32).toNatClampNeg p3)))])) st36 ?_
      exact Go.retN X36 hx hlk (t := .boolean) Bd.returns (by simp) (hb hby at_202) (by decide) (by decide) ⟨rfl, N32⟩
    · rw [show (f0_139d126 p0 p1 p2 p3 cnt) = (f0_155d126d142 p0 p1 p2 p3 cnt) from if_neg hc142d126]
      refine Go.step (g' := (mkF m 155 #[.val (.int p0), .val (.int p1), .val (.int p2), .val (.int p3), .val (.int p4), .val (.long q5), .second, .val (.int cnt), .val (.ref b1), .val (.ref b9), .val (.ref b12), .unset] [])) (fun _ k => XS.icmpYes X15.here hx rfl (pc0 := 142) (pc' := 155) rfl (hb hby at_142) rfl (flt hc142d126).2.2.2 (by decide) (by decide) k) ?_
      refine Go.step (g' := (mkF m 157 #[.val (.int p0), .val (.int p1), .val (.int p2), .val (.int p3), .val (.int p4), .val (.long q5), .second, .val (.int cnt), .val (.ref b1), .val (.ref b9), .val (.ref b12), .unset] [(.ref b9)])) (fun _ k => XS.aload X15.here hx rfl (hb hby at_155) rfl rfl  k) ?_
      obtain ⟨cq37, kq37, q37a, q37b, q37c⟩ := isOf hZ e15 (Xp10_0.keep K12)
      obtain ⟨_, _, ⟨T37, L37, k37, n37⟩, -, X37, ⟨Lc37, hQ37, l37, y37, z37⟩, st37⟩ := X15.virtualBack hx (y := (⟨"com/example/ucs_to_octets/ucstooctets/DecodedText", "codePoints", "()[I"⟩ : MethodName)) (z := (⟨"com/example/ucs_to_octets/ucstooctets/DecodedText", "codePoints", "()[I"⟩ : MethodName)) hown (mvT hZ (hw _ (List.mem_of_getElem? (i := 17) rfl))) (mvT hZ (hw _ (List.mem_of_getElem? (i := 18) rfl))) (notFace_of_selects (args := #[]) (mvT hZ (hw _ (List.mem_of_getElem? (i := 20) rfl)))) (mvT hZ (hw _ (List.mem_of_getElem? (i := 20) rfl))) (mvT hZ (hw _ (List.mem_of_getElem? (i := 19) rfl))) (by decide) (backOf (W := 0) (rm3 l Z a0 hw [] b9 b1 cnt (upd (upd (upd (upd (fun _ => (0 : Int32)) (0 : Int32).toNatClampNeg p0) (1 : Int32).toNatClampNeg p1) (2 : Int32).toNatClampNeg p2) (3 : Int32).toNatClampNeg p3) T12.heap n0 Q14 (Xp10_1.keep K12 nin0) (Xp10_2.keep K12 nin0) (((V7.ext E9).keep K10 (ninS ne_b1_b9 nin0)).keep K12 nin0) Q13 hp0 hp1) hZ (hw _ (List.mem_of_getElem? (i := 21) rfl)) (hw _ (List.mem_of_getElem? (i := 4) rfl)) (by decide) (by decide)) q37a q37c (g := (mkF m 157 #[.val (.int p0), .val (.int p1), .val (.int p2), .val (.int p3), .val (.int p4), .val (.long q5), .second, .val (.int cnt), .val (.ref b1), .val (.ref b9), .val (.ref b12), .unset] [(.ref b9)])) rfl (by rw [hml]; rfl) (Steps.refl _) (argsL := []) (rest := []) (lenOf pd_3 rfl) rfl (by show 2 * 0 + _ ≤ _; exact Nat.le_of_eq rfl) (hb hby at_157) (fun _ _ => ⟨rfl, e15, (by decide : ((((0 + 1) + 1) + 0) + 1) + 1 ≤ _), (by decide : ((((0 + 4) + 3) + 0) + 4) + 4 ≤ _)⟩)
      dsimp only [Pt.U, Pt.locs, Pt.cells, Pt.slots] at X37 l37 y37 z37 st37 hQ37
      subst l37 y37 z37
      obtain ⟨b37, rfl, szq37, N37q, K37, V37⟩ := hQ37
      have ne_b1_b37 : b1 ≠ b37 := Nat.ne_of_lt (Nat.lt_of_lt_of_le Q13.lt szq37)
      have ne_b9_b37 : b9 ≠ b37 := Nat.ne_of_lt (Nat.lt_of_lt_of_le (Xp10_0.keep K12).lt szq37)
      have ne_b12_b37 : b12 ≠ b37 := Nat.ne_of_lt (Nat.lt_of_lt_of_le V12.lt szq37)
      have g_b37 : n0 ≤ b37 := Nat.le_trans Q14 szq37
      have sz_b37 : h0.size ≤ b37 := Nat.le_trans (Q11.trans K12 all0).1 szq37
      obtain ⟨lc37, X37, N37⟩ := own_pack X37 (Fr.app N12 N37q)
      have Q38 := ((((V7.ext E9).keep K10 (ninS ne_b1_b9 nin0)).keep K12 nin0).keep K37 nin0)
      refine Go.step (g' := (mkF m 160 #[.val (.int p0), .val (.int p1), .val (.int p2), .val (.int p3), .val (.int p4), .val (.long q5), .second, .val (.int cnt), .val (.ref b1), .val (.ref b9), .val (.ref b12), .unset] [(.ref b37)])) (fun _ k => st37.trans k) ?_
      refine Go.step (g' := (mkF m 162 #[.val (.int p0), .val (.int p1), .val (.int p2), .val (.int p3), .val (.int p4), .val (.long q5), .second, .val (.int cnt), .val (.ref b1), .val (.ref b9), .val (.ref b12), .val (.ref b37)] [])) (fun _ k => XS.astore X37.here hx rfl (hb hby at_160) rfl rfl (l' := #[.val (.int p0), .val (.int p1), .val (.int p2), .val (.int p3), .val (.int p4), .val (.long q5), .second, .val (.int cnt), .val (.ref b1), .val (.ref b9), .val (.ref b12), .val (.ref b37)]) rfl k) ?_
      refine Go.step (g' := (mkF m 164 #[.val (.int p0), .val (.int p1), .val (.int p2), .val (.int p3), .val (.int p4), .val (.long q5), .second, .val (.int cnt), .val (.ref b1), .val (.ref b9), .val (.ref b12), .val (.ref b37)] [(.ref b37)])) (fun _ k => XS.aload X37.here hx rfl (hb hby at_162) rfl rfl  k) ?_
      refine Go.step (g' := (mkF m 167 #[.val (.int p0), .val (.int p1), .val (.int p2), .val (.int p3), .val (.int p4), .val (.long q5), .second, .val (.int cnt), .val (.ref b1), .val (.ref b9), .val (.ref b12), .val (.ref b37)] [])) (fun _ k => XS.ifnullNo X37.here hx rfl (hb hby at_164) rfl k) ?_
      rw [show (f0_155d126d142 p0 p1 p2 p3 cnt) = (f0_167d126d142 p0 p1 p2 p3 cnt) from rfl]
      refine Go.step (g' := (mkF m 169 #[.val (.int p0), .val (.int p1), .val (.int p2), .val (.int p3), .val (.int p4), .val (.long q5), .second, .val (.int cnt), .val (.ref b1), .val (.ref b9), .val (.ref b12), .val (.ref b37)] [(.ref b37)])) (fun _ k => XS.aload X37.here hx rfl (hb hby at_167) rfl rfl  k) ?_
      refine Go.step (g' := (mkF m 171 #[.val (.int p0), .val (.int p1), .val (.int p2), .val (.int p3), .val (.int p4), .val (.long q5), .second, .val (.int cnt), .val (.ref b1), .val (.ref b9), .val (.ref b12), .val (.ref b37)] [(.ref b1), (.ref b37)])) (fun _ k => XS.aload X37.here hx rfl (hb hby at_169) rfl rfl  k) ?_
      refine Go.step (g' := (mkF m 174 #[.val (.int p0), .val (.int p1), .val (.int p2), .val (.int p3), .val (.int p4), .val (.long q5), .second, .val (.int cnt), .val (.ref b1), .val (.ref b9), .val (.ref b12), .val (.ref b37)] [])) (fun _ k => Jvm.RoadKit.acmp (g := (mkF m 171 #[.val (.int p0), .val (.int p1), .val (.int p2), .val (.int p3), .val (.int p4), .val (.long q5), .second, .val (.int cnt), .val (.ref b1), .val (.ref b9), .val (.ref b12), .val (.ref b37)] [(.ref b1), (.ref b37)])) X37 hx rfl rfl rfl (pc0 := 171) (pc' := 174) (same := false) rfl (hb hby at_171) rfl (decide_eq_false fun q => (Ne.symm ne_b1_b37 : ¬ (b37 = b1)) (Value.ref.inj q)) (by decide) (by decide) k) ?_
      rw [show (f0_167d126d142 p0 p1 p2 p3 cnt) = (f0_174d126d142 p0 p1 p2 p3 cnt) from rfl]
      refine Go.step (g' := (mkF m 176 #[.val (.int p0), .val (.int p1), .val (.int p2), .val (.int p3), .val (.int p4), .val (.long q5), .second, .val (.int cnt), .val (.ref b1), .val (.ref b9), .val (.ref b12), .val (.ref b37)] [(.ref b37)])) (fun _ k => XS.aload X37.here hx rfl (hb hby at_174) rfl rfl  k) ?_
      refine Go.step (g' := (mkF m 178 #[.val (.int p0), .val (.int p1), .val (.int p2), .val (.int p3), .val (.int p4), .val (.long q5), .second, .val (.int cnt), .val (.ref b1), .val (.ref b9), .val (.ref b12), .val (.ref b37)] [(.ref b12), (.ref b37)])) (fun _ k => XS.aload X37.here hx rfl (hb hby at_176) rfl rfl  k) ?_
      refine Go.step (g' := (mkF m 181 #[.val (.int p0), .val (.int p1), .val (.int p2), .val (.int p3), .val (.int p4), .val (.long q5), .second, .val (.int cnt), .val (.ref b1), .val (.ref b9), .val (.ref b12), .val (.ref b37)] [])) (fun _ k => Jvm.RoadKit.acmp (g := (mkF m 178 #[.val (.int p0), .val (.int p1), .val (.int p2), .val (.int p3), .val (.int p4), .val (.long q5), .second, .val (.int cnt), .val (.ref b1), .val (.ref b9), .val (.ref b12), .val (.ref b37)] [(.ref b12), (.ref b37)])) X37 hx rfl rfl rfl (pc0 := 178) (pc' := 181) (same := false) rfl (hb hby at_178) rfl (decide_eq_false fun q => (Ne.symm ne_b12_b37 : ¬ (b37 = b12)) (Value.ref.inj q)) (by decide) (by decide) k) ?_
      rw [show (f0_174d126d142 p0 p1 p2 p3 cnt) = (f0_181d126d142 p0 p1 p2 p3 cnt) from rfl]
      refine Go.step (g' := (mkF m 183 #[.val (.int p0), .val (.int p1), .val (.int p2), .val (.int p3), .val (.int p4), .val (.long q5), .second, .val (.int cnt), .val (.ref b1), .val (.ref b9), .val (.ref b12), .val (.ref b37)] [(.ref b37)])) (fun _ k => XS.aload X37.here hx rfl (hb hby at_181) rfl rfl  k) ?_
      refine Go.step (g' := (mkF m 184 #[.val (.int p0), .val (.int p1), .val (.int p2), .val (.int p3), .val (.int p4), .val (.long q5), .second, .val (.int cnt), .val (.ref b1), .val (.ref b9), .val (.ref b12), .val (.ref b37)] [(.int cnt)])) (fun _ k => getLen X37 hx hZ rfl V37 (back32 hp0).1 (gf := (mkF m 183 #[.val (.int p0), .val (.int p1), .val (.int p2), .val (.int p3), .val (.int p4), .val (.long q5), .second, .val (.int cnt), .val (.ref b1), .val (.ref b9), .val (.ref b12), .val (.ref b37)] [(.ref b37)])) rfl rfl (hb hby at_183) k) ?_
      refine Go.step (g' := (mkF m 186 #[.val (.int p0), .val (.int p1), .val (.int p2), .val (.int p3), .val (.int p4), .val (.long q5), .second, .val (.int cnt), .val (.ref b1), .val (.ref b9), .val (.ref b12), .val (.ref b37)] [(.int cnt), (.int cnt)])) (fun _ k => XS.iload X37.here hx rfl (hb hby at_184) rfl  k) ?_
      refine Go.step (g' := (mkF m 191 #[.val (.int p0), .val (.int p1), .val (.int p2), .val (.int p3), .val (.int p4), .val (.long q5), .second, .val (.int cnt), .val (.ref b1), .val (.ref b9), .val (.ref b12), .val (.ref b37)] [])) (fun _ k => XS.icmpYes X37.here hx rfl (pc0 := 186) (pc' := 191) rfl (hb hby at_186) rfl (teq (rfl : cnt = cnt)).1 (by decide) (by decide) k) ?_
      rw [show (f0_181d126d142 p0 p1 p2 p3 cnt) = (f0_191d126d142 p0 p1 p2 p3 cnt) from rfl]
      refine Go.step (g' := (mkF m 193 #[.val (.int p0), .val (.int p1), .val (.int p2), .val (.int p3), .val (.int p4), .val (.long q5), .second, .val (.int cnt), .val (.ref b1), .val (.ref b9), .val (.ref b12), .val (.ref b37)] [(.ref b37)])) (fun _ k => XS.aload X37.here hx rfl (hb hby at_191) rfl rfl  k) ?_
      refine Go.step (g' := (mkF m 195 #[.val (.int p0), .val (.int p1), .val (.int p2), .val (.int p3), .val (.int p4), .val (.long q5), .second, .val (.int cnt), .val (.ref b1), .val (.ref b9), .val (.ref b12), .val (.ref b37)] [(.int cnt), (.ref b37)])) (fun _ k => XS.iload X37.here hx rfl (hb hby at_193) rfl  k) ?_
      refine Go.step (g' := (mkF m 196 #[.val (.int p0), .val (.int p1), .val (.int p2), .val (.int p3), .val (.int p4), .val (.long q5), .second, .val (.int cnt), .val (.ref b1), .val (.ref b9), .val (.ref b12), .val (.ref b37)] [(.int p0), (.int cnt), (.ref b37)])) (fun _ k => XS.iloadN X37.here hx rfl (hb hby at_195) rfl  k) ?_
      refine Go.step (g' := (mkF m 197 #[.val (.int p0), .val (.int p1), .val (.int p2), .val (.int p3), .val (.int p4), .val (.long q5), .second, .val (.int cnt), .val (.ref b1), .val (.ref b9), .val (.ref b12), .val (.ref b37)] [(.int p1), (.int p0), (.int cnt), (.ref b37)])) (fun _ k => XS.iloadN X37.here hx rfl (hb hby at_196) rfl  k) ?_
      refine Go.step (g' := (mkF m 198 #[.val (.int p0), .val (.int p1), .val (.int p2), .val (.int p3), .val (.int p4), .val (.long q5), .second, .val (.int cnt), .val (.ref b1), .val (.ref b9), .val (.ref b12), .val (.ref b37)] [(.int p2), (.int p1), (.int p0), (.int cnt), (.ref b37)])) (fun _ k => XS.iloadN X37.here hx rfl (hb hby at_197) rfl  k) ?_
      refine Go.step (g' := (mkF m 199 #[.val (.int p0), .val (.int p1), .val (.int p2), .val (.int p3), .val (.int p4), .val (.long q5), .second, .val (.int cnt), .val (.ref b1), .val (.ref b9), .val (.ref b12), .val (.ref b37)] [(.int p3), (.int p2), (.int p1), (.int p0), (.int cnt), (.ref b37)])) (fun _ k => XS.iloadN X37.here hx rfl (hb hby at_198) rfl  k) ?_
      obtain ⟨_, _, ⟨T39, L39, k39, n39⟩, -, X39, ⟨Lc39, hQ39, l39, y39, z39⟩, st39⟩ := Jvm.LawKit.callS X37 hx (y := (⟨"com/example/ucs_to_octets/ucstooctets/DecodedTextCodePointsPinLaw", "prefixOk", "([IIIIII)Z"⟩ : MethodName)) hown (mvT hZ (hw _ (List.mem_of_getElem? (i := 34) rfl))) (mvT hZ (hw _ (List.mem_of_getElem? (i := 35) rfl))) (mvT hZ (hw _ (List.mem_of_getElem? (i := 36) rfl))) (mvT hZ (hw _ (List.mem_of_getElem? (i := 37) rfl))) (by decide) (backOf (W := 0) (rm6 l Z a0 hw [] b37 cnt p0 p1 p2 p3 (upd (upd (upd (upd (fun _ => (0 : Int32)) (0 : Int32).toNatClampNeg p0) (1 : Int32).toNatClampNeg p1) (2 : Int32).toNatClampNeg p2) (3 : Int32).toNatClampNeg p3) T37.heap V37) hZ (hw _ (List.mem_of_getElem? (i := 37) rfl)) (hw _ (List.mem_of_getElem? (i := 36) rfl)) (by decide) (by decide)) (g := (mkF m 199 #[.val (.int p0), .val (.int p1), .val (.int p2), .val (.int p3), .val (.int p4), .val (.long q5), .second, .val (.int cnt), .val (.ref b1), .val (.ref b9), .val (.ref b12), .val (.ref b37)] [(.int p3), (.int p2), (.int p1), (.int p0), (.int cnt), (.ref b37)])) rfl (by rw [hml]; rfl) (argsL := [(.ref b37), (.int cnt), (.int p0), (.int p1), (.int p2), (.int p3)]) (rest := []) (lenOf pd_4 rfl) rfl (by show 2 * 0 + _ ≤ _; exact Nat.le_of_eq rfl) (hb hby at_199) (fun _ _ => ⟨rfl, rfl, (by decide : (((((0 + 1) + 1) + 0) + 1) + 1) + 0 ≤ _), (by decide : (((((0 + 4) + 3) + 0) + 4) + 4) + 0 ≤ _)⟩)
      dsimp only [Pt.U, Pt.locs, Pt.cells, Pt.slots] at X39 l39 y39 z39 st39 hQ39
      subst l39 y39 z39
      obtain ⟨rfl, rfl, e39⟩ := hQ39
      try rw [List.append_nil] at X39
      refine Go.step (g' := (mkF m 202 #[.val (.int p0), .val (.int p1), .val (.int p2), .val (.int p3), .val (.int p4), .val (.long q5), .second, .val (.int cnt), .val (.ref b1), .val (.ref b9), .val (.ref b12), .val (.ref b37)] [(.int (f6_0 cnt p0 p1 p2 p3 (upd (upd (upd (upd (fun _ => (0 : Int32)) (0 : Int32).toNatClampNeg p0) (1 : Int32).toNatClampNeg p1) (2 : Int32).toNatClampNeg p2) (3 : Int32).toNatClampNeg p3)))])) st39 ?_
      exact Go.retN X39 hx hlk (t := .boolean) Bd.returns (by simp) (hb hby at_202) (by decide) (by decide) ⟨rfl, N37⟩
set_option maxRecDepth 65536 in
set_option maxHeartbeats 40000000 in
theorem comes_1 {Post : Tables → Env → Array Value → State → Outcome → State → Prop} (hpost : ∀ tb e args s v u, (limb_1_1.after args s (.returned v) u = true ∧ limb_1_2.after args s (.returned v) u = true) → FrameEnd s (.returned v) u (Jvm.fieldLocs frame_1_writes args s ++ Jvm.arrayLocs frame_1_arrays args s ++ Jvm.staticLocs frame_1_statics s) 16 128 → Post tb e args s (.returned v) u) :
    ArmFor flags0 classFile x code maxLocals ret World_1 tables_1 room_1 Calls_1 rest_1 Pre_1 Post := by
  intro l hfl _ _ p e ha hc hk s m args below hf hA hF happ hP
  obtain ⟨hcalls, hrest, hpre⟩ := hP
  obtain ⟨-, -, -, hnamed, -, -, -, hat⟩ := (Spec.applies_iff hf).mp happ
  obtain ⟨hg, hn⟩ := and_e (Cond.before_iff.mp (show (Jvm.Cond.and given_1 narrow_1).before args s = true from hpre))
  obtain ⟨gc, hg⟩ := and_e hg
  obtain ⟨g0, hg⟩ := and_e hg
  obtain ⟨g1, hg⟩ := and_e hg
  obtain ⟨g2, hg⟩ := and_e hg
  obtain ⟨g3, hg⟩ := and_e hg
  obtain ⟨g4, hg⟩ := and_e hg
  have g5 := hg
  obtain ⟨w0, w1, w2, w3, w4, w5, rfl⟩ : ∃ w0 w1 w2 w3 w4 w5 : Value, args = #[w0, w1, w2, w3, w4, w5] := by
    have hs : args.size = 6 := by simpa [Cond.value, given_1] using gc
    obtain ⟨L⟩ := args
    match L, hs with
    | [w0, w1, w2, w3, w4, w5], _ => exact ⟨w0, w1, w2, w3, w4, w5, rfl⟩
  have hw := fun d (hd : d ∈ tables_1) => atoms_spec (ws := Jvm.Cond.code x code maxLocals ret :: tables_1) hat d (List.mem_cons_of_mem _ hd)
  have hfit : Fit s := fun {y c} hc i hi => by
    obtain ⟨ha, rfl⟩ := Array.getElem?_eq_some_iff.mp hc
    have q := List.all_eq_true.mp ((Array.all_eq_true_iff_forall_mem.mp hF) _ (Array.getElem_mem ha)) i (List.mem_range.mpr hi)
    simpa [Array.getElem?_eq_getElem hi] using q
  obtain ⟨i0, ei0⟩ := is_v g0
  obtain rfl : w0 = (.int i0) := Option.some.inj ei0
  obtain ⟨i1, ei1⟩ := is_v g1
  obtain rfl : w1 = (.int i1) := Option.some.inj ei1
  obtain ⟨i2, ei2⟩ := is_v g2
  obtain rfl : w2 = (.int i2) := Option.some.inj ei2
  obtain ⟨i3, ei3⟩ := is_v g3
  obtain rfl : w3 = (.int i3) := Option.some.inj ei3
  obtain ⟨i4, ei4⟩ := is_v g4
  obtain rfl : w4 = (.int i4) := Option.some.inj ei4
  obtain ⟨i5, ei5⟩ := isL_v g5
  obtain rfl : w5 = (.long i5) := Option.some.inj ei5
  obtain ⟨n, o, h1, h2, h3, v, L, rfl, hQ, hq⟩ := rm0 l s _ hw tables_1 i0 i1 i2 i3 i4 i5  s.heap s.heap.size (Nat.le_refl _)  p e ha hc hk s m _ below hf ((Spec.applies_iff_loose hf).mp happ).1 ⟨rfl, State.Warmed39.refl s, rfl⟩ trivial
  obtain ⟨rfl, N⟩ := hQ
  rw [show f0_0 = 1 from rfl] at *
  refine ⟨n, _, h1, h2, h3, hpost _ _ _ _ _ _ ⟨Cond.after_iff.mpr rfl, Cond.after_iff.mpr (eq_i res_at (Term.int_eval (1)) rfl)⟩ ⟨hq.1, hq.2.1, (hq.2.2.sift fun y hy => Or.inr (N y hy)).mono (by decide) (by decide)⟩⟩
theorem main_1_1 : Claimed_1_1 := comes_1 fun _ _ _ _ _ _ h hF => ⟨h.1, hF⟩
theorem main_1_2 : Claimed_1_2 := comes_1 fun _ _ _ _ _ _ h hF => ⟨h.2, hF⟩
end Jvm.Pilot.@@N@@
namespace Jvm.Pilot.@@N@@
open Jvm Jvm.ClassFile Sem Op Lib Jvm.Free Jvm.Stand Jvm.Pilot.@@N@@.Jvm.D
/-! MADE BY PROGRAM (witnessworld.py) out of the Statement's table words and the real class files: 12 classes; the members and pool entries that the words name. The judged class is class 1, her method 1. -/
namespace start1
open Jvm.ClassFile
def u (s : String) : CpInfo := .utf8 (stringToUtf16 s)
/-- a pool by its gaps: so many unusable entries, then the entry; so many at the end -/
def gap : Nat → List CpInfo → List CpInfo
  | 0, r => r
  | n + 1, r => .unusable :: gap n r
def poolList (es : List (Nat × CpInfo)) (last : Nat) : List CpInfo := es.foldr (fun e r => gap e.1 (e.2 :: r)) (gap last [])
def pool (es : List (Nat × CpInfo)) (last : Nat) : Array CpInfo := ⟨poolList es last⟩
def fileOf (pool : Array CpInfo) (this : Nat) (attrs : Array Attribute := #[]) (ms : Array MethodInfo := #[]) (fl : Nat := 33) (sup : Nat := 0) (ifs : Array Nat := #[]) (fds : Array FieldInfo := #[]) : ClassFile where
  minorVersion := 0
  majorVersion := 65
  constantPool := pool
  accessFlags := fl
  thisClass := this
  superClass := sup
  interfaces := ifs
  fields := fds
  methods := ms
  attributes := attrs
def plain (name : String) (sup : Option ClassId) : Class where
  name := name
  kind := .ordinary
  loader := none
  accessFlags := 33
  super := sup
  interfaces := #[]
  cf := none
  fields := #[]
  methods := #[]
  instanceTypes := #[]
  staticTypes := #[]
  resolved := #[]
  callSites := []
  init := .initialized
  statics := none
  mirror := none

def pool0 : Array CpInfo := pool [(5, u "<init>"), (0, u "()V"), (1, .class_ 10), (1, u "java/lang/Object"), (85, u "clone"), (0, u "()Ljava/lang/Object;")] 26

def k0c0 : Code := { maxStack := 0, maxLocals := 1, code := object_method_1_code, exceptionTable := #[], attributes := #[] }
def k0m0 : Method := { name := "<init>", desc := "()V", sig := { parameters := [], returnType := none }, accessFlags := 1, code := some k0c0 }
def k0m1 : Method := { name := "clone", desc := "()Ljava/lang/Object;", sig := { parameters := [], returnType := some (.object "java/lang/Object") }, accessFlags := 260, code := none }
/-- java/lang/Object -/
def k0 : Class := { plain "java/lang/Object" none with
  accessFlags := 33
  interfaces := #[]
  cf := some (fileOf pool0 8 #[] #[{ accessFlags := 1, nameIndex := 5, descriptorIndex := 6, attributes := #[] }, { accessFlags := 260, nameIndex := 96, descriptorIndex := 97, attributes := #[] }] 33 0 #[] #[])
  fields := #[]
  methods := #[k0m0, k0m1]
  instanceTypes := #[]
  staticTypes := #[]
  resolved := Array.replicate 124 none
  statics := none }

def pool1 : Array CpInfo := pool [(2, .class_ 4), (1, u "java/lang/Object"), (0, u "<init>"), (0, u "()V"), (0, .integer 2147483647), (0, .class_ 9), (0, u "com/example/ucs_to_octets/ucstooctets/DecodedText"), (0, .methodref 8 11), (0, .nameAndType 5 12), (0, u "([IIJ)V"), (0, .methodref 8 14), (0, .nameAndType 15 16), (0, u "codePoints"), (0, u "()[I"), (0, .methodref 18 19), (0, .class_ 20), (0, .nameAndType 21 22), (0, u "com/example/ucs_to_octets/ucstooctets/DecodedTextCodePointsPinLaw"), (0, u "prefixOk"), (0, u "([IIIIII)Z"), (2, u "law"), (0, u "(IIIIIJ)Z")] 5

def k1m0 : Method := { name := "<init>", desc := "()V", sig := { parameters := [], returnType := none }, accessFlags := 1, code := none }
def k1c1 : Code := { maxStack := 6, maxLocals := 12, code := code, exceptionTable := #[], attributes := #[] }
def k1m1 : Method := { name := "law", desc := "(IIIIIJ)Z", sig := { parameters := [.int, .int, .int, .int, .int, .long], returnType := some .boolean }, accessFlags := 9, code := some k1c1 }
def k1c2 : Code := { maxStack := 2, maxLocals := 6, code := method_3_code, exceptionTable := #[], attributes := #[] }
def k1m2 : Method := { name := "prefixOk", desc := "([IIIIII)Z", sig := { parameters := [(.array .int), .int, .int, .int, .int, .int], returnType := some .boolean }, accessFlags := 10, code := some k1c2 }
/-- com/example/ucs_to_octets/ucstooctets/DecodedTextCodePointsPinLaw -/
def k1 : Class := { plain "com/example/ucs_to_octets/ucstooctets/DecodedTextCodePointsPinLaw" (some 0) with
  accessFlags := 49
  interfaces := #[]
  cf := some (fileOf pool1 18 #[] #[{ accessFlags := 1, nameIndex := 5, descriptorIndex := 6, attributes := #[] }, { accessFlags := 9, nameIndex := 25, descriptorIndex := 26, attributes := #[] }, { accessFlags := 10, nameIndex := 21, descriptorIndex := 22, attributes := #[] }] 49 2 #[] #[])
  fields := #[]
  methods := #[k1m0, k1m1, k1m2]
  instanceTypes := #[]
  staticTypes := #[]
  resolved := Array.replicate 32 none
  statics := none }

def pool2 : Array CpInfo := pool [(1, .methodref 2 3), (0, .class_ 4), (0, .nameAndType 5 6), (0, u "java/lang/Object"), (0, u "<init>"), (0, u "()V"), (0, .fieldref 8 9), (0, .class_ 10), (0, .nameAndType 11 12), (0, u "com/example/ucs_to_octets/ucstooctets/DecodedText"), (0, u "codePoints"), (0, u "[I"), (0, .fieldref 8 14), (0, .nameAndType 15 16), (0, u "codePointCount"), (0, u "I"), (0, .fieldref 8 18), (0, .nameAndType 19 20), (0, u "replacementCount"), (0, u "J"), (0, .methodref 22 23), (0, .class_ 24), (0, .nameAndType 25 26), (0, u "java/util/Arrays"), (0, u "copyOf"), (0, u "([II)[I"), (14, u "([IIJ)V"), (2, u "()[I")] 7

def k2c0 : Code := { maxStack := 3, maxLocals := 5, code := prog_16_method_1_code, exceptionTable := #[], attributes := #[] }
def k2m0 : Method := { name := "<init>", desc := "([IIJ)V", sig := { parameters := [(.array .int), .int, .long], returnType := none }, accessFlags := 0, code := some k2c0 }
def k2c1 : Code := { maxStack := 2, maxLocals := 1, code := prog_16_method_2_code, exceptionTable := #[], attributes := #[] }
def k2m1 : Method := { name := "codePoints", desc := "()[I", sig := { parameters := [], returnType := some (.array .int) }, accessFlags := 1, code := some k2c1 }
/-- com/example/ucs_to_octets/ucstooctets/DecodedText -/
def k2 : Class := { plain "com/example/ucs_to_octets/ucstooctets/DecodedText" (some 0) with
  accessFlags := 33
  interfaces := #[]
  cf := some (fileOf pool2 8 #[] #[{ accessFlags := 0, nameIndex := 5, descriptorIndex := 41, attributes := #[] }, { accessFlags := 1, nameIndex := 11, descriptorIndex := 44, attributes := #[] }] 33 2 #[] #[{ accessFlags := 18, nameIndex := 11, descriptorIndex := 12, attributes := #[] }, { accessFlags := 18, nameIndex := 15, descriptorIndex := 16, attributes := #[] }, { accessFlags := 18, nameIndex := 19, descriptorIndex := 20, attributes := #[] }])
  fields := #[{ name := "codePoints", type := (.array .int), accessFlags := 18, slot := 0, constantValue := 0 }, { name := "codePointCount", type := .int, accessFlags := 18, slot := 1, constantValue := 0 }, { name := "replacementCount", type := .long, accessFlags := 18, slot := 2, constantValue := 0 }]
  methods := #[k2m0, k2m1]
  instanceTypes := #[(.array .int), .int, .long]
  staticTypes := #[]
  resolved := Array.replicate 52 none
  statics := none }

def pool3 : Array CpInfo := pool [(2, .class_ 4), (1, u "java/lang/Object"), (0, u "<init>"), (0, u "()V"), (7, .class_ 16), (1, u "java/util/Arrays"), (57, .class_ 76), (1, u "java/util/Arrays$NaturalOrder"), (32, u "()Ljava/lang/Object;"), (3, .class_ 115), (1, u "java/util/Arrays$LegacyMergeSort"), (1, u "Z"), (10, .nameAndType 129 109), (0, u "clone"), (20, .methodref 151 152), (0, .class_ 153), (0, .nameAndType 154 155), (0, u "java/lang/System"), (0, u "arraycopy"), (0, u "(Ljava/lang/Object;ILjava/lang/Object;II)V"), (146, u "copyOf"), (1, .methodref 305 306), (0, .class_ 307), (0, .nameAndType 308 309), (0, u "java/lang/Math"), (0, u "min"), (0, u "(II)I"), (6, .methodref 317 128), (0, .class_ 318), (0, u "[I"), (56, .class_ 376), (0, u "java/util/Arrays$ArrayList"), (68, u "$assertionsDisabled"), (269, u "MIN_ARRAY_SORT_GRAN"), (0, u "I"), (2, u "INSERTIONSORT_THRESHOLD"), (151, u "([II)[I"), (103, .class_ 976), (0, u "java/util/Arrays$ArrayItr")] 52

def k3m0 : Method := { name := "<init>", desc := "()V", sig := { parameters := [], returnType := none }, accessFlags := 2, code := none }
def k3c1 : Code := { maxStack := 6, maxLocals := 3, code := jdk_65_method_123_code, exceptionTable := #[], attributes := #[] }
def k3m1 : Method := { name := "copyOf", desc := "([II)[I", sig := { parameters := [(.array .int), .int], returnType := some (.array .int) }, accessFlags := 9, code := some k3c1 }
/-- java/util/Arrays -/
def k3 : Class := { plain "java/util/Arrays" (some 0) with
  accessFlags := 49
  interfaces := #[]
  cf := some (fileOf pool3 14 #[.nestMembers #[975, 375, 113, 74]] #[{ accessFlags := 2, nameIndex := 5, descriptorIndex := 6, attributes := #[] }, { accessFlags := 9, nameIndex := 302, descriptorIndex := 871, attributes := #[] }] 49 2 #[] #[{ accessFlags := 26, nameIndex := 715, descriptorIndex := 716, attributes := #[] }, { accessFlags := 26, nameIndex := 719, descriptorIndex := 716, attributes := #[] }, { accessFlags := 4120, nameIndex := 445, descriptorIndex := 117, attributes := #[] }])
  fields := #[{ name := "MIN_ARRAY_SORT_GRAN", type := .int, accessFlags := 26, slot := 0, constantValue := 0 }, { name := "INSERTIONSORT_THRESHOLD", type := .int, accessFlags := 26, slot := 1, constantValue := 0 }, { name := "$assertionsDisabled", type := .boolean, accessFlags := 4120, slot := 2, constantValue := 0 }]
  methods := #[k3m0, k3m1]
  instanceTypes := #[]
  staticTypes := #[.int, .int, .boolean]
  resolved := Array.replicate 1029 none
  statics := none }

def pool4 : Array CpInfo := pool [(1, .class_ 2), (0, u "java/lang/Math"), (1, .class_ 6), (1, u "java/lang/Object"), (0, u "<init>"), (0, u "()V"), (89, .class_ 100), (1, u "java/lang/Math$RandomNumberGeneratorHolder"), (71, u "negativeZeroFloatBits"), (0, u "J"), (2, u "negativeZeroDoubleBits"), (24, u "min"), (43, u "$assertionsDisabled"), (0, u "Z"), (88, u "(II)I"), (2, u "twoToTheDoubleScaleDown"), (0, u "D"), (4, u "twoToTheDoubleScaleUp"), (9, u "E"), (3, u "PI"), (2, u "TAU"), (2, u "DEGREES_TO_RADIANS"), (0, u "RADIANS_TO_DEGREES")] 94

def k4m0 : Method := { name := "<init>", desc := "()V", sig := { parameters := [], returnType := none }, accessFlags := 2, code := none }
def k4c1 : Code := { maxStack := 2, maxLocals := 2, code := jdk_29_method_69_code, exceptionTable := #[], attributes := #[] }
def k4m1 : Method := { name := "min", desc := "(II)I", sig := { parameters := [.int, .int], returnType := some .int }, accessFlags := 9, code := some k4c1 }
/-- java/lang/Math -/
def k4 : Class := { plain "java/lang/Math" (some 0) with
  accessFlags := 49
  interfaces := #[]
  cf := some (fileOf pool4 1 #[.nestMembers #[98]] #[{ accessFlags := 2, nameIndex := 7, descriptorIndex := 8, attributes := #[] }, { accessFlags := 9, nameIndex := 201, descriptorIndex := 335, attributes := #[] }] 49 4 #[] #[{ accessFlags := 25, nameIndex := 354, descriptorIndex := 339, attributes := #[] }, { accessFlags := 25, nameIndex := 358, descriptorIndex := 339, attributes := #[] }, { accessFlags := 25, nameIndex := 361, descriptorIndex := 339, attributes := #[] }, { accessFlags := 26, nameIndex := 364, descriptorIndex := 339, attributes := #[] }, { accessFlags := 26, nameIndex := 365, descriptorIndex := 339, attributes := #[] }, { accessFlags := 26, nameIndex := 172, descriptorIndex := 173, attributes := #[] }, { accessFlags := 26, nameIndex := 176, descriptorIndex := 173, attributes := #[] }, { accessFlags := 8, nameIndex := 344, descriptorIndex := 339, attributes := #[] }, { accessFlags := 8, nameIndex := 338, descriptorIndex := 339, attributes := #[] }, { accessFlags := 4120, nameIndex := 245, descriptorIndex := 246, attributes := #[] }])
  fields := #[{ name := "E", type := .double, accessFlags := 25, slot := 0, constantValue := 0 }, { name := "PI", type := .double, accessFlags := 25, slot := 1, constantValue := 0 }, { name := "TAU", type := .double, accessFlags := 25, slot := 2, constantValue := 0 }, { name := "DEGREES_TO_RADIANS", type := .double, accessFlags := 26, slot := 3, constantValue := 0 }, { name := "RADIANS_TO_DEGREES", type := .double, accessFlags := 26, slot := 4, constantValue := 0 }, { name := "negativeZeroFloatBits", type := .long, accessFlags := 26, slot := 5, constantValue := 0 }, { name := "negativeZeroDoubleBits", type := .long, accessFlags := 26, slot := 6, constantValue := 0 }, { name := "twoToTheDoubleScaleUp", type := .double, accessFlags := 8, slot := 7, constantValue := 0 }, { name := "twoToTheDoubleScaleDown", type := .double, accessFlags := 8, slot := 8, constantValue := 0 }, { name := "$assertionsDisabled", type := .boolean, accessFlags := 4120, slot := 9, constantValue := 0 }]
  methods := #[k4m0, k4m1]
  instanceTypes := #[]
  staticTypes := #[.double, .double, .double, .double, .double, .long, .long, .double, .double, .boolean]
  resolved := Array.replicate 460 none
  statics := none }

def pool5 : Array CpInfo := pool [(2, .class_ 4), (1, u "java/lang/Object"), (0, u "<init>"), (0, u "()V"), (1, .class_ 10), (1, u "java/lang/System"), (0, u "allowSecurityManager"), (0, u "I"), (16, u "cons"), (0, u "Ljava/io/Console;"), (77, .class_ 110), (1, u "java/lang/System$CallersHolder"), (43, u "initialErrStream"), (0, u "Ljava/io/PrintStream;"), (19, u "security"), (0, u "Ljava/lang/SecurityManager;"), (31, .class_ 209), (0, u "java/lang/System$1"), (7, u "props"), (0, u "Ljava/util/Properties;"), (2, u "lineSeparator"), (0, u "Ljava/lang/String;"), (96, .class_ 321), (1, u "java/lang/System$LoggerFinder"), (5, .class_ 328), (0, u "java/lang/System$Logger"), (67, u "err"), (2, u "out"), (91, u "notSupportedJnuEncoding"), (15, u "in"), (17, u "initialIn"), (0, u "Ljava/io/InputStream;"), (35, u "bootLayer"), (0, u "Ljava/lang/ModuleLayer;"), (99, .class_ 664), (0, u "java/lang/System$2"), (9, u "NEVER"), (2, u "MAYBE"), (49, u "arraycopy"), (0, u "(Ljava/lang/Object;ILjava/lang/Object;II)V"), (72, .class_ 802), (0, u "java/lang/System$Logger$Level")] 31

def k5m0 : Method := { name := "<init>", desc := "()V", sig := { parameters := [], returnType := none }, accessFlags := 2, code := none }
def k5m1 : Method := { name := "arraycopy", desc := "(Ljava/lang/Object;ILjava/lang/Object;II)V", sig := { parameters := [(.object "java/lang/Object"), .int, (.object "java/lang/Object"), .int, .int], returnType := none }, accessFlags := 265, code := none }
/-- java/lang/System -/
def k5 : Class := { plain "java/lang/System" (some 0) with
  accessFlags := 49
  interfaces := #[]
  cf := some (fileOf pool5 8 #[.nestMembers #[319, 327, 801, 108, 663, 208]] #[{ accessFlags := 2, nameIndex := 5, descriptorIndex := 6, attributes := #[] }, { accessFlags := 265, nameIndex := 727, descriptorIndex := 728, attributes := #[] }] 49 2 #[] #[{ accessFlags := 25, nameIndex := 507, descriptorIndex := 526, attributes := #[] }, { accessFlags := 25, nameIndex := 399, descriptorIndex := 155, attributes := #[] }, { accessFlags := 25, nameIndex := 396, descriptorIndex := 155, attributes := #[] }, { accessFlags := 10, nameIndex := 525, descriptorIndex := 526, attributes := #[] }, { accessFlags := 26, nameIndex := 674, descriptorIndex := 12, attributes := #[] }, { accessFlags := 26, nameIndex := 677, descriptorIndex := 12, attributes := #[] }, { accessFlags := 10, nameIndex := 11, descriptorIndex := 12, attributes := #[] }, { accessFlags := 74, nameIndex := 175, descriptorIndex := 176, attributes := #[] }, { accessFlags := 10, nameIndex := 491, descriptorIndex := 222, attributes := #[] }, { accessFlags := 74, nameIndex := 29, descriptorIndex := 30, attributes := #[] }, { accessFlags := 74, nameIndex := 154, descriptorIndex := 155, attributes := #[] }, { accessFlags := 10, nameIndex := 217, descriptorIndex := 218, attributes := #[] }, { accessFlags := 10, nameIndex := 221, descriptorIndex := 222, attributes := #[] }, { accessFlags := 8, nameIndex := 562, descriptorIndex := 563, attributes := #[] }])
  fields := #[{ name := "in", type := (.object "java/io/InputStream"), accessFlags := 25, slot := 0, constantValue := 0 }, { name := "out", type := (.object "java/io/PrintStream"), accessFlags := 25, slot := 1, constantValue := 0 }, { name := "err", type := (.object "java/io/PrintStream"), accessFlags := 25, slot := 2, constantValue := 0 }, { name := "initialIn", type := (.object "java/io/InputStream"), accessFlags := 10, slot := 3, constantValue := 0 }, { name := "NEVER", type := .int, accessFlags := 26, slot := 4, constantValue := 0 }, { name := "MAYBE", type := .int, accessFlags := 26, slot := 5, constantValue := 0 }, { name := "allowSecurityManager", type := .int, accessFlags := 10, slot := 6, constantValue := 0 }, { name := "security", type := (.object "java/lang/SecurityManager"), accessFlags := 74, slot := 7, constantValue := 0 }, { name := "notSupportedJnuEncoding", type := (.object "java/lang/String"), accessFlags := 10, slot := 8, constantValue := 0 }, { name := "cons", type := (.object "java/io/Console"), accessFlags := 74, slot := 9, constantValue := 0 }, { name := "initialErrStream", type := (.object "java/io/PrintStream"), accessFlags := 74, slot := 10, constantValue := 0 }, { name := "props", type := (.object "java/util/Properties"), accessFlags := 10, slot := 11, constantValue := 0 }, { name := "lineSeparator", type := (.object "java/lang/String"), accessFlags := 10, slot := 12, constantValue := 0 }, { name := "bootLayer", type := (.object "java/lang/ModuleLayer"), accessFlags := 8, slot := 13, constantValue := 0 }]
  methods := #[k5m0, k5m1]
  instanceTypes := #[]
  staticTypes := #[(.object "java/io/InputStream"), (.object "java/io/PrintStream"), (.object "java/io/PrintStream"), (.object "java/io/InputStream"), .int, .int, .int, (.object "java/lang/SecurityManager"), (.object "java/lang/String"), (.object "java/io/Console"), (.object "java/io/PrintStream"), (.object "java/util/Properties"), (.object "java/lang/String"), (.object "java/lang/ModuleLayer")]
  resolved := Array.replicate 834 none
  statics := none }

def pool6 : Array CpInfo := pool [(1, .class_ 2), (0, u "java/lang/Cloneable"), (0, .class_ 4), (0, u "java/lang/Object")] 2

/-- java/lang/Cloneable -/
def k6 : Class := { plain "java/lang/Cloneable" (some 0) with
  accessFlags := 1537
  interfaces := #[]
  cf := some (fileOf pool6 1 #[] #[] 1537 3 #[] #[])
  fields := #[]
  methods := #[]
  instanceTypes := #[]
  staticTypes := #[]
  resolved := Array.replicate 7 none
  statics := none }

def pool7 : Array CpInfo := pool [(1, u "java/io/Serializable"), (0, .class_ 1), (0, u "java/lang/Object"), (0, .class_ 3)] 3

/-- java/io/Serializable -/
def k7 : Class := { plain "java/io/Serializable" (some 0) with
  accessFlags := 1537
  interfaces := #[]
  cf := some (fileOf pool7 2 #[] #[] 1537 4 #[] #[])
  fields := #[]
  methods := #[]
  instanceTypes := #[]
  staticTypes := #[]
  resolved := Array.replicate 8 none
  statics := none }

/-- the primitive byte -/
def k8 : Class := { plain "byte" none with kind := .primitive 'B', accessFlags := 0x411 }
/-- [B -/
def k9 : Class := { plain "[B" (some 0) with kind := .array 8 .byte, interfaces := #[6, 7], accessFlags := 1041 }

/-- the primitive int -/
def k10 : Class := { plain "int" none with kind := .primitive 'I', accessFlags := 0x411 }
/-- [I -/
def k11 : Class := { plain "[I" (some 0) with kind := .array 10 .int, interfaces := #[6, 7], accessFlags := 1041 }

def heap : Heap := #[]
def classes : Array Class := #[k0, k1, k2, k3, k4, k5, k6, k7, k8, k9, k10, k11]
def interned : List (Array UInt16 × Addr) := []
def slotsUsed : Nat := 0
def theMethod : MethodId := ⟨1, 1⟩
def args0 : Array Value := #[.int 1, .int 2, .int 3, .int 4, .int 3, .long 7]
def aboutOver (below : List Frame) : State where
  vm := { classes := classes, interned := interned.toArray }
  heap := heap
  slotsUsed := slotsUsed
  threads := #[{ frames := .invoking theMethod args0 :: below }]
def below0 : List Frame := [.native { method := ⟨0, 0⟩, args := #[] }]
def about1 : State := aboutOver below0
def p0 : Program := .bare "" "" ""
def e0 : Env := launch0.env 0 0 0
theorem w_frames : about1.frames = Frame.invoking theMethod args0 :: below0 := rfl
set_option maxRecDepth 65536 in
theorem w_args : argsFit about1.vm theMethod args0 = true := by decide +kernel
set_option maxRecDepth 65536 in
theorem w_heap : heapFits about1 = true := by decide +kernel
set_option maxRecDepth 65536 in
theorem w_runnable : about1.curStatus? = some .runnable := by decide +kernel
set_option maxRecDepth 65536 in
theorem w_alone : about1.alone = true := by decide +kernel
set_option maxRecDepth 65536 in
theorem w_named : about1.methodNamed? x = some theMethod := by decide +kernel
set_option maxRecDepth 65536 in
theorem w_hears : about1.hears theMethod below0 = true := by decide +kernel
set_option maxRecDepth 65536 in
theorem w_ripe : about1.ripe theMethod args0 below0 = true := by decide +kernel
theorem w_running : about1.status = .running := rfl
set_option maxRecDepth 65536 in
theorem w_room : about1.hasRoom e0.platform room_1 = true :=
  launch0.hasRoom_least _ room_1 (by decide +kernel) (by decide +kernel) (by decide +kernel) (by decide +kernel) (by decide +kernel) (by decide +kernel)
theorem allAtoms_all (ts : List Jvm.Cond) (a : Array Jvm.Value) (st : Jvm.State) : (allAtoms ts).before a st = ts.all (fun c => c.before a st) := by
  induction ts with
  | nil => rfl
  | cons c t ih =>
    show (Jvm.Cond.and c (allAtoms t)).before a st = _
    rw [Jvm.Cond.before_and, ih, List.all_cons]
def words1 : List Jvm.Cond := Jvm.Cond.code x code maxLocals ret :: tables_1
/-- a 'code' word, met by the world's own term for the bytes: nothing is compared byte by byte -/
theorem code_word {y : MethodName} {bytes : ByteArray} {mx : Nat} {rt : Option FieldType} {a : Array Value} {s : State} {m : MethodId} {meth : Method} {c : Code} (h1 : s.methodNamed? y = some m) (h2 : s.vm.method? m = some meth) (h3 : meth.code = some c) (h4 : c.code = bytes)
    (h5 : (c.maxLocals == mx && c.exceptionTable.isEmpty && decide (c.maxStack ≤ mostOperands) && decide (meth.sig.returnType = rt) && !meth.locks && decide (parseMethodDescriptor y.desc = some meth.sig)) = true) : (Jvm.Cond.code y bytes mx rt).before a s = true := by
  simp only [Bool.and_eq_true, beq_iff_eq, Bool.not_eq_true', decide_eq_true_eq] at h5
  obtain ⟨⟨⟨⟨⟨g1, g2⟩, g3⟩, g4⟩, g5⟩, g6⟩ := h5
  simp [Cond.before, Cond.holds, Cond.value, h1, h2, h3, h4, g1, g2, g3, g4, g5, g6]
def isCode : Jvm.Cond → Bool
  | .code _ _ _ _ => true
  | _ => false
theorem all_split {L : List Jvm.Cond} {P : Jvm.Cond → Bool} (h1 : L.all (fun c => isCode c || P c) = true) (h2 : ∀ c ∈ L.filter isCode, P c = true) : L.all P = true := by
  refine List.all_eq_true.mpr fun c hc => ?_
  have h := List.all_eq_true.mp h1 c hc
  rcases Bool.eq_false_or_eq_true (isCode c) with hi | hi
  · exact h2 c (List.mem_filter.mpr ⟨hc, hi⟩)
  · simpa [hi] using h
set_option maxRecDepth 65536 in
theorem w_c0 : (Jvm.Cond.code x code maxLocals ret).before args0 about1 = true := code_word (m := ⟨1, 1⟩) (meth := k1m1) (c := k1c1) (by decide +kernel) rfl rfl rfl (by decide +kernel)
set_option maxRecDepth 65536 in
theorem w_c1 : (Jvm.Cond.code ({ cls := "com/example/ucs_to_octets/ucstooctets/DecodedText", name := "<init>", desc := "([IIJ)V" } : Jvm.MethodName) prog_16_method_1_code (5 : Nat) (Option.none : Option Jvm.ClassFile.FieldType)).before args0 about1 = true := code_word (m := ⟨2, 0⟩) (meth := k2m0) (c := k2c0) (by decide +kernel) rfl rfl rfl (by decide +kernel)
set_option maxRecDepth 65536 in
theorem w_c2 : (Jvm.Cond.code ({ cls := "java/lang/Object", name := "<init>", desc := "()V" } : Jvm.MethodName) object_method_1_code (1 : Nat) (Option.none : Option Jvm.ClassFile.FieldType)).before args0 about1 = true := code_word (m := ⟨0, 0⟩) (meth := k0m0) (c := k0c0) (by decide +kernel) rfl rfl rfl (by decide +kernel)
set_option maxRecDepth 65536 in
theorem w_c3 : (Jvm.Cond.code ({ cls := "com/example/ucs_to_octets/ucstooctets/DecodedText", name := "codePoints", desc := "()[I" } : Jvm.MethodName) prog_16_method_2_code (1 : Nat) (Option.some (Jvm.ClassFile.FieldType.array Jvm.ClassFile.FieldType.int))).before args0 about1 = true := code_word (m := ⟨2, 1⟩) (meth := k2m1) (c := k2c1) (by decide +kernel) rfl rfl rfl (by decide +kernel)
set_option maxRecDepth 65536 in
theorem w_c4 : (Jvm.Cond.code ({ cls := "java/util/Arrays", name := "copyOf", desc := "([II)[I" } : Jvm.MethodName) jdk_65_method_123_code (3 : Nat) (Option.some (Jvm.ClassFile.FieldType.array Jvm.ClassFile.FieldType.int))).before args0 about1 = true := code_word (m := ⟨3, 1⟩) (meth := k3m1) (c := k3c1) (by decide +kernel) rfl rfl rfl (by decide +kernel)
set_option maxRecDepth 65536 in
theorem w_c5 : (Jvm.Cond.code ({ cls := "java/lang/Math", name := "min", desc := "(II)I" } : Jvm.MethodName) jdk_29_method_69_code (2 : Nat) (Option.some Jvm.ClassFile.FieldType.int)).before args0 about1 = true := code_word (m := ⟨4, 1⟩) (meth := k4m1) (c := k4c1) (by decide +kernel) rfl rfl rfl (by decide +kernel)
set_option maxRecDepth 65536 in
theorem w_c6 : (Jvm.Cond.code ({ cls := "com/example/ucs_to_octets/ucstooctets/DecodedTextCodePointsPinLaw", name := "prefixOk", desc := "([IIIIII)Z" } : Jvm.MethodName) method_3_code (6 : Nat) (Option.some Jvm.ClassFile.FieldType.boolean)).before args0 about1 = true := code_word (m := ⟨1, 2⟩) (meth := k1m2) (c := k1c2) (by decide +kernel) rfl rfl rfl (by decide +kernel)
def codes1 : List Jvm.Cond := [Jvm.Cond.code x code maxLocals ret, Jvm.Cond.code ({ cls := "com/example/ucs_to_octets/ucstooctets/DecodedText", name := "<init>", desc := "([IIJ)V" } : Jvm.MethodName) prog_16_method_1_code (5 : Nat) (Option.none : Option Jvm.ClassFile.FieldType), Jvm.Cond.code ({ cls := "java/lang/Object", name := "<init>", desc := "()V" } : Jvm.MethodName) object_method_1_code (1 : Nat) (Option.none : Option Jvm.ClassFile.FieldType), Jvm.Cond.code ({ cls := "com/example/ucs_to_octets/ucstooctets/DecodedText", name := "codePoints", desc := "()[I" } : Jvm.MethodName) prog_16_method_2_code (1 : Nat) (Option.some (Jvm.ClassFile.FieldType.array Jvm.ClassFile.FieldType.int)), Jvm.Cond.code ({ cls := "java/util/Arrays", name := "copyOf", desc := "([II)[I" } : Jvm.MethodName) jdk_65_method_123_code (3 : Nat) (Option.some (Jvm.ClassFile.FieldType.array Jvm.ClassFile.FieldType.int)), Jvm.Cond.code ({ cls := "java/lang/Math", name := "min", desc := "(II)I" } : Jvm.MethodName) jdk_29_method_69_code (2 : Nat) (Option.some Jvm.ClassFile.FieldType.int), Jvm.Cond.code ({ cls := "com/example/ucs_to_octets/ucstooctets/DecodedTextCodePointsPinLaw", name := "prefixOk", desc := "([IIIIII)Z" } : Jvm.MethodName) method_3_code (6 : Nat) (Option.some Jvm.ClassFile.FieldType.boolean)]
set_option maxRecDepth 65536 in
theorem codes_eq : words1.filter isCode = codes1 := rfl
theorem w_codes : ∀ c ∈ words1.filter isCode, c.before args0 about1 = true := by
  rw [codes_eq]
  intro c hc
  simp only [codes1, List.mem_cons, List.not_mem_nil, or_false] at hc
  rcases hc with rfl | rfl | rfl | rfl | rfl | rfl | rfl
  · exact w_c0
  · exact w_c1
  · exact w_c2
  · exact w_c3
  · exact w_c4
  · exact w_c5
  · exact w_c6
set_option maxRecDepth 65536 in
theorem w_t1 : (words1.take 24).all (fun c => isCode c || c.before args0 about1) = true := by decide +kernel
set_option maxRecDepth 65536 in
theorem w_t2 : (words1.drop 24).all (fun c => isCode c || c.before args0 about1) = true := by decide +kernel
theorem w_tables : (allAtoms (Jvm.Cond.code x code maxLocals ret :: tables_1)).before args0 about1 = true := by
  rw [allAtoms_all]
  show words1.all (fun c => c.before args0 about1) = true
  refine all_split ?_ w_codes
  rw [← List.take_append_drop 24 words1, List.all_append, w_t1, w_t2]
  rfl
set_option maxRecDepth 65536 in
theorem w_case : (Jvm.Cond.and given_1 narrow_1).before args0 about1 = true := by decide +kernel
theorem w_applies : (headSpec (Jvm.Cond.code x code maxLocals ret :: tables_1) room_1).applies x e0.platform about1 = true :=
  (Spec.applies_iff w_frames).mpr ⟨w_running, w_runnable, w_alone, w_named, w_hears, w_ripe, w_room, w_tables⟩
theorem atStart : AtStart classFile x code maxLocals ret World_1 tables_1 room_1 Calls_1 rest_1 Pre_1 launch0 p0 e0 about1 theMethod args0 below0 :=
  ⟨lists_1, trivial, launch0.admits_env _ _ _, launch0.least_env, fairChoices_fair.cas, fairChoices_fair.clock, w_frames, w_args, w_heap, w_applies, trivial, trivial, w_case⟩
end start1
theorem witness_1 : WitnessClaimed_1 := ⟨start1.p0, start1.e0, start1.about1, start1.theMethod, start1.args0, start1.below0, start1.atStart⟩
end Jvm.Pilot.@@N@@
