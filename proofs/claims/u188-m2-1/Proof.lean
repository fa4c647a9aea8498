import JvmDerived
import JvmDerived.Pilot.@@N@@Statement
import JvmDerived.Pilot.@@N@@Code
set_option linter.unusedVariables false
set_option linter.unusedSimpArgs false
namespace Jvm.Pilot.@@N@@
open Jvm Jvm.ClassFile Sem Op Lib Jvm.Free Jvm.Stand Jvm.LawKit Jvm.RoadKit Bundle Jvm.Pilot.@@N@@.Jvm.D
/-! from a frame on, the body comes to its end as Q says -/
section OwnKit
variable {p : Program} {l : Launch} {e : Env} {R : Room} {s : State} {m : MethodId} {args : Array Value} {below : List Frame} {meth : Method} {c : Code} {T T' : State} {locs : List Loc} {cells slots C D : Nat} {Q Q' : Option Value → Heap → List Loc → Prop} {g g' : JFrame}
def Go (p : Program) (e : Env) (below : List Frame) (s : State) (C D : Nat) (Q : Option Value → Heap → List Loc → Prop) (T : State) (g : JFrame) : Prop :=
  ∃ u o, Steps p.tables e below (T.setTop g) u ∧ u.status = .running ∧ Ended u below o ∧ ∃ v L, o = .returned v ∧ Q v u.heap L ∧ FrameEnd s o u L C D
def PureQ (r : Value) (h0 : Heap) (v : Option Value) (h : Heap) (L : List Loc) : Prop := v = some r ∧ L = [] ∧ h = h0
theorem Go.step (k : ∀ t, Steps p.tables e below (T'.setTop g') t → Steps p.tables e below (T.setTop g) t) (h : Go p e below s C D Q T' g') : Go p e below s C D Q T g := by
  obtain ⟨u, o, h1, r⟩ := h
  exact ⟨u, o, k _ h1, r⟩
theorem Go.mono (h : Go p e below s C D Q T g) (q : ∀ v h L, Q v h L → Q' v h L) : Go p e below s C D Q' T g := by
  obtain ⟨u, o, h1, h2, h3, v, L, h4, h5, h6⟩ := h
  exact ⟨u, o, h1, h2, h3, v, L, h4, q _ _ _ h5, h6⟩
theorem Go.retN (X : Stand p l e R s m args below meth c T locs cells slots) (hx : p.tables.exec = Jvm.exec) (hlk : meth.locks = false) {pc : Nat} {Ls : Array Slot} {z : Int32} {t : FieldType} {rest : List Value} (hret : meth.sig.returnType = some t) (ht : t = .boolean ∨ t = .byte ∨ t = .char ∨ t = .short)
    (hd : decode c.code pc = .ok (.ireturn, 1)) (hC : cells ≤ C) (hD : slots ≤ D) (hq : Q (some (.int (nar t z))) T.heap locs) : Go p e below s C D Q T (mkF m pc Ls (.int z :: rest)) := by
  obtain ⟨fs, hr, hrun, hended, hW, hsame⟩ := X.leave (v := some (.int (nar t z))) (fun h => by rw [hret] at h; cases h) hlk
  exact ⟨_, _, Jvm.RoadKit.retN X hx hret ht hd hr, hrun, hended, _, _, rfl, hq, ⟨_, rfl⟩, hW, hsame.mono hC hD⟩
theorem Go.retW (X : Stand p l e R s m args below meth c T locs cells slots) (hx : p.tables.exec = Jvm.exec) (hlk : meth.locks = false) {pc : Nat} {Ls : Array Slot} {w : Value} {t : FieldType} {i : Instr} {rest : List Value} (hret : meth.sig.returnType = some t) (hn : narrow t w = w)
    (hi : (i = .ireturn ∧ (t = .int ∨ t = .boolean ∨ t = .byte ∨ t = .char ∨ t = .short) ∧ ∃ z, w = .int z) ∨ (i = .lreturn ∧ t = .long ∧ ∃ z, w = .long z) ∨ (i = .dreturn ∧ t = .double ∧ ∃ z, w = .double z) ∨ (i = .freturn ∧ t = .float ∧ ∃ z, w = .float z) ∨ (i = .areturn ∧ t.isReference = true ∧ w.isRef = true))
    (hd : decode c.code pc = .ok (i, 1)) (hC : cells ≤ C) (hD : slots ≤ D) (hq : Q (some w) T.heap locs) : Go p e below s C D Q T (mkF m pc Ls (w :: rest)) := by
  obtain ⟨fs, hr, hrun, hended, hW, hsame⟩ := X.leave (v := some w) (fun h => by rw [hret] at h; cases h) hlk
  exact ⟨_, _, retOut X hx hret hn hi hd hr, hrun, hended, _, _, rfl, hq, ⟨_, rfl⟩, hW, hsame.mono hC hD⟩
theorem Go.ret0 (X : Stand p l e R s m args below meth c T locs cells slots) (hx : p.tables.exec = Jvm.exec) (hlk : meth.locks = false) {pc : Nat} {Ls : Array Slot} (hret : meth.sig.returnType = none)
    (hd : decode c.code pc = .ok (.return_, 1)) (hC : cells ≤ C) (hD : slots ≤ D) (hq : Q none T.heap locs) : Go p e below s C D Q T (mkF m pc Ls []) := by
  obtain ⟨fs, hr, hrun, hended, hW, hsame⟩ := X.leave (v := none) (fun _ => rfl) hlk
  exact ⟨_, _, X.returnOut hx hret hd hr, hrun, hended, _, _, rfl, hq, ⟨_, rfl⟩, hW, hsame.mono hC hD⟩
end OwnKit
theorem pd_0 : parseMethodDescriptor "(JI)D" = some ⟨[.long, .int], some .double⟩ := by decide +kernel
theorem pd_1 : parseMethodDescriptor "(I)V" = some ⟨[.int], none⟩ := by decide +kernel
theorem pd_2 : parseMethodDescriptor "()[D" = some ⟨[], some (.array .double)⟩ := by decide +kernel
theorem pd_3 : parseMethodDescriptor "([DJ)V" = some ⟨[(.array .double), .long], none⟩ := by decide +kernel
theorem pd_4 : parseMethodDescriptor "(II)I" = some ⟨[.int, .int], some .int⟩ := by decide +kernel
theorem pd_5 : parseMethodDescriptor "(Lcom/example/rhadamanthus/rhadamanthus/learn/Histogram;II)V" = some ⟨[(.object "com/example/rhadamanthus/rhadamanthus/learn/Histogram"), .int, .int], none⟩ := by decide +kernel
theorem pd_6 : parseMethodDescriptor "([D[DJJIII)Z" = some ⟨[(.array .double), (.array .double), .long, .long, .int, .int, .int], some .boolean⟩ := by decide +kernel
section OwnHeap
variable {p : Program} {l : Launch} {e : Env} {R : Room} {s : State} {m : MethodId} {args : Array Value} {below : List Frame} {meth : Method} {c : Code} {T : State} {locs : List Loc} {cells slots n0 : Nat}
variable {Z : State} {h h' : Heap} {a b : Addr} {ty : FieldType} {n sl : Nat} {f : Nat → Value} {v : Value} {ws : List Addr} {j : Int32} {gf : JFrame} {rest : List Value}
def IA (Z : State) (h : Heap) (a : Addr) (ty : FieldType) (n : Nat) (f : Nat → Value) : Prop := ∃ c : Cell, Arr Z h a c ty ∧ c.slots.size = n ∧ ∀ k, k < n → c.slots[k]? = some (f k)
def upd {α : Type} (g : Nat → α) (j : Nat) (v : α) (k : Nat) : α := if k = j then v else g k
theorem IA.lt (F : IA Z h a ty n f) : a < h.size := by obtain ⟨c, A, -⟩ := F; exact A.lt
theorem IA.ext (F : IA Z h a ty n f) (E : Ext h h') : IA Z h' a ty n f := by obtain ⟨c, A, r⟩ := F; exact ⟨c, A.ext E, r⟩
theorem IA.other (F : IA Z h b ty n f) (W : Wr h h' a sl v) (q : b ≠ a) : IA Z h' b ty n f := by obtain ⟨c, A, r⟩ := F; exact ⟨c, A.other W q, r⟩
theorem IA.keep (F : IA Z h a ty n f) (K : Keep h h' ws) (q : a ∉ ws) : IA Z h' a ty n f := by obtain ⟨c, A, r⟩ := F; exact ⟨c, ⟨K.2.1 a c A.1 q, A.2⟩, r⟩
theorem IA.of_new {k : ClassId} {z : Int32} (A : Arr Z h a (newA k ty z) ty) (hn : z.toNatClampNeg = n) : IA Z h a ty n (fun _ => defaultValue ty) :=
  ⟨_, A, (sz_new _ _ _).trans hn, fun i hi => by subst hn; simp [newA, hi]⟩
theorem IA.set {c : Cell} {F : Nat → Value} (A : Arr Z h a c ty) (S : c.slots.size = n) (H : ∀ k, k < n → c.slots[k]? = some (F k)) (hj : ¬ (j < 0 ∨ n ≤ j.toNatClampNeg)) (W : Wr h h' a j.toNatClampNeg v) : IA Z h' a ty n (upd F j.toNatClampNeg v) := by
  refine ⟨_, A.same W, (sz_set _ _ _).trans S, fun k hk => ?_⟩
  by_cases q : k = j.toNatClampNeg
  · subst q; simp [Cell.setSlot, upd, S, hk]
  · simp only [Cell.setSlot, upd, if_neg q]
    rw [Array.getElem?_setIfInBounds_ne (Ne.symm q)]; exact H k hk
theorem IA.cong {f' : Nat → Value} (F : IA Z h a ty n f) (q : ∀ k, k < n → f k = f' k) : IA Z h a ty n f' := by
  obtain ⟨c, A, S, H⟩ := F; exact ⟨c, A, S, fun k hk => by rw [H k hk, q k hk]⟩
theorem own_pack (X : Stand p l e R s m args below meth c T locs cells slots) (N : Fr n0 locs) : ∃ lc, Stand p l e R s m args below meth c T lc cells slots ∧ Fr n0 lc := ⟨_, X, N⟩
theorem own_more {C D : Nat} (X : Stand p l e R s m args below meth c T locs cells slots) (hC : cells ≤ C) (hD : slots ≤ D) : Stand p l e R s m args below meth c T locs C D := X.more hC hD
theorem putAI {g : Nat → Int32} {x : Int32} (X : Stand p l e R s m args below meth c T locs cells slots) (hx : p.tables.exec = Jvm.exec) (hZ : Z.Warmed39 s.vm) (eT : T.heap = h) (F : IA Z h a .int n (fun k => .int (g k))) (hj : ¬ (j < 0 ∨ n ≤ j.toNatClampNeg)) (N : Fr n0 locs) (ha : n0 ≤ a) (hg : gf.method = m) (hs : gf.stack = .int x :: .int j :: .ref a :: rest) (hd : decode c.code gf.pc = .ok (.iastore, 1)) :
    ∃ T' h' lc, Stand p l e R s m args below meth c T' lc cells slots ∧ T'.heap = h' ∧ Wr h h' a j.toNatClampNeg (.int x) ∧ Fr n0 lc ∧ IA Z h' a .int n (fun k => .int (upd g j.toNatClampNeg x k)) ∧ ∀ target, Steps p.tables e below (T'.setTop { gf with pc := gf.pc + 1, stack := rest }) target → Steps p.tables e below (T.setTop gf) target := by
  obtain ⟨cl, A, S, H⟩ := F
  obtain ⟨T', h', X', e', W, st⟩ := stI X hx hZ eT A (j := j) (x := x) (by rw [S]; exact hj) hg hs hd
  exact ⟨T', h', _, X', e', W, Fr.snoc X' N ha, (IA.set A S H hj W).cong fun k _ => by simp only [upd]; split <;> rfl, st⟩
theorem putAJ {g : Nat → Int64} {x : Int64} (X : Stand p l e R s m args below meth c T locs cells slots) (hx : p.tables.exec = Jvm.exec) (hZ : Z.Warmed39 s.vm) (eT : T.heap = h) (F : IA Z h a .long n (fun k => .long (g k))) (hj : ¬ (j < 0 ∨ n ≤ j.toNatClampNeg)) (N : Fr n0 locs) (ha : n0 ≤ a) (hg : gf.method = m) (hs : gf.stack = .long x :: .int j :: .ref a :: rest) (hd : decode c.code gf.pc = .ok (.lastore, 1)) :
    ∃ T' h' lc, Stand p l e R s m args below meth c T' lc cells slots ∧ T'.heap = h' ∧ Wr h h' a j.toNatClampNeg (.long x) ∧ Fr n0 lc ∧ IA Z h' a .long n (fun k => .long (upd g j.toNatClampNeg x k)) ∧ ∀ target, Steps p.tables e below (T'.setTop { gf with pc := gf.pc + 1, stack := rest }) target → Steps p.tables e below (T.setTop gf) target := by
  obtain ⟨cl, A, S, H⟩ := F
  obtain ⟨T', h', X', e', W, st⟩ := stJ X hx hZ eT A (j := j) (x := x) (by rw [S]; exact hj) hg hs hd
  exact ⟨T', h', _, X', e', W, Fr.snoc X' N ha, (IA.set A S H hj W).cong fun k _ => by simp only [upd]; split <;> rfl, st⟩
theorem putAC {g : Nat → Int32} {x : Int32} (X : Stand p l e R s m args below meth c T locs cells slots) (hx : p.tables.exec = Jvm.exec) (hZ : Z.Warmed39 s.vm) (eT : T.heap = h) (F : IA Z h a .char n (fun k => .int (g k))) (hj : ¬ (j < 0 ∨ n ≤ j.toNatClampNeg)) (N : Fr n0 locs) (ha : n0 ≤ a) (hg : gf.method = m) (hs : gf.stack = .int x :: .int j :: .ref a :: rest) (hd : decode c.code gf.pc = .ok (.castore, 1)) :
    ∃ T' h' lc, Stand p l e R s m args below meth c T' lc cells slots ∧ T'.heap = h' ∧ Wr h h' a j.toNatClampNeg (.int (nar .char x)) ∧ Fr n0 lc ∧ IA Z h' a .char n (fun k => .int (upd g j.toNatClampNeg (nar .char x) k)) ∧ ∀ target, Steps p.tables e below (T'.setTop { gf with pc := gf.pc + 1, stack := rest }) target → Steps p.tables e below (T.setTop gf) target := by
  obtain ⟨cl, A, S, H⟩ := F
  obtain ⟨T', h', X', e', W, st⟩ := stC X hx hZ eT A (j := j) (x := x) (by rw [S]; exact hj) hg hs hd
  exact ⟨T', h', _, X', e', W, Fr.snoc X' N ha, (IA.set A S H hj W).cong fun k _ => by simp only [upd]; split <;> rfl, st⟩
theorem putAB {g : Nat → Int32} {x : Int32} (X : Stand p l e R s m args below meth c T locs cells slots) (hx : p.tables.exec = Jvm.exec) (hZ : Z.Warmed39 s.vm) (eT : T.heap = h) (F : IA Z h a .byte n (fun k => .int (g k))) (hj : ¬ (j < 0 ∨ n ≤ j.toNatClampNeg)) (N : Fr n0 locs) (ha : n0 ≤ a) (hg : gf.method = m) (hs : gf.stack = .int x :: .int j :: .ref a :: rest) (hd : decode c.code gf.pc = .ok (.bastore, 1)) :
    ∃ T' h' lc, Stand p l e R s m args below meth c T' lc cells slots ∧ T'.heap = h' ∧ Wr h h' a j.toNatClampNeg (.int (nar .byte x)) ∧ Fr n0 lc ∧ IA Z h' a .byte n (fun k => .int (upd g j.toNatClampNeg (nar .byte x) k)) ∧ ∀ target, Steps p.tables e below (T'.setTop { gf with pc := gf.pc + 1, stack := rest }) target → Steps p.tables e below (T.setTop gf) target := by
  obtain ⟨cl, A, S, H⟩ := F
  obtain ⟨T', h', X', e', W, st⟩ := stB X hx hZ eT A (j := j) (x := x) (by rw [S]; exact hj) hg hs hd
  exact ⟨T', h', _, X', e', W, Fr.snoc X' N ha, (IA.set A S H hj W).cong fun k _ => by simp only [upd]; split <;> rfl, st⟩
theorem putAD {g : Nat → UInt64} {x : UInt64} (X : Stand p l e R s m args below meth c T locs cells slots) (hx : p.tables.exec = Jvm.exec) (hZ : Z.Warmed39 s.vm) (eT : T.heap = h) (F : IA Z h a .double n (fun k => .double (g k))) (hj : ¬ (j < 0 ∨ n ≤ j.toNatClampNeg)) (N : Fr n0 locs) (ha : n0 ≤ a) (hg : gf.method = m) (hs : gf.stack = .double x :: .int j :: .ref a :: rest) (hd : decode c.code gf.pc = .ok (.dastore, 1)) :
    ∃ T' h' lc, Stand p l e R s m args below meth c T' lc cells slots ∧ T'.heap = h' ∧ Wr h h' a j.toNatClampNeg (.double x) ∧ Fr n0 lc ∧ IA Z h' a .double n (fun k => .double (upd g j.toNatClampNeg x k)) ∧ ∀ target, Steps p.tables e below (T'.setTop { gf with pc := gf.pc + 1, stack := rest }) target → Steps p.tables e below (T.setTop gf) target := by
  obtain ⟨cl, A, S, H⟩ := F
  have hj' : ¬ (j < 0 ∨ cl.slots.size ≤ j.toNatClampNeg) := by rw [S]; exact hj
  obtain ⟨X', st⟩ := X.dastore hx (x := x) (by rw [eT]; exact A.1) (State.isArrayOf_alike hZ.alike A.2.1) A.2.2 hj' hg hs hd
  have W : Wr h (T.setCell a (cl.setSlot j.toNatClampNeg (.double x))).heap a j.toNatClampNeg (.double x) := ⟨cl, A.1, A.plain, Nat.lt_of_not_le fun q => hj' (Or.inr q), by rw [← eT]; rfl⟩
  exact ⟨_, _, _, X', rfl, W, Fr.snoc X' N ha, (IA.set A S H hj W).cong fun k _ => by simp only [upd]; split <;> rfl, st⟩
theorem getAI {g : Nat → Int32} {t : State} (X : Stand p l e R s m args below meth c T locs cells slots) (hx : p.tables.exec = Jvm.exec) (hZ : Z.Warmed39 s.vm) (eT : T.heap = h) (F : IA Z h a .int n (fun k => .int (g k))) (hj : ¬ (j < 0 ∨ n ≤ j.toNatClampNeg)) (hg : gf.method = m) (hs : gf.stack = .int j :: .ref a :: rest) (hd : decode c.code gf.pc = .ok (.iaload, 1))
    (hr : Steps p.tables e below (T.setTop { gf with pc := gf.pc + 1, stack := .int (g j.toNatClampNeg) :: rest }) t) : Steps p.tables e below (T.setTop gf) t := by
  obtain ⟨cl, A, S, H⟩ := F
  exact X.iaload hx (by rw [eT]; exact A.1) (State.isArrayOf_alike hZ.alike A.2.1) A.2.2 (by rw [S]; exact hj) (H _ (Nat.lt_of_not_le fun q => hj (Or.inr q))) hg hs hd _ hr
theorem getAJ {g : Nat → Int64} {t : State} (X : Stand p l e R s m args below meth c T locs cells slots) (hx : p.tables.exec = Jvm.exec) (hZ : Z.Warmed39 s.vm) (eT : T.heap = h) (F : IA Z h a .long n (fun k => .long (g k))) (hj : ¬ (j < 0 ∨ n ≤ j.toNatClampNeg)) (hg : gf.method = m) (hs : gf.stack = .int j :: .ref a :: rest) (hd : decode c.code gf.pc = .ok (.laload, 1))
    (hr : Steps p.tables e below (T.setTop { gf with pc := gf.pc + 1, stack := .long (g j.toNatClampNeg) :: rest }) t) : Steps p.tables e below (T.setTop gf) t := by
  obtain ⟨cl, A, S, H⟩ := F
  exact X.laload hx (by rw [eT]; exact A.1) (State.isArrayOf_alike hZ.alike A.2.1) A.2.2 (by rw [S]; exact hj) (H _ (Nat.lt_of_not_le fun q => hj (Or.inr q))) hg hs hd _ hr
theorem getAC {g : Nat → Int32} {t : State} (X : Stand p l e R s m args below meth c T locs cells slots) (hx : p.tables.exec = Jvm.exec) (hZ : Z.Warmed39 s.vm) (eT : T.heap = h) (F : IA Z h a .char n (fun k => .int (g k))) (hj : ¬ (j < 0 ∨ n ≤ j.toNatClampNeg)) (hg : gf.method = m) (hs : gf.stack = .int j :: .ref a :: rest) (hd : decode c.code gf.pc = .ok (.caload, 1))
    (hr : Steps p.tables e below (T.setTop { gf with pc := gf.pc + 1, stack := .int (g j.toNatClampNeg) :: rest }) t) : Steps p.tables e below (T.setTop gf) t := by
  obtain ⟨cl, A, S, H⟩ := F
  exact X.caload hx (by rw [eT]; exact A.1) (State.isArrayOf_alike hZ.alike A.2.1) A.2.2 (by rw [S]; exact hj) (H _ (Nat.lt_of_not_le fun q => hj (Or.inr q))) hg hs hd _ hr
theorem getAB {g : Nat → Int32} {t : State} (X : Stand p l e R s m args below meth c T locs cells slots) (hx : p.tables.exec = Jvm.exec) (hZ : Z.Warmed39 s.vm) (eT : T.heap = h) (F : IA Z h a .byte n (fun k => .int (g k))) (hj : ¬ (j < 0 ∨ n ≤ j.toNatClampNeg)) (hg : gf.method = m) (hs : gf.stack = .int j :: .ref a :: rest) (hd : decode c.code gf.pc = .ok (.baload, 1))
    (hr : Steps p.tables e below (T.setTop { gf with pc := gf.pc + 1, stack := .int (g j.toNatClampNeg) :: rest }) t) : Steps p.tables e below (T.setTop gf) t := by
  obtain ⟨cl, A, S, H⟩ := F
  exact X.baloadBytes hx (by rw [eT]; exact A.1) (State.isArrayOf_alike hZ.alike A.2.1) A.2.2 (by rw [S]; exact hj) (H _ (Nat.lt_of_not_le fun q => hj (Or.inr q))) hg hs hd _ hr
theorem getAD {g : Nat → UInt64} {t : State} (X : Stand p l e R s m args below meth c T locs cells slots) (hx : p.tables.exec = Jvm.exec) (hZ : Z.Warmed39 s.vm) (eT : T.heap = h) (F : IA Z h a .double n (fun k => .double (g k))) (hj : ¬ (j < 0 ∨ n ≤ j.toNatClampNeg)) (hg : gf.method = m) (hs : gf.stack = .int j :: .ref a :: rest) (hd : decode c.code gf.pc = .ok (.daload, 1))
    (hr : Steps p.tables e below (T.setTop { gf with pc := gf.pc + 1, stack := .double (g j.toNatClampNeg) :: rest }) t) : Steps p.tables e below (T.setTop gf) t := by
  obtain ⟨cl, A, S, H⟩ := F
  exact X.daload hx (by rw [eT]; exact A.1) (State.isArrayOf_alike hZ.alike A.2.1) A.2.2 (by rw [S]; exact hj) (H _ (Nat.lt_of_not_le fun q => hj (Or.inr q))) hg hs hd _ hr
theorem getLen {t : State} {z : Int32} (X : Stand p l e R s m args below meth c T locs cells slots) (hx : p.tables.exec = Jvm.exec) (hZ : Z.Warmed39 s.vm) (eT : T.heap = h) (F : IA Z h a ty n f) (hz : n.toInt32 = z) (hg : gf.method = m) (hs : gf.stack = .ref a :: rest) (hd : decode c.code gf.pc = .ok (.arraylength, 1))
    (hr : Steps p.tables e below (T.setTop { gf with pc := gf.pc + 1, stack := .int z :: rest }) t) : Steps p.tables e below (T.setTop gf) t := by
  obtain ⟨cl, A, S, H⟩ := F
  exact X.arraylength hx (by rw [eT]; exact A.1) (State.isArrayOf_alike hZ.alike A.2.1) hg hs hd _ (by rw [S, hz]; exact hr)
end OwnHeap
def LawQ (r : Option Value) (n0 : Nat) (v : Option Value) (h : Heap) (L : List Loc) : Prop := v = r ∧ Fr n0 L
theorem Sta_keep0 {Z : State} {h h' : Heap} {C n d : String} {v : Value} (F : Sta Z h C n d v) (K : Keep h h' []) : Sta Z h' C n d v := by
  obtain ⟨cf, i, k, f, st, cell, h1, h2, h3, h4, h5, r⟩ := F
  exact ⟨cf, i, k, f, st, cell, h1, h2, h3, h4, K.2.1 _ _ h5 nin0, r⟩
theorem d5_0 : decode method_3_code 0 = .ok (.lload_n 0, 1) := by decide +kernel
theorem d5_1 : decode method_3_code 1 = .ok (.bipush 8, 2) := by decide +kernel
theorem d5_3 : decode method_3_code 3 = .ok (.iload_n 2, 1) := by decide +kernel
theorem d5_4 : decode method_3_code 4 = .ok (.imul, 1) := by decide +kernel
theorem d5_5 : decode method_3_code 5 = .ok (.lushr, 1) := by decide +kernel
theorem d5_6 : decode method_3_code 6 = .ok (.l2i, 1) := by decide +kernel
theorem d5_7 : decode method_3_code 7 = .ok (.i2b, 1) := by decide +kernel
theorem d5_8 : decode method_3_code 8 = .ok (.i2d, 1) := by decide +kernel
theorem d5_9 : decode method_3_code 9 = .ok (.dreturn, 1) := by decide +kernel
theorem pn_5 : plainName "com/example/rhadamanthus/rhadamanthus/learn/HistogramSubtractColumnsPinLaw" = true := by first | (simp [plainName, overriddenIn]; done) | decide +kernel
theorem ef_5 (m : MethodId) (q0 : Int64) (p1 : Int32) : entryFrame m #[(.long q0), (.int p1)] 3 = mkF m 0 #[.val (.long q0), .second, .val (.int p1)] [] := by first | (simp [entryFrame, mkF, argsToLocals, Value.category]; done) | rfl
def f5_0 (q0 : Int64) (p1 : Int32) : UInt64 := (FP.i2d ((((q0.toUInt64 >>> (((8 : Int32) * p1) &&& 0x3f).toInt64.toUInt64).toInt64).toInt32).toInt8.toInt32))
set_option maxRecDepth 65536 in
set_option maxHeartbeats 40000000 in
theorem rm5 (l : Launch) (Z : State) (a0 : Array Value) (hw : ∀ d ∈ tables_1, d.before a0 Z = true) (ws : List Jvm.Cond) (q0 : Int64) (p1 : Int32)  (h0 : Heap) :
    MetFree l (⟨"com/example/rhadamanthus/rhadamanthus/learn/HistogramSubtractColumnsPinLaw", "v", "(JI)D"⟩ : MethodName) (head1 (Jvm.Cond.code (⟨"com/example/rhadamanthus/rhadamanthus/learn/HistogramSubtractColumnsPinLaw", "v", "(JI)D"⟩ : MethodName) method_3_code 3 (some .double) :: ws) ({ frames := 0, cells := 0, slots := 0, locals := 0 } : Room)) (fun a U => a = #[(.long q0), (.int p1)] ∧ Z.Warmed39 U.vm ∧ U.heap = h0) (fun _ _ _ _ _ => True) (fun _ U o U' => ∃ v L, o = .returned v ∧ (PureQ (.double (f5_0 q0 p1)) h0) v U'.heap L ∧ FrameEnd U o U' L ({ frames := 0, cells := 0, slots := 0, locals := 0 } : Room).cells ({ frames := 0, cells := 0, slots := 0, locals := 0 } : Room).slots) := by
  refine MetFree.of_bodySF (plainFor_of_name pn_5) hisR ?_
  intro p e s m args below meth c s₁ Bd hml0 hP hK
  obtain ⟨rfl, hZ, hh⟩ := hP
  have hx := Bd.exec
  have hby := Bd.bytes
  have hlk : meth.locks = false := BodyLoose.notSynchronized Bd
  have hml : c.maxLocals = 3 := hml0
  have hown : s.vm.findClass "com/example/rhadamanthus/rhadamanthus/learn/HistogramSubtractColumnsPinLaw" = some m.cls := findClass_of_methodNamed Bd.named
  have hnm := (name_of_methodNamed Bd.named Bd.method).1
  have X0 : Stand p l e ({ frames := 0, cells := 0, slots := 0, locals := 0 } : Room) s m #[(.long q0), (.int p1)] below meth c s₁ ([] : List Loc) 0 0 := Stand.of_body Bd
  have e0 : s₁.heap = h0 := by rw [← hh, Bd.state]; rfl
  show Go p e below s 0 0 (PureQ (.double (f5_0 q0 p1)) h0) s₁ (entryFrame m #[(.long q0), (.int p1)] 3)
  rw [ef_5 m q0 p1]
  refine Go.step (g' := (mkF m 1 #[.val (.long q0), .second, .val (.int p1)] [(.long q0)])) (fun _ k => XS.lloadN X0.here hx rfl (hb hby d5_0) rfl  k) ?_
  refine Go.step (g' := (mkF m 3 #[.val (.long q0), .second, .val (.int p1)] [(.int (8 : Int32)), (.long q0)])) (fun _ k => XS.bipush X0.here hx rfl (hb hby d5_1) k) ?_
  refine Go.step (g' := (mkF m 4 #[.val (.long q0), .second, .val (.int p1)] [(.int p1), (.int (8 : Int32)), (.long q0)])) (fun _ k => XS.iloadN X0.here hx rfl (hb hby d5_3) rfl  k) ?_
  refine Go.step (g' := (mkF m 5 #[.val (.long q0), .second, .val (.int p1)] [(.int ((8 : Int32) * p1)), (.long q0)])) (fun _ k => XS.imul X0.here hx rfl (hb hby d5_4) rfl k) ?_
  refine Go.step (g' := (mkF m 6 #[.val (.long q0), .second, .val (.int p1)] [(.long ((q0.toUInt64 >>> (((8 : Int32) * p1) &&& 0x3f).toInt64.toUInt64).toInt64))])) (fun _ k => XS.lushr X0.here hx rfl (hb hby d5_5) rfl k) ?_
  refine Go.step (g' := (mkF m 7 #[.val (.long q0), .second, .val (.int p1)] [(.int (((q0.toUInt64 >>> (((8 : Int32) * p1) &&& 0x3f).toInt64.toUInt64).toInt64).toInt32))])) (fun _ k => XS.l2i X0.here hx rfl (hb hby d5_6) rfl k) ?_
  refine Go.step (g' := (mkF m 8 #[.val (.long q0), .second, .val (.int p1)] [(.int ((((q0.toUInt64 >>> (((8 : Int32) * p1) &&& 0x3f).toInt64.toUInt64).toInt64).toInt32).toInt8.toInt32))])) (fun _ k => XS.i2b X0.here hx rfl (hb hby d5_7) rfl k) ?_
  refine Go.step (g' := (mkF m 9 #[.val (.long q0), .second, .val (.int p1)] [(.double (FP.i2d ((((q0.toUInt64 >>> (((8 : Int32) * p1) &&& 0x3f).toInt64.toUInt64).toInt64).toInt32).toInt8.toInt32)))])) (fun _ k => XS.i2dS X0.here hx rfl (hb hby d5_8) rfl rfl k) ?_
  exact Go.retW X0 hx hlk (t := .double) Bd.returns rfl (Or.inr (Or.inr (Or.inl ⟨rfl, rfl, _, rfl⟩))) (hb hby d5_9) (by decide) (by decide) ⟨rfl, rfl, e0⟩
theorem d6_0 : decode jdk_29_method_69_code 0 = .ok (.iload_n 0, 1) := by decide +kernel
theorem d6_1 : decode jdk_29_method_69_code 1 = .ok (.iload_n 1, 1) := by decide +kernel
theorem d6_2 : decode jdk_29_method_69_code 2 = .ok (.if_icmp .gt 7, 3) := by decide +kernel
theorem d6_5 : decode jdk_29_method_69_code 5 = .ok (.iload_n 0, 1) := by decide +kernel
theorem d6_6 : decode jdk_29_method_69_code 6 = .ok (.goto 4, 3) := by decide +kernel
theorem d6_9 : decode jdk_29_method_69_code 9 = .ok (.iload_n 1, 1) := by decide +kernel
theorem d6_10 : decode jdk_29_method_69_code 10 = .ok (.ireturn, 1) := by decide +kernel

theorem ef_6 (m : MethodId) (p0 : Int32) (p1 : Int32) : entryFrame m #[(.int p0), (.int p1)] 2 = mkF m 0 #[.val (.int p0), .val (.int p1)] [] := by first | (simp [entryFrame, mkF, argsToLocals, Value.category]; done) | rfl
def f6_10 (v10_s0 : Int32) : Int32 := v10_s0
def f6_9 (p1 : Int32) : Int32 := (f6_10 p1)
def f6_5 (p0 : Int32) : Int32 := (f6_10 p0)
def f6_0 (p0 : Int32) (p1 : Int32) : Int32 := if p1 < p0 then (f6_9 p1) else (f6_5 p0)
set_option maxRecDepth 65536 in
set_option maxHeartbeats 40000000 in
theorem rm6 (l : Launch) (Z : State) (a0 : Array Value) (hw : ∀ d ∈ tables_1, d.before a0 Z = true) (ws : List Jvm.Cond) (p0 : Int32) (p1 : Int32)  (h0 : Heap) :
    MetFree l (⟨"java/lang/Math", "min", "(II)I"⟩ : MethodName) (head1 (Jvm.Cond.code (⟨"java/lang/Math", "min", "(II)I"⟩ : MethodName) jdk_29_method_69_code 2 (some .int) :: ws) ({ frames := 0, cells := 0, slots := 0, locals := 0 } : Room)) (fun a U => a = #[(.int p0), (.int p1)] ∧ Z.Warmed39 U.vm ∧ U.heap = h0) (fun _ _ _ _ _ => True) (fun _ U o U' => ∃ v L, o = .returned v ∧ (PureQ (.int (f6_0 p0 p1)) h0) v U'.heap L ∧ FrameEnd U o U' L ({ frames := 0, cells := 0, slots := 0, locals := 0 } : Room).cells ({ frames := 0, cells := 0, slots := 0, locals := 0 } : Room).slots) := by
  refine MetFree.of_bodySF (Jvm.Free.JP.mathPlain rfl (by decide +kernel)) hisR ?_
  intro p e s m args below meth c s₁ Bd hml0 hP hK
  obtain ⟨rfl, hZ, hh⟩ := hP
  have hx := Bd.exec
  have hby := Bd.bytes
  have hlk : meth.locks = false := BodyLoose.notSynchronized Bd
  have hml : c.maxLocals = 2 := hml0
  have hown : s.vm.findClass "java/lang/Math" = some m.cls := findClass_of_methodNamed Bd.named
  have hnm := (name_of_methodNamed Bd.named Bd.method).1
  have X0 : Stand p l e ({ frames := 0, cells := 0, slots := 0, locals := 0 } : Room) s m #[(.int p0), (.int p1)] below meth c s₁ ([] : List Loc) 0 0 := Stand.of_body Bd
  have e0 : s₁.heap = h0 := by rw [← hh, Bd.state]; rfl
  show Go p e below s 0 0 (PureQ (.int (f6_0 p0 p1)) h0) s₁ (entryFrame m #[(.int p0), (.int p1)] 2)
  rw [ef_6 m p0 p1]
  refine Go.step (g' := (mkF m 1 #[.val (.int p0), .val (.int p1)] [(.int p0)])) (fun _ k => XS.iloadN X0.here hx rfl (hb hby d6_0) rfl  k) ?_
  refine Go.step (g' := (mkF m 2 #[.val (.int p0), .val (.int p1)] [(.int p1), (.int p0)])) (fun _ k => XS.iloadN X0.here hx rfl (hb hby d6_1) rfl  k) ?_
  have t10 : ∀ (v10_s0 : Int32), Go p e below s 0 0 (PureQ (.int (f6_10 v10_s0)) h0) s₁ (mkF m 10 #[.val (.int p0), .val (.int p1)] [(.int v10_s0)]) := by
    intro v10_s0
    exact Go.retW X0 hx hlk (t := .int) Bd.returns rfl (Or.inl ⟨rfl, Or.inl rfl, _, rfl⟩) (hb hby d6_10) (by decide) (by decide) ⟨rfl, rfl, e0⟩
  by_cases hc2 : p1 < p0
  · rw [show (f6_0 p0 p1) = (f6_9 p1) from if_pos hc2]
    refine Go.step (g' := (mkF m 9 #[.val (.int p0), .val (.int p1)] [])) (fun _ k => XS.icmpYes X0.here hx rfl (pc0 := 2) (pc' := 9) rfl (hb hby d6_2) rfl (tlt hc2).2.2.1 (by decide) (by decide) k) ?_
    refine Go.step (g' := (mkF m 10 #[.val (.int p0), .val (.int p1)] [(.int p1)])) (fun _ k => XS.iloadN X0.here hx rfl (hb hby d6_9) rfl  k) ?_
    rw [show (f6_9 p1) = (f6_10 p1) from rfl]
    exact t10 p1
  · rw [show (f6_0 p0 p1) = (f6_5 p0) from if_neg hc2]
    refine Go.step (g' := (mkF m 5 #[.val (.int p0), .val (.int p1)] [])) (fun _ k => XS.icmpNo X0.here hx rfl (hb hby d6_2) rfl (flt hc2).2.2.1 k) ?_
    refine Go.step (g' := (mkF m 6 #[.val (.int p0), .val (.int p1)] [(.int p0)])) (fun _ k => XS.iloadN X0.here hx rfl (hb hby d6_5) rfl  k) ?_
    refine Go.step (g' := (mkF m 10 #[.val (.int p0), .val (.int p1)] [(.int p0)])) (fun _ k => XS.goto X0.here hx rfl (pc0 := 6) (pc' := 10) rfl (hb hby d6_6) (by decide) (by decide) k) ?_
    rw [show (f6_5 p0) = (f6_10 p0) from rfl]
    exact t10 p0
theorem d7_0 : decode jdk_29_method_65_code 0 = .ok (.iload_n 0, 1) := by decide +kernel
theorem d7_1 : decode jdk_29_method_65_code 1 = .ok (.iload_n 1, 1) := by decide +kernel
theorem d7_2 : decode jdk_29_method_65_code 2 = .ok (.if_icmp .lt 7, 3) := by decide +kernel
theorem d7_5 : decode jdk_29_method_65_code 5 = .ok (.iload_n 0, 1) := by decide +kernel
theorem d7_6 : decode jdk_29_method_65_code 6 = .ok (.goto 4, 3) := by decide +kernel
theorem d7_9 : decode jdk_29_method_65_code 9 = .ok (.iload_n 1, 1) := by decide +kernel
theorem d7_10 : decode jdk_29_method_65_code 10 = .ok (.ireturn, 1) := by decide +kernel

theorem ef_7 (m : MethodId) (p0 : Int32) (p1 : Int32) : entryFrame m #[(.int p0), (.int p1)] 2 = mkF m 0 #[.val (.int p0), .val (.int p1)] [] := by first | (simp [entryFrame, mkF, argsToLocals, Value.category]; done) | rfl
def f7_10 (v10_s0 : Int32) : Int32 := v10_s0
def f7_9 (p1 : Int32) : Int32 := (f7_10 p1)
def f7_5 (p0 : Int32) : Int32 := (f7_10 p0)
def f7_0 (p0 : Int32) (p1 : Int32) : Int32 := if p0 < p1 then (f7_9 p1) else (f7_5 p0)
set_option maxRecDepth 65536 in
set_option maxHeartbeats 40000000 in
theorem rm7 (l : Launch) (Z : State) (a0 : Array Value) (hw : ∀ d ∈ tables_1, d.before a0 Z = true) (ws : List Jvm.Cond) (p0 : Int32) (p1 : Int32)  (h0 : Heap) :
    MetFree l (⟨"java/lang/Math", "max", "(II)I"⟩ : MethodName) (head1 (Jvm.Cond.code (⟨"java/lang/Math", "max", "(II)I"⟩ : MethodName) jdk_29_method_65_code 2 (some .int) :: ws) ({ frames := 0, cells := 0, slots := 0, locals := 0 } : Room)) (fun a U => a = #[(.int p0), (.int p1)] ∧ Z.Warmed39 U.vm ∧ U.heap = h0) (fun _ _ _ _ _ => True) (fun _ U o U' => ∃ v L, o = .returned v ∧ (PureQ (.int (f7_0 p0 p1)) h0) v U'.heap L ∧ FrameEnd U o U' L ({ frames := 0, cells := 0, slots := 0, locals := 0 } : Room).cells ({ frames := 0, cells := 0, slots := 0, locals := 0 } : Room).slots) := by
  refine MetFree.of_bodySF (Jvm.Free.JP.mathPlain rfl (by decide +kernel)) hisR ?_
  intro p e s m args below meth c s₁ Bd hml0 hP hK
  obtain ⟨rfl, hZ, hh⟩ := hP
  have hx := Bd.exec
  have hby := Bd.bytes
  have hlk : meth.locks = false := BodyLoose.notSynchronized Bd
  have hml : c.maxLocals = 2 := hml0
  have hown : s.vm.findClass "java/lang/Math" = some m.cls := findClass_of_methodNamed Bd.named
  have hnm := (name_of_methodNamed Bd.named Bd.method).1
  have X0 : Stand p l e ({ frames := 0, cells := 0, slots := 0, locals := 0 } : Room) s m #[(.int p0), (.int p1)] below meth c s₁ ([] : List Loc) 0 0 := Stand.of_body Bd
  have e0 : s₁.heap = h0 := by rw [← hh, Bd.state]; rfl
  show Go p e below s 0 0 (PureQ (.int (f7_0 p0 p1)) h0) s₁ (entryFrame m #[(.int p0), (.int p1)] 2)
  rw [ef_7 m p0 p1]
  refine Go.step (g' := (mkF m 1 #[.val (.int p0), .val (.int p1)] [(.int p0)])) (fun _ k => XS.iloadN X0.here hx rfl (hb hby d7_0) rfl  k) ?_
  refine Go.step (g' := (mkF m 2 #[.val (.int p0), .val (.int p1)] [(.int p1), (.int p0)])) (fun _ k => XS.iloadN X0.here hx rfl (hb hby d7_1) rfl  k) ?_
  have t10 : ∀ (v10_s0 : Int32), Go p e below s 0 0 (PureQ (.int (f7_10 v10_s0)) h0) s₁ (mkF m 10 #[.val (.int p0), .val (.int p1)] [(.int v10_s0)]) := by
    intro v10_s0
    exact Go.retW X0 hx hlk (t := .int) Bd.returns rfl (Or.inl ⟨rfl, Or.inl rfl, _, rfl⟩) (hb hby d7_10) (by decide) (by decide) ⟨rfl, rfl, e0⟩
  by_cases hc2 : p0 < p1
  · rw [show (f7_0 p0 p1) = (f7_9 p1) from if_pos hc2]
    refine Go.step (g' := (mkF m 9 #[.val (.int p0), .val (.int p1)] [])) (fun _ k => XS.icmpYes X0.here hx rfl (pc0 := 2) (pc' := 9) rfl (hb hby d7_2) rfl (tlt hc2).1 (by decide) (by decide) k) ?_
    refine Go.step (g' := (mkF m 10 #[.val (.int p0), .val (.int p1)] [(.int p1)])) (fun _ k => XS.iloadN X0.here hx rfl (hb hby d7_9) rfl  k) ?_
    rw [show (f7_9 p1) = (f7_10 p1) from rfl]
    exact t10 p1
  · rw [show (f7_0 p0 p1) = (f7_5 p0) from if_neg hc2]
    refine Go.step (g' := (mkF m 5 #[.val (.int p0), .val (.int p1)] [])) (fun _ k => XS.icmpNo X0.here hx rfl (hb hby d7_2) rfl (flt hc2).1 k) ?_
    refine Go.step (g' := (mkF m 6 #[.val (.int p0), .val (.int p1)] [(.int p0)])) (fun _ k => XS.iloadN X0.here hx rfl (hb hby d7_5) rfl  k) ?_
    refine Go.step (g' := (mkF m 10 #[.val (.int p0), .val (.int p1)] [(.int p0)])) (fun _ k => XS.goto X0.here hx rfl (pc0 := 6) (pc' := 10) rfl (hb hby d7_6) (by decide) (by decide) k) ?_
    rw [show (f7_5 p0) = (f7_10 p0) from rfl]
    exact t10 p0
theorem own_vnan (p q : Int64) (i j : Int32) : Jvm.Free.Fl.NoNaN64 (FP.dsub (f5_0 p i) (f5_0 q j)) := Jvm.Free.Fl.dsub_out (Jvm.Free.Fl.i2d_fin _).noNaN (Jvm.Free.Fl.i2d_fin _)
theorem own_cmp {x : UInt64} (h : Jvm.Free.Fl.NoNaN64 x) : cmpValue (FP.dcmp x x) .l = 0 := by
  have e := Jvm.Free.Fl.dcmp_of_noNaN64 h
  revert e
  generalize FP.dcmp x x = o
  rcases o with _ | o
  · intro e; exact absurd e (by decide)
  · cases o <;> intro e
    · exact absurd e (by decide)
    · rfl
    · exact absurd e (by decide)
theorem d1_0 : decode prog_64_method_1_code 0 = .ok (.aload_n 0, 1) := by decide +kernel
theorem d1_1 : decode prog_64_method_1_code 1 = .ok (.invokespecial 1, 3) := by decide +kernel
theorem d1_4 : decode prog_64_method_1_code 4 = .ok (.aload_n 0, 1) := by decide +kernel
theorem d1_5 : decode prog_64_method_1_code 5 = .ok (.iconst 2, 1) := by decide +kernel
theorem d1_6 : decode prog_64_method_1_code 6 = .ok (.iload_n 1, 1) := by decide +kernel
theorem d1_7 : decode prog_64_method_1_code 7 = .ok (.imul, 1) := by decide +kernel
theorem d1_8 : decode prog_64_method_1_code 8 = .ok (.newarray .double, 2) := by decide +kernel
theorem d1_10 : decode prog_64_method_1_code 10 = .ok (.putfield 7, 3) := by decide +kernel
theorem d1_13 : decode prog_64_method_1_code 13 = .ok (.return_, 1) := by decide +kernel
theorem pn_1 : plainName "com/example/rhadamanthus/rhadamanthus/learn/Histogram" = true := by first | (simp [plainName, overriddenIn]; done) | decide +kernel
theorem ef_1 (m : MethodId) (o0 : Addr) (p1 : Int32) : entryFrame m #[(.ref o0), (.int p1)] 2 = mkF m 0 #[.val (.ref o0), .val (.int p1)] [] := by first | (simp [entryFrame, mkF, argsToLocals, Value.category]; done) | rfl
def QI (Z : State) (o0 : Addr) (h0 : Heap) (n0 : Nat) (v : Option Value) (h : Heap) (L : List Loc) : Prop :=
  v = none ∧ Fr n0 L ∧ Keep h0 h [o0] ∧ Exa Z h o0 "com/example/rhadamanthus/rhadamanthus/learn/Histogram" ∧ ∃ c : Addr, h0.size ≤ c ∧ Fld Z h o0 "com/example/rhadamanthus/rhadamanthus/learn/Histogram" "cells" "[D" (.ref c) ∧ IA Z h c .double 8 (fun k => .double ((fun _ => (0 : UInt64)) k))
set_option maxRecDepth 65536 in
set_option maxHeartbeats 40000000 in
theorem rm1 (l : Launch) (Z : State) (a0 : Array Value) (hw : ∀ d ∈ tables_1, d.before a0 Z = true) (ws : List Jvm.Cond) (o0 : Addr) (p1 : Int32)  (h0 : Heap) (n0 : Nat) (Z0 : n0 ≤ h0.size) (E_o0 : Exa Z h0 o0 "com/example/rhadamanthus/rhadamanthus/learn/Histogram") (g_o0 : n0 ≤ o0) (F_c : Fld Z h0 o0 "com/example/rhadamanthus/rhadamanthus/learn/Histogram" "cells" "[D" .null) (h4 : p1 = 4) :
    MetFree l (⟨"com/example/rhadamanthus/rhadamanthus/learn/Histogram", "<init>", "(I)V"⟩ : MethodName) (head1 (Jvm.Cond.code (⟨"com/example/rhadamanthus/rhadamanthus/learn/Histogram", "<init>", "(I)V"⟩ : MethodName) prog_64_method_1_code 2 none :: ws) ({ frames := 1, cells := 1, slots := 8, locals := 12 } : Room)) (fun a U => a = #[(.ref o0), (.int p1)] ∧ Z.Warmed39 U.vm ∧ U.heap = h0) (fun _ _ _ _ _ => True) (fun _ U o U' => ∃ v L, o = .returned v ∧ (QI Z o0 h0 n0) v U'.heap L ∧ FrameEnd U o U' L ({ frames := 1, cells := 1, slots := 8, locals := 12 } : Room).cells ({ frames := 1, cells := 1, slots := 8, locals := 12 } : Room).slots) := by
  refine MetFree.of_bodySF (plainFor_of_name pn_1) hisR ?_
  intro p e s m args below meth c s₁ Bd hml0 hP hK
  obtain ⟨rfl, hZ, hh⟩ := hP
  have hx := Bd.exec
  have hby := Bd.bytes
  have hlk : meth.locks = false := BodyLoose.notSynchronized Bd
  have hml : c.maxLocals = 2 := hml0
  have hown : s.vm.findClass "com/example/rhadamanthus/rhadamanthus/learn/Histogram" = some m.cls := findClass_of_methodNamed Bd.named
  have hnm := (name_of_methodNamed Bd.named Bd.method).1
  have X0 : Stand p l e ({ frames := 1, cells := 1, slots := 8, locals := 12 } : Room) s m #[(.ref o0), (.int p1)] below meth c s₁ ([] : List Loc) 0 0 := Stand.of_body Bd
  have e0 : s₁.heap = h0 := by rw [← hh, Bd.state]; rfl
  show Go p e below s 1 8 (QI Z o0 h0 n0) s₁ (entryFrame m #[(.ref o0), (.int p1)] 2)
  rw [ef_1 m o0 p1]
  have N0 := Fr.nil n0
  refine Go.step (g' := (mkF m 1 #[.val (.ref o0), .val (.int p1)] [(.ref o0)])) (fun _ k => XS.aloadN X0.here hx rfl (hb hby d1_0) rfl rfl  k) ?_
  obtain ⟨T1, X1, e1, st1⟩ := initO X0 hx hZ hown (hw _ (List.mem_of_getElem? (i := 6) rfl)) (hw _ (List.mem_of_getElem? (i := 7) rfl)) (hw _ (List.mem_of_getElem? (i := 8) rfl)) e0 (g := (mkF m 1 #[.val (.ref o0), .val (.int p1)] [(.ref o0)])) rfl (by rw [hml]; rfl) rfl (hb hby d1_1) (by decide) (W := 0) (by show 2 * 0 + _ ≤ _; exact Nat.le_of_eq rfl) (by decide)
  refine Go.step (g' := (mkF m 4 #[.val (.ref o0), .val (.int p1)] [])) st1 ?_
  refine Go.step (g' := (mkF m 5 #[.val (.ref o0), .val (.int p1)] [(.ref o0)])) (fun _ k => XS.aloadN X1.here hx rfl (hb hby d1_4) rfl rfl  k) ?_
  refine Go.step (g' := (mkF m 6 #[.val (.ref o0), .val (.int p1)] [(.int (2 : Int32)), (.ref o0)])) (fun _ k => XS.iconst X1.here hx rfl (hb hby d1_5) k) ?_
  refine Go.step (g' := (mkF m 7 #[.val (.ref o0), .val (.int p1)] [(.int p1), (.int (2 : Int32)), (.ref o0)])) (fun _ k => XS.iloadN X1.here hx rfl (hb hby d1_6) rfl  k) ?_
  refine Go.step (g' := (mkF m 8 #[.val (.ref o0), .val (.int p1)] [(.int ((2 : Int32) * p1)), (.ref o0)])) (fun _ k => XS.imul X1.here hx rfl (hb hby d1_7) rfl k) ?_
  rw [show ((2 : Int32) * p1) = (8 : Int32) from by rw [h4]; decide]
  obtain ⟨T2, h2, k2, X2, e2, E2, A2, st2⟩ := newP X1 hx hZ (hw _ (List.mem_of_getElem? (i := 9) rfl)) e1 (g := (mkF m 8 #[.val (.ref o0), .val (.int p1)] [(.int (8 : Int32)), (.ref o0)])) rfl (hb hby d1_8) rfl (by decide) (cap := 8) (by decide) (by decide) (by decide) (by decide)
  obtain ⟨b2, g2⟩ : ∃ z, z = h0.size := ⟨_, rfl⟩
  rw [← g2] at A2 st2
  have ne_o0_b2 : o0 ≠ b2 := Nat.ne_of_lt (Nat.lt_of_lt_of_le F_c.lt (Nat.le_of_eq g2.symm))
  have g_b2 : n0 ≤ b2 := Nat.le_trans Z0 (Nat.le_of_eq g2.symm)
  have sz_b2 : h0.size ≤ b2 := Nat.le_trans (Keep.refl h0 [o0]).1 (Nat.le_of_eq g2.symm)
  have V2 : IA Z h2 b2 .double 8 (fun k => .double ((fun _ => (0 : UInt64)) k)) := IA.of_new A2 (by decide)
  refine Go.step (g' := (mkF m 10 #[.val (.ref o0), .val (.int p1)] [(.ref b2), (.ref o0)])) st2 ?_
  obtain ⟨T3, h3, X3, e3, W3, st3⟩ := putF X2 hx hZ hown (host := "") (Or.inl (hw _ (List.mem_of_getElem? (i := 10) rfl))) Via.refl e2 (F_c.ext E2) (E_o0.ext E2) (Or.inr ⟨(hw _ (List.mem_of_getElem? (i := 11) rfl)), rfl, hnm⟩) (hw _ (List.mem_of_getElem? (i := 1) rfl)) (ty := (.array .double)) (by decide) rfl rfl (g := (mkF m 10 #[.val (.ref o0), .val (.int p1)] [(.ref b2), (.ref o0)])) rfl rfl (hb hby d1_10)
  obtain ⟨lc3, X3, N3⟩ := own_pack X3 (Fr.snoc X3 N0 g_o0)
  have Fw3 := (F_c.ext E2).same W3
  refine Go.step (g' := (mkF m 13 #[.val (.ref o0), .val (.int p1)] [])) st3 ?_
  have Q4 := (((Keep.refl h0 [o0]).ext E2).wr W3 (Or.inl (List.mem_of_getElem? (i := 0) rfl)))
  exact Go.ret0 X3 hx hlk Bd.returns (hb hby d1_13) (by decide) (by decide) (by rw [e3]; exact ⟨rfl, N3, Q4, ((E_o0.ext E2).wr W3), b2, sz_b2, Fw3, (V2.other W3 (Ne.symm ne_o0_b2))⟩)
theorem d3_0 : decode prog_64_method_3_code 0 = .ok (.aload_n 0, 1) := by decide +kernel
theorem d3_1 : decode prog_64_method_3_code 1 = .ok (.getfield 7, 3) := by decide +kernel
theorem d3_4 : decode prog_64_method_3_code 4 = .ok (.areturn, 1) := by decide +kernel
theorem pn_3 : plainName "com/example/rhadamanthus/rhadamanthus/learn/Histogram" = true := by first | (simp [plainName, overriddenIn]; done) | decide +kernel
theorem ef_3 (m : MethodId) (o0 : Addr) : entryFrame m #[(.ref o0)] 1 = mkF m 0 #[.val (.ref o0)] [] := by first | (simp [entryFrame, mkF, argsToLocals, Value.category]; done) | rfl
def f3_0 (x : Addr) : Addr := x
set_option maxRecDepth 65536 in
set_option maxHeartbeats 40000000 in
theorem rm3 (l : Launch) (Z : State) (a0 : Array Value) (hw : ∀ d ∈ tables_1, d.before a0 Z = true) (ws : List Jvm.Cond) (o0 : Addr) (x : Addr) (h0 : Heap) (Fx : Fld Z h0 o0 "com/example/rhadamanthus/rhadamanthus/learn/Histogram" "cells" "[D" (.ref x)) :
    MetFree l (⟨"com/example/rhadamanthus/rhadamanthus/learn/Histogram", "cells", "()[D"⟩ : MethodName) (head1 (Jvm.Cond.code (⟨"com/example/rhadamanthus/rhadamanthus/learn/Histogram", "cells", "()[D"⟩ : MethodName) prog_64_method_3_code 1 (some (.array .double)) :: ws) ({ frames := 0, cells := 0, slots := 0, locals := 0 } : Room)) (fun a U => a = #[(.ref o0)] ∧ Z.Warmed39 U.vm ∧ U.heap = h0) (fun _ _ _ _ _ => True) (fun _ U o U' => ∃ v L, o = .returned v ∧ (PureQ (.ref (f3_0 x)) h0) v U'.heap L ∧ FrameEnd U o U' L ({ frames := 0, cells := 0, slots := 0, locals := 0 } : Room).cells ({ frames := 0, cells := 0, slots := 0, locals := 0 } : Room).slots) := by
  refine MetFree.of_bodySF (plainFor_of_name pn_3) hisR ?_
  intro p e s m args below meth c s₁ Bd hml0 hP hK
  obtain ⟨rfl, hZ, hh⟩ := hP
  have hx := Bd.exec
  have hby := Bd.bytes
  have hlk : meth.locks = false := BodyLoose.notSynchronized Bd
  have hml : c.maxLocals = 1 := hml0
  have hown : s.vm.findClass "com/example/rhadamanthus/rhadamanthus/learn/Histogram" = some m.cls := findClass_of_methodNamed Bd.named
  have hnm := (name_of_methodNamed Bd.named Bd.method).1
  have X0 : Stand p l e ({ frames := 0, cells := 0, slots := 0, locals := 0 } : Room) s m #[(.ref o0)] below meth c s₁ ([] : List Loc) 0 0 := Stand.of_body Bd
  have e0 : s₁.heap = h0 := by rw [← hh, Bd.state]; rfl
  show Go p e below s 0 0 (PureQ (.ref (f3_0 x)) h0) s₁ (entryFrame m #[(.ref o0)] 1)
  rw [ef_3 m o0]
  refine Go.step (g' := (mkF m 1 #[.val (.ref o0)] [(.ref o0)])) (fun _ k => XS.aloadN X0.here hx rfl (hb hby d3_0) rfl rfl  k) ?_
  obtain ⟨T1, X1, e1, st1⟩ := getF X0 hx hZ hown (host := "") (Or.inl (hw _ (List.mem_of_getElem? (i := 10) rfl))) Via.refl e0 Fx (g := (mkF m 1 #[.val (.ref o0)] [(.ref o0)])) rfl rfl (hb hby d3_1)
  refine Go.step (g' := (mkF m 4 #[.val (.ref o0)] [(.ref x)])) st1 ?_
  exact Go.retW X1 hx hlk (t := (.array .double)) Bd.returns rfl (Or.inr (Or.inr (Or.inr (Or.inr ⟨rfl, rfl, rfl⟩)))) (hb hby d3_4) (by decide) (by decide) ⟨rfl, rfl, e1⟩
theorem d4_0 : decode method_4_code 0 = .ok (.aload_n 0, 1) := by decide +kernel
theorem d4_1 : decode method_4_code 1 = .ok (.iconst 0, 1) := by decide +kernel
theorem d4_2 : decode method_4_code 2 = .ok (.lload_n 1, 1) := by decide +kernel
theorem d4_3 : decode method_4_code 3 = .ok (.iconst 0, 1) := by decide +kernel
theorem d4_4 : decode method_4_code 4 = .ok (.invokestatic 40, 3) := by decide +kernel
theorem d4_7 : decode method_4_code 7 = .ok (.dastore, 1) := by decide +kernel
theorem d4_8 : decode method_4_code 8 = .ok (.aload_n 0, 1) := by decide +kernel
theorem d4_9 : decode method_4_code 9 = .ok (.iconst 1, 1) := by decide +kernel
theorem d4_10 : decode method_4_code 10 = .ok (.lload_n 1, 1) := by decide +kernel
theorem d4_11 : decode method_4_code 11 = .ok (.iconst 1, 1) := by decide +kernel
theorem d4_12 : decode method_4_code 12 = .ok (.invokestatic 40, 3) := by decide +kernel
theorem d4_15 : decode method_4_code 15 = .ok (.dastore, 1) := by decide +kernel
theorem d4_16 : decode method_4_code 16 = .ok (.aload_n 0, 1) := by decide +kernel
theorem d4_17 : decode method_4_code 17 = .ok (.iconst 2, 1) := by decide +kernel
theorem d4_18 : decode method_4_code 18 = .ok (.lload_n 1, 1) := by decide +kernel
theorem d4_19 : decode method_4_code 19 = .ok (.iconst 2, 1) := by decide +kernel
theorem d4_20 : decode method_4_code 20 = .ok (.invokestatic 40, 3) := by decide +kernel
theorem d4_23 : decode method_4_code 23 = .ok (.dastore, 1) := by decide +kernel
theorem d4_24 : decode method_4_code 24 = .ok (.aload_n 0, 1) := by decide +kernel
theorem d4_25 : decode method_4_code 25 = .ok (.iconst 3, 1) := by decide +kernel
theorem d4_26 : decode method_4_code 26 = .ok (.lload_n 1, 1) := by decide +kernel
theorem d4_27 : decode method_4_code 27 = .ok (.iconst 3, 1) := by decide +kernel
theorem d4_28 : decode method_4_code 28 = .ok (.invokestatic 40, 3) := by decide +kernel
theorem d4_31 : decode method_4_code 31 = .ok (.dastore, 1) := by decide +kernel
theorem d4_32 : decode method_4_code 32 = .ok (.aload_n 0, 1) := by decide +kernel
theorem d4_33 : decode method_4_code 33 = .ok (.iconst 4, 1) := by decide +kernel
theorem d4_34 : decode method_4_code 34 = .ok (.lload_n 1, 1) := by decide +kernel
theorem d4_35 : decode method_4_code 35 = .ok (.iconst 4, 1) := by decide +kernel
theorem d4_36 : decode method_4_code 36 = .ok (.invokestatic 40, 3) := by decide +kernel
theorem d4_39 : decode method_4_code 39 = .ok (.dastore, 1) := by decide +kernel
theorem d4_40 : decode method_4_code 40 = .ok (.aload_n 0, 1) := by decide +kernel
theorem d4_41 : decode method_4_code 41 = .ok (.iconst 5, 1) := by decide +kernel
theorem d4_42 : decode method_4_code 42 = .ok (.lload_n 1, 1) := by decide +kernel
theorem d4_43 : decode method_4_code 43 = .ok (.iconst 5, 1) := by decide +kernel
theorem d4_44 : decode method_4_code 44 = .ok (.invokestatic 40, 3) := by decide +kernel
theorem d4_47 : decode method_4_code 47 = .ok (.dastore, 1) := by decide +kernel
theorem d4_48 : decode method_4_code 48 = .ok (.aload_n 0, 1) := by decide +kernel
theorem d4_49 : decode method_4_code 49 = .ok (.bipush 6, 2) := by decide +kernel
theorem d4_51 : decode method_4_code 51 = .ok (.lload_n 1, 1) := by decide +kernel
theorem d4_52 : decode method_4_code 52 = .ok (.bipush 6, 2) := by decide +kernel
theorem d4_54 : decode method_4_code 54 = .ok (.invokestatic 40, 3) := by decide +kernel
theorem d4_57 : decode method_4_code 57 = .ok (.dastore, 1) := by decide +kernel
theorem d4_58 : decode method_4_code 58 = .ok (.aload_n 0, 1) := by decide +kernel
theorem d4_59 : decode method_4_code 59 = .ok (.bipush 7, 2) := by decide +kernel
theorem d4_61 : decode method_4_code 61 = .ok (.lload_n 1, 1) := by decide +kernel
theorem d4_62 : decode method_4_code 62 = .ok (.bipush 7, 2) := by decide +kernel
theorem d4_64 : decode method_4_code 64 = .ok (.invokestatic 40, 3) := by decide +kernel
theorem d4_67 : decode method_4_code 67 = .ok (.dastore, 1) := by decide +kernel
theorem d4_68 : decode method_4_code 68 = .ok (.return_, 1) := by decide +kernel
theorem pn_4 : plainName "com/example/rhadamanthus/rhadamanthus/learn/HistogramSubtractColumnsPinLaw" = true := by first | (simp [plainName, overriddenIn]; done) | decide +kernel
theorem ef_4 (m : MethodId) (o0 : Addr) (q1 : Int64) : entryFrame m #[(.ref o0), (.long q1)] 3 = mkF m 0 #[.val (.ref o0), .val (.long q1), .second] [] := by first | (simp [entryFrame, mkF, argsToLocals, Value.category]; done) | rfl
def own_v (p : Int64) (k : Nat) : UInt64 := (f5_0 p k.toInt32)
def QA (Z : State) (a : Addr) (g : Nat → UInt64) (h0 : Heap) (n0 : Nat) (v : Option Value) (h : Heap) (L : List Loc) : Prop := v = none ∧ Fr n0 L ∧ Keep h0 h [a] ∧ IA Z h a .double 8 (fun k => .double (g k))
set_option maxRecDepth 65536 in
set_option maxHeartbeats 40000000 in
theorem rm4 (l : Launch) (Z : State) (a0 : Array Value) (hw : ∀ d ∈ tables_1, d.before a0 Z = true) (ws : List Jvm.Cond) (o0 : Addr) (q1 : Int64) (g : Nat → UInt64) (h0 : Heap) (n0 : Nat) (Z0 : n0 ≤ h0.size) (A_c : IA Z h0 o0 .double 8 (fun k => .double (g k))) (g_o0 : n0 ≤ o0) :
    MetFree l (⟨"com/example/rhadamanthus/rhadamanthus/learn/HistogramSubtractColumnsPinLaw", "fill", "([DJ)V"⟩ : MethodName) (head1 (Jvm.Cond.code (⟨"com/example/rhadamanthus/rhadamanthus/learn/HistogramSubtractColumnsPinLaw", "fill", "([DJ)V"⟩ : MethodName) method_4_code 3 none :: ws) ({ frames := 1, cells := 0, slots := 0, locals := 16 } : Room)) (fun a U => a = #[(.ref o0), (.long q1)] ∧ Z.Warmed39 U.vm ∧ U.heap = h0) (fun _ _ _ _ _ => True) (fun _ U o U' => ∃ v L, o = .returned v ∧ (QA Z o0 (own_v q1) h0 n0) v U'.heap L ∧ FrameEnd U o U' L ({ frames := 1, cells := 0, slots := 0, locals := 16 } : Room).cells ({ frames := 1, cells := 0, slots := 0, locals := 16 } : Room).slots) := by
  refine MetFree.of_bodySF (plainFor_of_name pn_4) hisR ?_
  intro p e s m args below meth c s₁ Bd hml0 hP hK
  obtain ⟨rfl, hZ, hh⟩ := hP
  have hx := Bd.exec
  have hby := Bd.bytes
  have hlk : meth.locks = false := BodyLoose.notSynchronized Bd
  have hml : c.maxLocals = 3 := hml0
  have hown : s.vm.findClass "com/example/rhadamanthus/rhadamanthus/learn/HistogramSubtractColumnsPinLaw" = some m.cls := findClass_of_methodNamed Bd.named
  have hnm := (name_of_methodNamed Bd.named Bd.method).1
  have X0 : Stand p l e ({ frames := 1, cells := 0, slots := 0, locals := 16 } : Room) s m #[(.ref o0), (.long q1)] below meth c s₁ ([] : List Loc) 0 0 := Stand.of_body Bd
  have e0 : s₁.heap = h0 := by rw [← hh, Bd.state]; rfl
  show Go p e below s 0 0 (QA Z o0 (own_v q1) h0 n0) s₁ (entryFrame m #[(.ref o0), (.long q1)] 3)
  rw [ef_4 m o0 q1]
  have N0 := Fr.nil n0
  refine Go.step (g' := (mkF m 1 #[.val (.ref o0), .val (.long q1), .second] [(.ref o0)])) (fun _ k => XS.aloadN X0.here hx rfl (hb hby d4_0) rfl rfl  k) ?_
  refine Go.step (g' := (mkF m 2 #[.val (.ref o0), .val (.long q1), .second] [(.int (0 : Int32)), (.ref o0)])) (fun _ k => XS.iconst X0.here hx rfl (hb hby d4_1) k) ?_
  refine Go.step (g' := (mkF m 3 #[.val (.ref o0), .val (.long q1), .second] [(.long q1), (.int (0 : Int32)), (.ref o0)])) (fun _ k => XS.lloadN X0.here hx rfl (hb hby d4_2) rfl  k) ?_
  refine Go.step (g' := (mkF m 4 #[.val (.ref o0), .val (.long q1), .second] [(.int (0 : Int32)), (.long q1), (.int (0 : Int32)), (.ref o0)])) (fun _ k => XS.iconst X0.here hx rfl (hb hby d4_3) k) ?_
  obtain ⟨_, _, ⟨T1, L1, k1, n1⟩, -, X1, ⟨Lc1, hQ1, l1, y1, z1⟩, st1⟩ := Jvm.LawKit.callS X0 hx (y := (⟨"com/example/rhadamanthus/rhadamanthus/learn/HistogramSubtractColumnsPinLaw", "v", "(JI)D"⟩ : MethodName)) hown (mvT hZ (hw _ (List.mem_of_getElem? (i := 21) rfl))) (mvT hZ (hw _ (List.mem_of_getElem? (i := 22) rfl))) (mvT hZ (hw _ (List.mem_of_getElem? (i := 19) rfl))) (mvT hZ (hw _ (List.mem_of_getElem? (i := 23) rfl))) (by decide) (backOf (W := 2) (rm5 l Z a0 hw [] q1 (0 : Int32) h0 ) hZ (hw _ (List.mem_of_getElem? (i := 23) rfl)) (hw _ (List.mem_of_getElem? (i := 19) rfl)) (by decide) (by decide)) (g := (mkF m 4 #[.val (.ref o0), .val (.long q1), .second] [(.int (0 : Int32)), (.long q1), (.int (0 : Int32)), (.ref o0)])) rfl (by rw [hml]; rfl) (argsL := [(.long q1), (.int (0 : Int32))]) (rest := [(.int (0 : Int32)), (.ref o0)]) (lenOf pd_0 rfl) rfl (by show 2 * 0 + _ ≤ _; exact Nat.le_of_eq rfl) (hb hby d4_4) (fun _ _ => ⟨rfl, e0, (by decide : 0 + 0 ≤ _), (by decide : 0 + 0 ≤ _)⟩)
  dsimp only [Pt.U, Pt.locs, Pt.cells, Pt.slots] at X1 l1 y1 z1 st1 hQ1
  subst l1 y1 z1
  obtain ⟨rfl, rfl, e1⟩ := hQ1
  try rw [List.append_nil] at X1
  refine Go.step (g' := (mkF m 7 #[.val (.ref o0), .val (.long q1), .second] [(.double (f5_0 q1 (0 : Int32))), (.int (0 : Int32)), (.ref o0)])) st1 ?_
  obtain ⟨T2, h2, lc2, X2, e2, W2, N2, V2, st2⟩ := putAD X1 hx hZ e1 A_c (j := (0 : Int32)) (by decide) N0 g_o0 (gf := (mkF m 7 #[.val (.ref o0), .val (.long q1), .second] [(.double (f5_0 q1 (0 : Int32))), (.int (0 : Int32)), (.ref o0)])) rfl rfl (hb hby d4_7)
  refine Go.step (g' := (mkF m 8 #[.val (.ref o0), .val (.long q1), .second] [])) st2 ?_
  have Q3 := ((Keep.refl h0 [o0]).wr W2 (Or.inl (List.mem_of_getElem? (i := 0) rfl)))
  refine Go.step (g' := (mkF m 9 #[.val (.ref o0), .val (.long q1), .second] [(.ref o0)])) (fun _ k => XS.aloadN X2.here hx rfl (hb hby d4_8) rfl rfl  k) ?_
  refine Go.step (g' := (mkF m 10 #[.val (.ref o0), .val (.long q1), .second] [(.int (1 : Int32)), (.ref o0)])) (fun _ k => XS.iconst X2.here hx rfl (hb hby d4_9) k) ?_
  refine Go.step (g' := (mkF m 11 #[.val (.ref o0), .val (.long q1), .second] [(.long q1), (.int (1 : Int32)), (.ref o0)])) (fun _ k => XS.lloadN X2.here hx rfl (hb hby d4_10) rfl  k) ?_
  refine Go.step (g' := (mkF m 12 #[.val (.ref o0), .val (.long q1), .second] [(.int (1 : Int32)), (.long q1), (.int (1 : Int32)), (.ref o0)])) (fun _ k => XS.iconst X2.here hx rfl (hb hby d4_11) k) ?_
  obtain ⟨_, _, ⟨T4, L4, k4, n4⟩, -, X4, ⟨Lc4, hQ4, l4, y4, z4⟩, st4⟩ := Jvm.LawKit.callS X2 hx (y := (⟨"com/example/rhadamanthus/rhadamanthus/learn/HistogramSubtractColumnsPinLaw", "v", "(JI)D"⟩ : MethodName)) hown (mvT hZ (hw _ (List.mem_of_getElem? (i := 21) rfl))) (mvT hZ (hw _ (List.mem_of_getElem? (i := 22) rfl))) (mvT hZ (hw _ (List.mem_of_getElem? (i := 19) rfl))) (mvT hZ (hw _ (List.mem_of_getElem? (i := 23) rfl))) (by decide) (backOf (W := 2) (rm5 l Z a0 hw [] q1 (1 : Int32) h2 ) hZ (hw _ (List.mem_of_getElem? (i := 23) rfl)) (hw _ (List.mem_of_getElem? (i := 19) rfl)) (by decide) (by decide)) (g := (mkF m 12 #[.val (.ref o0), .val (.long q1), .second] [(.int (1 : Int32)), (.long q1), (.int (1 : Int32)), (.ref o0)])) rfl (by rw [hml]; rfl) (argsL := [(.long q1), (.int (1 : Int32))]) (rest := [(.int (1 : Int32)), (.ref o0)]) (lenOf pd_0 rfl) rfl (by show 2 * 0 + _ ≤ _; exact Nat.le_of_eq rfl) (hb hby d4_12) (fun _ _ => ⟨rfl, e2, (by decide : 0 + 0 ≤ _), (by decide : 0 + 0 ≤ _)⟩)
  dsimp only [Pt.U, Pt.locs, Pt.cells, Pt.slots] at X4 l4 y4 z4 st4 hQ4
  subst l4 y4 z4
  obtain ⟨rfl, rfl, e4⟩ := hQ4
  try rw [List.append_nil] at X4
  refine Go.step (g' := (mkF m 15 #[.val (.ref o0), .val (.long q1), .second] [(.double (f5_0 q1 (1 : Int32))), (.int (1 : Int32)), (.ref o0)])) st4 ?_
  obtain ⟨T5, h5, lc5, X5, e5, W5, N5, V5, st5⟩ := putAD X4 hx hZ e4 V2 (j := (1 : Int32)) (by decide) N2 g_o0 (gf := (mkF m 15 #[.val (.ref o0), .val (.long q1), .second] [(.double (f5_0 q1 (1 : Int32))), (.int (1 : Int32)), (.ref o0)])) rfl rfl (hb hby d4_15)
  refine Go.step (g' := (mkF m 16 #[.val (.ref o0), .val (.long q1), .second] [])) st5 ?_
  have Q6 := (Nat.le_trans (Nat.le_trans Z0 (Keep.of_wr W2).1) (Keep.of_wr W5).1)
  refine Go.step (g' := (mkF m 17 #[.val (.ref o0), .val (.long q1), .second] [(.ref o0)])) (fun _ k => XS.aloadN X5.here hx rfl (hb hby d4_16) rfl rfl  k) ?_
  refine Go.step (g' := (mkF m 18 #[.val (.ref o0), .val (.long q1), .second] [(.int (2 : Int32)), (.ref o0)])) (fun _ k => XS.iconst X5.here hx rfl (hb hby d4_17) k) ?_
  refine Go.step (g' := (mkF m 19 #[.val (.ref o0), .val (.long q1), .second] [(.long q1), (.int (2 : Int32)), (.ref o0)])) (fun _ k => XS.lloadN X5.here hx rfl (hb hby d4_18) rfl  k) ?_
  refine Go.step (g' := (mkF m 20 #[.val (.ref o0), .val (.long q1), .second] [(.int (2 : Int32)), (.long q1), (.int (2 : Int32)), (.ref o0)])) (fun _ k => XS.iconst X5.here hx rfl (hb hby d4_19) k) ?_
  obtain ⟨_, _, ⟨T7, L7, k7, n7⟩, -, X7, ⟨Lc7, hQ7, l7, y7, z7⟩, st7⟩ := Jvm.LawKit.callS X5 hx (y := (⟨"com/example/rhadamanthus/rhadamanthus/learn/HistogramSubtractColumnsPinLaw", "v", "(JI)D"⟩ : MethodName)) hown (mvT hZ (hw _ (List.mem_of_getElem? (i := 21) rfl))) (mvT hZ (hw _ (List.mem_of_getElem? (i := 22) rfl))) (mvT hZ (hw _ (List.mem_of_getElem? (i := 19) rfl))) (mvT hZ (hw _ (List.mem_of_getElem? (i := 23) rfl))) (by decide) (backOf (W := 2) (rm5 l Z a0 hw [] q1 (2 : Int32) h5 ) hZ (hw _ (List.mem_of_getElem? (i := 23) rfl)) (hw _ (List.mem_of_getElem? (i := 19) rfl)) (by decide) (by decide)) (g := (mkF m 20 #[.val (.ref o0), .val (.long q1), .second] [(.int (2 : Int32)), (.long q1), (.int (2 : Int32)), (.ref o0)])) rfl (by rw [hml]; rfl) (argsL := [(.long q1), (.int (2 : Int32))]) (rest := [(.int (2 : Int32)), (.ref o0)]) (lenOf pd_0 rfl) rfl (by show 2 * 0 + _ ≤ _; exact Nat.le_of_eq rfl) (hb hby d4_20) (fun _ _ => ⟨rfl, e5, (by decide : 0 + 0 ≤ _), (by decide : 0 + 0 ≤ _)⟩)
  dsimp only [Pt.U, Pt.locs, Pt.cells, Pt.slots] at X7 l7 y7 z7 st7 hQ7
  subst l7 y7 z7
  obtain ⟨rfl, rfl, e7⟩ := hQ7
  try rw [List.append_nil] at X7
  refine Go.step (g' := (mkF m 23 #[.val (.ref o0), .val (.long q1), .second] [(.double (f5_0 q1 (2 : Int32))), (.int (2 : Int32)), (.ref o0)])) st7 ?_
  obtain ⟨T8, h8, lc8, X8, e8, W8, N8, V8, st8⟩ := putAD X7 hx hZ e7 V5 (j := (2 : Int32)) (by decide) N5 g_o0 (gf := (mkF m 23 #[.val (.ref o0), .val (.long q1), .second] [(.double (f5_0 q1 (2 : Int32))), (.int (2 : Int32)), (.ref o0)])) rfl rfl (hb hby d4_23)
  refine Go.step (g' := (mkF m 24 #[.val (.ref o0), .val (.long q1), .second] [])) st8 ?_
  have Q9 := ((Q3.wr W5 (Or.inl (List.mem_of_getElem? (i := 0) rfl))).wr W8 (Or.inl (List.mem_of_getElem? (i := 0) rfl)))
  refine Go.step (g' := (mkF m 25 #[.val (.ref o0), .val (.long q1), .second] [(.ref o0)])) (fun _ k => XS.aloadN X8.here hx rfl (hb hby d4_24) rfl rfl  k) ?_
  refine Go.step (g' := (mkF m 26 #[.val (.ref o0), .val (.long q1), .second] [(.int (3 : Int32)), (.ref o0)])) (fun _ k => XS.iconst X8.here hx rfl (hb hby d4_25) k) ?_
  refine Go.step (g' := (mkF m 27 #[.val (.ref o0), .val (.long q1), .second] [(.long q1), (.int (3 : Int32)), (.ref o0)])) (fun _ k => XS.lloadN X8.here hx rfl (hb hby d4_26) rfl  k) ?_
  refine Go.step (g' := (mkF m 28 #[.val (.ref o0), .val (.long q1), .second] [(.int (3 : Int32)), (.long q1), (.int (3 : Int32)), (.ref o0)])) (fun _ k => XS.iconst X8.here hx rfl (hb hby d4_27) k) ?_
  obtain ⟨_, _, ⟨T10, L10, k10, n10⟩, -, X10, ⟨Lc10, hQ10, l10, y10, z10⟩, st10⟩ := Jvm.LawKit.callS X8 hx (y := (⟨"com/example/rhadamanthus/rhadamanthus/learn/HistogramSubtractColumnsPinLaw", "v", "(JI)D"⟩ : MethodName)) hown (mvT hZ (hw _ (List.mem_of_getElem? (i := 21) rfl))) (mvT hZ (hw _ (List.mem_of_getElem? (i := 22) rfl))) (mvT hZ (hw _ (List.mem_of_getElem? (i := 19) rfl))) (mvT hZ (hw _ (List.mem_of_getElem? (i := 23) rfl))) (by decide) (backOf (W := 2) (rm5 l Z a0 hw [] q1 (3 : Int32) h8 ) hZ (hw _ (List.mem_of_getElem? (i := 23) rfl)) (hw _ (List.mem_of_getElem? (i := 19) rfl)) (by decide) (by decide)) (g := (mkF m 28 #[.val (.ref o0), .val (.long q1), .second] [(.int (3 : Int32)), (.long q1), (.int (3 : Int32)), (.ref o0)])) rfl (by rw [hml]; rfl) (argsL := [(.long q1), (.int (3 : Int32))]) (rest := [(.int (3 : Int32)), (.ref o0)]) (lenOf pd_0 rfl) rfl (by show 2 * 0 + _ ≤ _; exact Nat.le_of_eq rfl) (hb hby d4_28) (fun _ _ => ⟨rfl, e8, (by decide : 0 + 0 ≤ _), (by decide : 0 + 0 ≤ _)⟩)
  dsimp only [Pt.U, Pt.locs, Pt.cells, Pt.slots] at X10 l10 y10 z10 st10 hQ10
  subst l10 y10 z10
  obtain ⟨rfl, rfl, e10⟩ := hQ10
  try rw [List.append_nil] at X10
  refine Go.step (g' := (mkF m 31 #[.val (.ref o0), .val (.long q1), .second] [(.double (f5_0 q1 (3 : Int32))), (.int (3 : Int32)), (.ref o0)])) st10 ?_
  obtain ⟨T11, h11, lc11, X11, e11, W11, N11, V11, st11⟩ := putAD X10 hx hZ e10 V8 (j := (3 : Int32)) (by decide) N8 g_o0 (gf := (mkF m 31 #[.val (.ref o0), .val (.long q1), .second] [(.double (f5_0 q1 (3 : Int32))), (.int (3 : Int32)), (.ref o0)])) rfl rfl (hb hby d4_31)
  refine Go.step (g' := (mkF m 32 #[.val (.ref o0), .val (.long q1), .second] [])) st11 ?_
  have Q12 := (Nat.le_trans (Nat.le_trans Q6 (Keep.of_wr W8).1) (Keep.of_wr W11).1)
  refine Go.step (g' := (mkF m 33 #[.val (.ref o0), .val (.long q1), .second] [(.ref o0)])) (fun _ k => XS.aloadN X11.here hx rfl (hb hby d4_32) rfl rfl  k) ?_
  refine Go.step (g' := (mkF m 34 #[.val (.ref o0), .val (.long q1), .second] [(.int (4 : Int32)), (.ref o0)])) (fun _ k => XS.iconst X11.here hx rfl (hb hby d4_33) k) ?_
  refine Go.step (g' := (mkF m 35 #[.val (.ref o0), .val (.long q1), .second] [(.long q1), (.int (4 : Int32)), (.ref o0)])) (fun _ k => XS.lloadN X11.here hx rfl (hb hby d4_34) rfl  k) ?_
  refine Go.step (g' := (mkF m 36 #[.val (.ref o0), .val (.long q1), .second] [(.int (4 : Int32)), (.long q1), (.int (4 : Int32)), (.ref o0)])) (fun _ k => XS.iconst X11.here hx rfl (hb hby d4_35) k) ?_
  obtain ⟨_, _, ⟨T13, L13, k13, n13⟩, -, X13, ⟨Lc13, hQ13, l13, y13, z13⟩, st13⟩ := Jvm.LawKit.callS X11 hx (y := (⟨"com/example/rhadamanthus/rhadamanthus/learn/HistogramSubtractColumnsPinLaw", "v", "(JI)D"⟩ : MethodName)) hown (mvT hZ (hw _ (List.mem_of_getElem? (i := 21) rfl))) (mvT hZ (hw _ (List.mem_of_getElem? (i := 22) rfl))) (mvT hZ (hw _ (List.mem_of_getElem? (i := 19) rfl))) (mvT hZ (hw _ (List.mem_of_getElem? (i := 23) rfl))) (by decide) (backOf (W := 2) (rm5 l Z a0 hw [] q1 (4 : Int32) h11 ) hZ (hw _ (List.mem_of_getElem? (i := 23) rfl)) (hw _ (List.mem_of_getElem? (i := 19) rfl)) (by decide) (by decide)) (g := (mkF m 36 #[.val (.ref o0), .val (.long q1), .second] [(.int (4 : Int32)), (.long q1), (.int (4 : Int32)), (.ref o0)])) rfl (by rw [hml]; rfl) (argsL := [(.long q1), (.int (4 : Int32))]) (rest := [(.int (4 : Int32)), (.ref o0)]) (lenOf pd_0 rfl) rfl (by show 2 * 0 + _ ≤ _; exact Nat.le_of_eq rfl) (hb hby d4_36) (fun _ _ => ⟨rfl, e11, (by decide : 0 + 0 ≤ _), (by decide : 0 + 0 ≤ _)⟩)
  dsimp only [Pt.U, Pt.locs, Pt.cells, Pt.slots] at X13 l13 y13 z13 st13 hQ13
  subst l13 y13 z13
  obtain ⟨rfl, rfl, e13⟩ := hQ13
  try rw [List.append_nil] at X13
  refine Go.step (g' := (mkF m 39 #[.val (.ref o0), .val (.long q1), .second] [(.double (f5_0 q1 (4 : Int32))), (.int (4 : Int32)), (.ref o0)])) st13 ?_
  obtain ⟨T14, h14, lc14, X14, e14, W14, N14, V14, st14⟩ := putAD X13 hx hZ e13 V11 (j := (4 : Int32)) (by decide) N11 g_o0 (gf := (mkF m 39 #[.val (.ref o0), .val (.long q1), .second] [(.double (f5_0 q1 (4 : Int32))), (.int (4 : Int32)), (.ref o0)])) rfl rfl (hb hby d4_39)
  refine Go.step (g' := (mkF m 40 #[.val (.ref o0), .val (.long q1), .second] [])) st14 ?_
  have Q15 := ((Q9.wr W11 (Or.inl (List.mem_of_getElem? (i := 0) rfl))).wr W14 (Or.inl (List.mem_of_getElem? (i := 0) rfl)))
  refine Go.step (g' := (mkF m 41 #[.val (.ref o0), .val (.long q1), .second] [(.ref o0)])) (fun _ k => XS.aloadN X14.here hx rfl (hb hby d4_40) rfl rfl  k) ?_
  refine Go.step (g' := (mkF m 42 #[.val (.ref o0), .val (.long q1), .second] [(.int (5 : Int32)), (.ref o0)])) (fun _ k => XS.iconst X14.here hx rfl (hb hby d4_41) k) ?_
  refine Go.step (g' := (mkF m 43 #[.val (.ref o0), .val (.long q1), .second] [(.long q1), (.int (5 : Int32)), (.ref o0)])) (fun _ k => XS.lloadN X14.here hx rfl (hb hby d4_42) rfl  k) ?_
  refine Go.step (g' := (mkF m 44 #[.val (.ref o0), .val (.long q1), .second] [(.int (5 : Int32)), (.long q1), (.int (5 : Int32)), (.ref o0)])) (fun _ k => XS.iconst X14.here hx rfl (hb hby d4_43) k) ?_
  obtain ⟨_, _, ⟨T16, L16, k16, n16⟩, -, X16, ⟨Lc16, hQ16, l16, y16, z16⟩, st16⟩ := Jvm.LawKit.callS X14 hx (y := (⟨"com/example/rhadamanthus/rhadamanthus/learn/HistogramSubtractColumnsPinLaw", "v", "(JI)D"⟩ : MethodName)) hown (mvT hZ (hw _ (List.mem_of_getElem? (i := 21) rfl))) (mvT hZ (hw _ (List.mem_of_getElem? (i := 22) rfl))) (mvT hZ (hw _ (List.mem_of_getElem? (i := 19) rfl))) (mvT hZ (hw _ (List.mem_of_getElem? (i := 23) rfl))) (by decide) (backOf (W := 2) (rm5 l Z a0 hw [] q1 (5 : Int32) h14 ) hZ (hw _ (List.mem_of_getElem? (i := 23) rfl)) (hw _ (List.mem_of_getElem? (i := 19) rfl)) (by decide) (by decide)) (g := (mkF m 44 #[.val (.ref o0), .val (.long q1), .second] [(.int (5 : Int32)), (.long q1), (.int (5 : Int32)), (.ref o0)])) rfl (by rw [hml]; rfl) (argsL := [(.long q1), (.int (5 : Int32))]) (rest := [(.int (5 : Int32)), (.ref o0)]) (lenOf pd_0 rfl) rfl (by show 2 * 0 + _ ≤ _; exact Nat.le_of_eq rfl) (hb hby d4_44) (fun _ _ => ⟨rfl, e14, (by decide : 0 + 0 ≤ _), (by decide : 0 + 0 ≤ _)⟩)
  dsimp only [Pt.U, Pt.locs, Pt.cells, Pt.slots] at X16 l16 y16 z16 st16 hQ16
  subst l16 y16 z16
  obtain ⟨rfl, rfl, e16⟩ := hQ16
  try rw [List.append_nil] at X16
  refine Go.step (g' := (mkF m 47 #[.val (.ref o0), .val (.long q1), .second] [(.double (f5_0 q1 (5 : Int32))), (.int (5 : Int32)), (.ref o0)])) st16 ?_
  obtain ⟨T17, h17, lc17, X17, e17, W17, N17, V17, st17⟩ := putAD X16 hx hZ e16 V14 (j := (5 : Int32)) (by decide) N14 g_o0 (gf := (mkF m 47 #[.val (.ref o0), .val (.long q1), .second] [(.double (f5_0 q1 (5 : Int32))), (.int (5 : Int32)), (.ref o0)])) rfl rfl (hb hby d4_47)
  refine Go.step (g' := (mkF m 48 #[.val (.ref o0), .val (.long q1), .second] [])) st17 ?_
  have Q18 := (Nat.le_trans (Nat.le_trans Q12 (Keep.of_wr W14).1) (Keep.of_wr W17).1)
  refine Go.step (g' := (mkF m 49 #[.val (.ref o0), .val (.long q1), .second] [(.ref o0)])) (fun _ k => XS.aloadN X17.here hx rfl (hb hby d4_48) rfl rfl  k) ?_
  refine Go.step (g' := (mkF m 51 #[.val (.ref o0), .val (.long q1), .second] [(.int (6 : Int32)), (.ref o0)])) (fun _ k => XS.bipush X17.here hx rfl (hb hby d4_49) k) ?_
  refine Go.step (g' := (mkF m 52 #[.val (.ref o0), .val (.long q1), .second] [(.long q1), (.int (6 : Int32)), (.ref o0)])) (fun _ k => XS.lloadN X17.here hx rfl (hb hby d4_51) rfl  k) ?_
  refine Go.step (g' := (mkF m 54 #[.val (.ref o0), .val (.long q1), .second] [(.int (6 : Int32)), (.long q1), (.int (6 : Int32)), (.ref o0)])) (fun _ k => XS.bipush X17.here hx rfl (hb hby d4_52) k) ?_
  obtain ⟨_, _, ⟨T19, L19, k19, n19⟩, -, X19, ⟨Lc19, hQ19, l19, y19, z19⟩, st19⟩ := Jvm.LawKit.callS X17 hx (y := (⟨"com/example/rhadamanthus/rhadamanthus/learn/HistogramSubtractColumnsPinLaw", "v", "(JI)D"⟩ : MethodName)) hown (mvT hZ (hw _ (List.mem_of_getElem? (i := 21) rfl))) (mvT hZ (hw _ (List.mem_of_getElem? (i := 22) rfl))) (mvT hZ (hw _ (List.mem_of_getElem? (i := 19) rfl))) (mvT hZ (hw _ (List.mem_of_getElem? (i := 23) rfl))) (by decide) (backOf (W := 2) (rm5 l Z a0 hw [] q1 (6 : Int32) h17 ) hZ (hw _ (List.mem_of_getElem? (i := 23) rfl)) (hw _ (List.mem_of_getElem? (i := 19) rfl)) (by decide) (by decide)) (g := (mkF m 54 #[.val (.ref o0), .val (.long q1), .second] [(.int (6 : Int32)), (.long q1), (.int (6 : Int32)), (.ref o0)])) rfl (by rw [hml]; rfl) (argsL := [(.long q1), (.int (6 : Int32))]) (rest := [(.int (6 : Int32)), (.ref o0)]) (lenOf pd_0 rfl) rfl (by show 2 * 0 + _ ≤ _; exact Nat.le_of_eq rfl) (hb hby d4_54) (fun _ _ => ⟨rfl, e17, (by decide : 0 + 0 ≤ _), (by decide : 0 + 0 ≤ _)⟩)
  dsimp only [Pt.U, Pt.locs, Pt.cells, Pt.slots] at X19 l19 y19 z19 st19 hQ19
  subst l19 y19 z19
  obtain ⟨rfl, rfl, e19⟩ := hQ19
  try rw [List.append_nil] at X19
  refine Go.step (g' := (mkF m 57 #[.val (.ref o0), .val (.long q1), .second] [(.double (f5_0 q1 (6 : Int32))), (.int (6 : Int32)), (.ref o0)])) st19 ?_
  obtain ⟨T20, h20, lc20, X20, e20, W20, N20, V20, st20⟩ := putAD X19 hx hZ e19 V17 (j := (6 : Int32)) (by decide) N17 g_o0 (gf := (mkF m 57 #[.val (.ref o0), .val (.long q1), .second] [(.double (f5_0 q1 (6 : Int32))), (.int (6 : Int32)), (.ref o0)])) rfl rfl (hb hby d4_57)
  refine Go.step (g' := (mkF m 58 #[.val (.ref o0), .val (.long q1), .second] [])) st20 ?_
  have Q21 := ((Q15.wr W17 (Or.inl (List.mem_of_getElem? (i := 0) rfl))).wr W20 (Or.inl (List.mem_of_getElem? (i := 0) rfl)))
  refine Go.step (g' := (mkF m 59 #[.val (.ref o0), .val (.long q1), .second] [(.ref o0)])) (fun _ k => XS.aloadN X20.here hx rfl (hb hby d4_58) rfl rfl  k) ?_
  refine Go.step (g' := (mkF m 61 #[.val (.ref o0), .val (.long q1), .second] [(.int (7 : Int32)), (.ref o0)])) (fun _ k => XS.bipush X20.here hx rfl (hb hby d4_59) k) ?_
  refine Go.step (g' := (mkF m 62 #[.val (.ref o0), .val (.long q1), .second] [(.long q1), (.int (7 : Int32)), (.ref o0)])) (fun _ k => XS.lloadN X20.here hx rfl (hb hby d4_61) rfl  k) ?_
  refine Go.step (g' := (mkF m 64 #[.val (.ref o0), .val (.long q1), .second] [(.int (7 : Int32)), (.long q1), (.int (7 : Int32)), (.ref o0)])) (fun _ k => XS.bipush X20.here hx rfl (hb hby d4_62) k) ?_
  obtain ⟨_, _, ⟨T22, L22, k22, n22⟩, -, X22, ⟨Lc22, hQ22, l22, y22, z22⟩, st22⟩ := Jvm.LawKit.callS X20 hx (y := (⟨"com/example/rhadamanthus/rhadamanthus/learn/HistogramSubtractColumnsPinLaw", "v", "(JI)D"⟩ : MethodName)) hown (mvT hZ (hw _ (List.mem_of_getElem? (i := 21) rfl))) (mvT hZ (hw _ (List.mem_of_getElem? (i := 22) rfl))) (mvT hZ (hw _ (List.mem_of_getElem? (i := 19) rfl))) (mvT hZ (hw _ (List.mem_of_getElem? (i := 23) rfl))) (by decide) (backOf (W := 2) (rm5 l Z a0 hw [] q1 (7 : Int32) h20 ) hZ (hw _ (List.mem_of_getElem? (i := 23) rfl)) (hw _ (List.mem_of_getElem? (i := 19) rfl)) (by decide) (by decide)) (g := (mkF m 64 #[.val (.ref o0), .val (.long q1), .second] [(.int (7 : Int32)), (.long q1), (.int (7 : Int32)), (.ref o0)])) rfl (by rw [hml]; rfl) (argsL := [(.long q1), (.int (7 : Int32))]) (rest := [(.int (7 : Int32)), (.ref o0)]) (lenOf pd_0 rfl) rfl (by show 2 * 0 + _ ≤ _; exact Nat.le_of_eq rfl) (hb hby d4_64) (fun _ _ => ⟨rfl, e20, (by decide : 0 + 0 ≤ _), (by decide : 0 + 0 ≤ _)⟩)
  dsimp only [Pt.U, Pt.locs, Pt.cells, Pt.slots] at X22 l22 y22 z22 st22 hQ22
  subst l22 y22 z22
  obtain ⟨rfl, rfl, e22⟩ := hQ22
  try rw [List.append_nil] at X22
  refine Go.step (g' := (mkF m 67 #[.val (.ref o0), .val (.long q1), .second] [(.double (f5_0 q1 (7 : Int32))), (.int (7 : Int32)), (.ref o0)])) st22 ?_
  obtain ⟨T23, h23, lc23, X23, e23, W23, N23, V23, st23⟩ := putAD X22 hx hZ e22 V20 (j := (7 : Int32)) (by decide) N20 g_o0 (gf := (mkF m 67 #[.val (.ref o0), .val (.long q1), .second] [(.double (f5_0 q1 (7 : Int32))), (.int (7 : Int32)), (.ref o0)])) rfl rfl (hb hby d4_67)
  refine Go.step (g' := (mkF m 68 #[.val (.ref o0), .val (.long q1), .second] [])) st23 ?_
  have Q24 := (Nat.le_trans (Nat.le_trans Q18 (Keep.of_wr W20).1) (Keep.of_wr W23).1)
  exact Go.ret0 X23 hx hlk Bd.returns (hb hby d4_68) (by decide) (by decide) (by rw [e23]; exact ⟨rfl, N23, (Q21.wr W23 (Or.inl (List.mem_of_getElem? (i := 0) rfl))), V23.cong (fun k hk => match k, hk with | 0, _ => rfl | 1, _ => rfl | 2, _ => rfl | 3, _ => rfl | 4, _ => rfl | 5, _ => rfl | 6, _ => rfl | 7, _ => rfl)⟩)
theorem d8_0 : decode prog_64_method_10_code 0 = .ok (.aload_n 0, 1) := by decide +kernel
theorem d8_1 : decode prog_64_method_10_code 1 = .ok (.getfield 7, 3) := by decide +kernel
theorem d8_4 : decode prog_64_method_10_code 4 = .ok (.astore 4, 2) := by decide +kernel
theorem d8_6 : decode prog_64_method_10_code 6 = .ok (.aload_n 1, 1) := by decide +kernel
theorem d8_7 : decode prog_64_method_10_code 7 = .ok (.getfield 7, 3) := by decide +kernel
theorem d8_10 : decode prog_64_method_10_code 10 = .ok (.astore 5, 2) := by decide +kernel
theorem d8_12 : decode prog_64_method_10_code 12 = .ok (.iconst 2, 1) := by decide +kernel
theorem d8_13 : decode prog_64_method_10_code 13 = .ok (.iload_n 2, 1) := by decide +kernel
theorem d8_14 : decode prog_64_method_10_code 14 = .ok (.imul, 1) := by decide +kernel
theorem d8_15 : decode prog_64_method_10_code 15 = .ok (.istore 6, 2) := by decide +kernel
theorem d8_17 : decode prog_64_method_10_code 17 = .ok (.iload 6, 2) := by decide +kernel
theorem d8_19 : decode prog_64_method_10_code 19 = .ok (.iconst 2, 1) := by decide +kernel
theorem d8_20 : decode prog_64_method_10_code 20 = .ok (.iload_n 3, 1) := by decide +kernel
theorem d8_21 : decode prog_64_method_10_code 21 = .ok (.imul, 1) := by decide +kernel
theorem d8_22 : decode prog_64_method_10_code 22 = .ok (.if_icmp .ge 22, 3) := by decide +kernel
theorem d8_25 : decode prog_64_method_10_code 25 = .ok (.aload 4, 2) := by decide +kernel
theorem d8_27 : decode prog_64_method_10_code 27 = .ok (.iload 6, 2) := by decide +kernel
theorem d8_29 : decode prog_64_method_10_code 29 = .ok (.dup2, 1) := by decide +kernel
theorem d8_30 : decode prog_64_method_10_code 30 = .ok (.daload, 1) := by decide +kernel
theorem d8_31 : decode prog_64_method_10_code 31 = .ok (.aload 5, 2) := by decide +kernel
theorem d8_33 : decode prog_64_method_10_code 33 = .ok (.iload 6, 2) := by decide +kernel
theorem d8_35 : decode prog_64_method_10_code 35 = .ok (.daload, 1) := by decide +kernel
theorem d8_36 : decode prog_64_method_10_code 36 = .ok (.dsub, 1) := by decide +kernel
theorem d8_37 : decode prog_64_method_10_code 37 = .ok (.dastore, 1) := by decide +kernel
theorem d8_38 : decode prog_64_method_10_code 38 = .ok (.iinc 6 1, 3) := by decide +kernel
theorem d8_41 : decode prog_64_method_10_code 41 = .ok (.goto (-24), 3) := by decide +kernel
theorem d8_44 : decode prog_64_method_10_code 44 = .ok (.return_, 1) := by decide +kernel
theorem pn_8 : plainName "com/example/rhadamanthus/rhadamanthus/learn/Histogram" = true := by first | (simp [plainName, overriddenIn]; done) | decide +kernel
theorem ef_8 (m : MethodId) (o0 : Addr) (o1 : Addr) (p2 : Int32) (p3 : Int32) : entryFrame m #[(.ref o0), (.ref o1), (.int p2), (.int p3)] 7 = mkF m 0 #[.val (.ref o0), .val (.ref o1), .val (.int p2), .val (.int p3), .unset, .unset, .unset] [] := by first | (simp [entryFrame, mkF, argsToLocals, Value.category]; done) | rfl
set_option maxRecDepth 65536 in
set_option maxHeartbeats 40000000 in
theorem rm8w00 (l : Launch) (Z : State) (a0 : Array Value) (hw : ∀ d ∈ tables_1, d.before a0 Z = true) (ws : List Jvm.Cond) (o0 : Addr) (o1 : Addr) (p2 : Int32) (p3 : Int32) (aw : Addr) (at_ : Addr) (gw : Nat → UInt64) (gt : Nat → UInt64) (h0 : Heap) (n0 : Nat) (Z0 : n0 ≤ h0.size) (F0 : Fld Z h0 o0 "com/example/rhadamanthus/rhadamanthus/learn/Histogram" "cells" "[D" (.ref aw)) (F1 : Fld Z h0 o1 "com/example/rhadamanthus/rhadamanthus/learn/Histogram" "cells" "[D" (.ref at_)) (A_w : IA Z h0 aw .double 8 (fun k => .double (gw k))) (A_t : IA Z h0 at_ .double 8 (fun k => .double (gt k))) (n1 : o0 ≠ aw) (n2 : o1 ≠ aw) (n3 : aw ≠ at_) (g_aw : n0 ≤ aw) (hnan : ∀ k, Jvm.Free.Fl.NoNaN64 (FP.dsub (gw k) (gt k))) (hf : p2 = (0 : Int32)) (hl : p3 = (0 : Int32)) :
    MetFree l (⟨"com/example/rhadamanthus/rhadamanthus/learn/Histogram", "subtractColumns", "(Lcom/example/rhadamanthus/rhadamanthus/learn/Histogram;II)V"⟩ : MethodName) (head1 (Jvm.Cond.code (⟨"com/example/rhadamanthus/rhadamanthus/learn/Histogram", "subtractColumns", "(Lcom/example/rhadamanthus/rhadamanthus/learn/Histogram;II)V"⟩ : MethodName) prog_64_method_10_code 7 none :: ws) ({ frames := 0, cells := 0, slots := 0, locals := 0 } : Room)) (fun a U => a = #[(.ref o0), (.ref o1), (.int p2), (.int p3)] ∧ Z.Warmed39 U.vm ∧ U.heap = h0) (fun _ _ _ _ _ => True) (fun _ U o U' => ∃ v L, o = .returned v ∧ (QA Z aw (fun k => if 2 * p2.toNatClampNeg ≤ k ∧ k < 2 * p3.toNatClampNeg then FP.dsub (gw k) (gt k) else gw k) h0 n0) v U'.heap L ∧ FrameEnd U o U' L ({ frames := 0, cells := 0, slots := 0, locals := 0 } : Room).cells ({ frames := 0, cells := 0, slots := 0, locals := 0 } : Room).slots) := by
  refine MetFree.of_bodySF (plainFor_of_name pn_8) hisR ?_
  intro p e s m args below meth c s₁ Bd hml0 hP hK
  obtain ⟨rfl, hZ, hh⟩ := hP
  have hx := Bd.exec
  have hby := Bd.bytes
  have hlk : meth.locks = false := BodyLoose.notSynchronized Bd
  have hml : c.maxLocals = 7 := hml0
  have hown : s.vm.findClass "com/example/rhadamanthus/rhadamanthus/learn/Histogram" = some m.cls := findClass_of_methodNamed Bd.named
  have hnm := (name_of_methodNamed Bd.named Bd.method).1
  have X0 : Stand p l e ({ frames := 0, cells := 0, slots := 0, locals := 0 } : Room) s m #[(.ref o0), (.ref o1), (.int p2), (.int p3)] below meth c s₁ ([] : List Loc) 0 0 := Stand.of_body Bd
  have e0 : s₁.heap = h0 := by rw [← hh, Bd.state]; rfl
  show Go p e below s 0 0 (QA Z aw (fun k => if 2 * p2.toNatClampNeg ≤ k ∧ k < 2 * p3.toNatClampNeg then FP.dsub (gw k) (gt k) else gw k) h0 n0) s₁ (entryFrame m #[(.ref o0), (.ref o1), (.int p2), (.int p3)] 7)
  rw [ef_8 m o0 o1 p2 p3]
  have N0 := Fr.nil n0
  refine Go.step (g' := (mkF m 1 #[.val (.ref o0), .val (.ref o1), .val (.int p2), .val (.int p3), .unset, .unset, .unset] [(.ref o0)])) (fun _ k => XS.aloadN X0.here hx rfl (hb hby d8_0) rfl rfl  k) ?_
  obtain ⟨T1, X1, e1, st1⟩ := getF X0 hx hZ hown (host := "") (Or.inl (hw _ (List.mem_of_getElem? (i := 10) rfl))) Via.refl e0 F0 (g := (mkF m 1 #[.val (.ref o0), .val (.ref o1), .val (.int p2), .val (.int p3), .unset, .unset, .unset] [(.ref o0)])) rfl rfl (hb hby d8_1)
  refine Go.step (g' := (mkF m 4 #[.val (.ref o0), .val (.ref o1), .val (.int p2), .val (.int p3), .unset, .unset, .unset] [(.ref aw)])) st1 ?_
  refine Go.step (g' := (mkF m 6 #[.val (.ref o0), .val (.ref o1), .val (.int p2), .val (.int p3), .val (.ref aw), .unset, .unset] [])) (fun _ k => XS.astore X1.here hx rfl (hb hby d8_4) rfl rfl (l' := #[.val (.ref o0), .val (.ref o1), .val (.int p2), .val (.int p3), .val (.ref aw), .unset, .unset]) rfl k) ?_
  refine Go.step (g' := (mkF m 7 #[.val (.ref o0), .val (.ref o1), .val (.int p2), .val (.int p3), .val (.ref aw), .unset, .unset] [(.ref o1)])) (fun _ k => XS.aloadN X1.here hx rfl (hb hby d8_6) rfl rfl  k) ?_
  obtain ⟨T2, X2, e2, st2⟩ := getF X1 hx hZ hown (host := "") (Or.inl (hw _ (List.mem_of_getElem? (i := 10) rfl))) Via.refl e1 F1 (g := (mkF m 7 #[.val (.ref o0), .val (.ref o1), .val (.int p2), .val (.int p3), .val (.ref aw), .unset, .unset] [(.ref o1)])) rfl rfl (hb hby d8_7)
  refine Go.step (g' := (mkF m 10 #[.val (.ref o0), .val (.ref o1), .val (.int p2), .val (.int p3), .val (.ref aw), .unset, .unset] [(.ref at_)])) st2 ?_
  refine Go.step (g' := (mkF m 12 #[.val (.ref o0), .val (.ref o1), .val (.int p2), .val (.int p3), .val (.ref aw), .val (.ref at_), .unset] [])) (fun _ k => XS.astore X2.here hx rfl (hb hby d8_10) rfl rfl (l' := #[.val (.ref o0), .val (.ref o1), .val (.int p2), .val (.int p3), .val (.ref aw), .val (.ref at_), .unset]) rfl k) ?_
  refine Go.step (g' := (mkF m 13 #[.val (.ref o0), .val (.ref o1), .val (.int p2), .val (.int p3), .val (.ref aw), .val (.ref at_), .unset] [(.int (2 : Int32))])) (fun _ k => XS.iconst X2.here hx rfl (hb hby d8_12) k) ?_
  refine Go.step (g' := (mkF m 14 #[.val (.ref o0), .val (.ref o1), .val (.int p2), .val (.int p3), .val (.ref aw), .val (.ref at_), .unset] [(.int p2), (.int (2 : Int32))])) (fun _ k => XS.iloadN X2.here hx rfl (hb hby d8_13) rfl  k) ?_
  refine Go.step (g' := (mkF m 15 #[.val (.ref o0), .val (.ref o1), .val (.int p2), .val (.int p3), .val (.ref aw), .val (.ref at_), .unset] [(.int ((2 : Int32) * p2))])) (fun _ k => XS.imul X2.here hx rfl (hb hby d8_14) rfl k) ?_
  rw [show ((2 : Int32) * p2) = (0 : Int32) from by rw [hf]; decide]
  refine Go.step (g' := (mkF m 17 #[.val (.ref o0), .val (.ref o1), .val (.int p2), .val (.int p3), .val (.ref aw), .val (.ref at_), .val (.int (0 : Int32))] [])) (fun _ k => XS.istore X2.here hx rfl (hb hby d8_15) rfl (l' := #[.val (.ref o0), .val (.ref o1), .val (.int p2), .val (.int p3), .val (.ref aw), .val (.ref at_), .val (.int (0 : Int32))]) rfl k) ?_
  skip
  refine Go.step (g' := (mkF m 19 #[.val (.ref o0), .val (.ref o1), .val (.int p2), .val (.int p3), .val (.ref aw), .val (.ref at_), .val (.int (0 : Int32))] [(.int (0 : Int32))])) (fun _ k => XS.iload X2.here hx rfl (hb hby d8_17) rfl  k) ?_
  refine Go.step (g' := (mkF m 20 #[.val (.ref o0), .val (.ref o1), .val (.int p2), .val (.int p3), .val (.ref aw), .val (.ref at_), .val (.int (0 : Int32))] [(.int (2 : Int32)), (.int (0 : Int32))])) (fun _ k => XS.iconst X2.here hx rfl (hb hby d8_19) k) ?_
  refine Go.step (g' := (mkF m 21 #[.val (.ref o0), .val (.ref o1), .val (.int p2), .val (.int p3), .val (.ref aw), .val (.ref at_), .val (.int (0 : Int32))] [(.int p3), (.int (2 : Int32)), (.int (0 : Int32))])) (fun _ k => XS.iloadN X2.here hx rfl (hb hby d8_20) rfl  k) ?_
  refine Go.step (g' := (mkF m 22 #[.val (.ref o0), .val (.ref o1), .val (.int p2), .val (.int p3), .val (.ref aw), .val (.ref at_), .val (.int (0 : Int32))] [(.int ((2 : Int32) * p3)), (.int (0 : Int32))])) (fun _ k => XS.imul X2.here hx rfl (hb hby d8_21) rfl k) ?_
  rw [show ((2 : Int32) * p3) = (0 : Int32) from by rw [hl]; decide]
  refine Go.step (g' := (mkF m 44 #[.val (.ref o0), .val (.ref o1), .val (.int p2), .val (.int p3), .val (.ref aw), .val (.ref at_), .val (.int (0 : Int32))] [])) (fun _ k => XS.icmpYes X2.here hx rfl (pc0 := 22) (pc' := 44) rfl (hb hby d8_22) rfl (flt (by decide : ¬ ((0 : Int32) < (0 : Int32)))).2.1 (by decide) (by decide) k) ?_
  skip
  exact Go.ret0 X2 hx hlk Bd.returns (hb hby d8_44) (by decide) (by decide) (by rw [e2]; exact ⟨rfl, N0, (Keep.refl h0 [aw]), A_w.cong (fun k hk => by rw [hf, hl]; match k, hk with | 0, _ => rfl | 1, _ => rfl | 2, _ => rfl | 3, _ => rfl | 4, _ => rfl | 5, _ => rfl | 6, _ => rfl | 7, _ => rfl)⟩)

set_option maxRecDepth 65536 in
set_option maxHeartbeats 40000000 in
theorem rm8w01 (l : Launch) (Z : State) (a0 : Array Value) (hw : ∀ d ∈ tables_1, d.before a0 Z = true) (ws : List Jvm.Cond) (o0 : Addr) (o1 : Addr) (p2 : Int32) (p3 : Int32) (aw : Addr) (at_ : Addr) (gw : Nat → UInt64) (gt : Nat → UInt64) (h0 : Heap) (n0 : Nat) (Z0 : n0 ≤ h0.size) (F0 : Fld Z h0 o0 "com/example/rhadamanthus/rhadamanthus/learn/Histogram" "cells" "[D" (.ref aw)) (F1 : Fld Z h0 o1 "com/example/rhadamanthus/rhadamanthus/learn/Histogram" "cells" "[D" (.ref at_)) (A_w : IA Z h0 aw .double 8 (fun k => .double (gw k))) (A_t : IA Z h0 at_ .double 8 (fun k => .double (gt k))) (n1 : o0 ≠ aw) (n2 : o1 ≠ aw) (n3 : aw ≠ at_) (g_aw : n0 ≤ aw) (hnan : ∀ k, Jvm.Free.Fl.NoNaN64 (FP.dsub (gw k) (gt k))) (hf : p2 = (0 : Int32)) (hl : p3 = (1 : Int32)) :
    MetFree l (⟨"com/example/rhadamanthus/rhadamanthus/learn/Histogram", "subtractColumns", "(Lcom/example/rhadamanthus/rhadamanthus/learn/Histogram;II)V"⟩ : MethodName) (head1 (Jvm.Cond.code (⟨"com/example/rhadamanthus/rhadamanthus/learn/Histogram", "subtractColumns", "(Lcom/example/rhadamanthus/rhadamanthus/learn/Histogram;II)V"⟩ : MethodName) prog_64_method_10_code 7 none :: ws) ({ frames := 0, cells := 0, slots := 0, locals := 0 } : Room)) (fun a U => a = #[(.ref o0), (.ref o1), (.int p2), (.int p3)] ∧ Z.Warmed39 U.vm ∧ U.heap = h0) (fun _ _ _ _ _ => True) (fun _ U o U' => ∃ v L, o = .returned v ∧ (QA Z aw (fun k => if 2 * p2.toNatClampNeg ≤ k ∧ k < 2 * p3.toNatClampNeg then FP.dsub (gw k) (gt k) else gw k) h0 n0) v U'.heap L ∧ FrameEnd U o U' L ({ frames := 0, cells := 0, slots := 0, locals := 0 } : Room).cells ({ frames := 0, cells := 0, slots := 0, locals := 0 } : Room).slots) := by
  refine MetFree.of_bodySF (plainFor_of_name pn_8) hisR ?_
  intro p e s m args below meth c s₁ Bd hml0 hP hK
  obtain ⟨rfl, hZ, hh⟩ := hP
  have hx := Bd.exec
  have hby := Bd.bytes
  have hlk : meth.locks = false := BodyLoose.notSynchronized Bd
  have hml : c.maxLocals = 7 := hml0
  have hown : s.vm.findClass "com/example/rhadamanthus/rhadamanthus/learn/Histogram" = some m.cls := findClass_of_methodNamed Bd.named
  have hnm := (name_of_methodNamed Bd.named Bd.method).1
  have X0 : Stand p l e ({ frames := 0, cells := 0, slots := 0, locals := 0 } : Room) s m #[(.ref o0), (.ref o1), (.int p2), (.int p3)] below meth c s₁ ([] : List Loc) 0 0 := Stand.of_body Bd
  have e0 : s₁.heap = h0 := by rw [← hh, Bd.state]; rfl
  show Go p e below s 0 0 (QA Z aw (fun k => if 2 * p2.toNatClampNeg ≤ k ∧ k < 2 * p3.toNatClampNeg then FP.dsub (gw k) (gt k) else gw k) h0 n0) s₁ (entryFrame m #[(.ref o0), (.ref o1), (.int p2), (.int p3)] 7)
  rw [ef_8 m o0 o1 p2 p3]
  have N0 := Fr.nil n0
  refine Go.step (g' := (mkF m 1 #[.val (.ref o0), .val (.ref o1), .val (.int p2), .val (.int p3), .unset, .unset, .unset] [(.ref o0)])) (fun _ k => XS.aloadN X0.here hx rfl (hb hby d8_0) rfl rfl  k) ?_
  obtain ⟨T1, X1, e1, st1⟩ := getF X0 hx hZ hown (host := "") (Or.inl (hw _ (List.mem_of_getElem? (i := 10) rfl))) Via.refl e0 F0 (g := (mkF m 1 #[.val (.ref o0), .val (.ref o1), .val (.int p2), .val (.int p3), .unset, .unset, .unset] [(.ref o0)])) rfl rfl (hb hby d8_1)
  refine Go.step (g' := (mkF m 4 #[.val (.ref o0), .val (.ref o1), .val (.int p2), .val (.int p3), .unset, .unset, .unset] [(.ref aw)])) st1 ?_
  refine Go.step (g' := (mkF m 6 #[.val (.ref o0), .val (.ref o1), .val (.int p2), .val (.int p3), .val (.ref aw), .unset, .unset] [])) (fun _ k => XS.astore X1.here hx rfl (hb hby d8_4) rfl rfl (l' := #[.val (.ref o0), .val (.ref o1), .val (.int p2), .val (.int p3), .val (.ref aw), .unset, .unset]) rfl k) ?_
  refine Go.step (g' := (mkF m 7 #[.val (.ref o0), .val (.ref o1), .val (.int p2), .val (.int p3), .val (.ref aw), .unset, .unset] [(.ref o1)])) (fun _ k => XS.aloadN X1.here hx rfl (hb hby d8_6) rfl rfl  k) ?_
  obtain ⟨T2, X2, e2, st2⟩ := getF X1 hx hZ hown (host := "") (Or.inl (hw _ (List.mem_of_getElem? (i := 10) rfl))) Via.refl e1 F1 (g := (mkF m 7 #[.val (.ref o0), .val (.ref o1), .val (.int p2), .val (.int p3), .val (.ref aw), .unset, .unset] [(.ref o1)])) rfl rfl (hb hby d8_7)
  refine Go.step (g' := (mkF m 10 #[.val (.ref o0), .val (.ref o1), .val (.int p2), .val (.int p3), .val (.ref aw), .unset, .unset] [(.ref at_)])) st2 ?_
  refine Go.step (g' := (mkF m 12 #[.val (.ref o0), .val (.ref o1), .val (.int p2), .val (.int p3), .val (.ref aw), .val (.ref at_), .unset] [])) (fun _ k => XS.astore X2.here hx rfl (hb hby d8_10) rfl rfl (l' := #[.val (.ref o0), .val (.ref o1), .val (.int p2), .val (.int p3), .val (.ref aw), .val (.ref at_), .unset]) rfl k) ?_
  refine Go.step (g' := (mkF m 13 #[.val (.ref o0), .val (.ref o1), .val (.int p2), .val (.int p3), .val (.ref aw), .val (.ref at_), .unset] [(.int (2 : Int32))])) (fun _ k => XS.iconst X2.here hx rfl (hb hby d8_12) k) ?_
  refine Go.step (g' := (mkF m 14 #[.val (.ref o0), .val (.ref o1), .val (.int p2), .val (.int p3), .val (.ref aw), .val (.ref at_), .unset] [(.int p2), (.int (2 : Int32))])) (fun _ k => XS.iloadN X2.here hx rfl (hb hby d8_13) rfl  k) ?_
  refine Go.step (g' := (mkF m 15 #[.val (.ref o0), .val (.ref o1), .val (.int p2), .val (.int p3), .val (.ref aw), .val (.ref at_), .unset] [(.int ((2 : Int32) * p2))])) (fun _ k => XS.imul X2.here hx rfl (hb hby d8_14) rfl k) ?_
  rw [show ((2 : Int32) * p2) = (0 : Int32) from by rw [hf]; decide]
  refine Go.step (g' := (mkF m 17 #[.val (.ref o0), .val (.ref o1), .val (.int p2), .val (.int p3), .val (.ref aw), .val (.ref at_), .val (.int (0 : Int32))] [])) (fun _ k => XS.istore X2.here hx rfl (hb hby d8_15) rfl (l' := #[.val (.ref o0), .val (.ref o1), .val (.int p2), .val (.int p3), .val (.ref aw), .val (.ref at_), .val (.int (0 : Int32))]) rfl k) ?_
  skip
  refine Go.step (g' := (mkF m 19 #[.val (.ref o0), .val (.ref o1), .val (.int p2), .val (.int p3), .val (.ref aw), .val (.ref at_), .val (.int (0 : Int32))] [(.int (0 : Int32))])) (fun _ k => XS.iload X2.here hx rfl (hb hby d8_17) rfl  k) ?_
  refine Go.step (g' := (mkF m 20 #[.val (.ref o0), .val (.ref o1), .val (.int p2), .val (.int p3), .val (.ref aw), .val (.ref at_), .val (.int (0 : Int32))] [(.int (2 : Int32)), (.int (0 : Int32))])) (fun _ k => XS.iconst X2.here hx rfl (hb hby d8_19) k) ?_
  refine Go.step (g' := (mkF m 21 #[.val (.ref o0), .val (.ref o1), .val (.int p2), .val (.int p3), .val (.ref aw), .val (.ref at_), .val (.int (0 : Int32))] [(.int p3), (.int (2 : Int32)), (.int (0 : Int32))])) (fun _ k => XS.iloadN X2.here hx rfl (hb hby d8_20) rfl  k) ?_
  refine Go.step (g' := (mkF m 22 #[.val (.ref o0), .val (.ref o1), .val (.int p2), .val (.int p3), .val (.ref aw), .val (.ref at_), .val (.int (0 : Int32))] [(.int ((2 : Int32) * p3)), (.int (0 : Int32))])) (fun _ k => XS.imul X2.here hx rfl (hb hby d8_21) rfl k) ?_
  rw [show ((2 : Int32) * p3) = (2 : Int32) from by rw [hl]; decide]
  refine Go.step (g' := (mkF m 25 #[.val (.ref o0), .val (.ref o1), .val (.int p2), .val (.int p3), .val (.ref aw), .val (.ref at_), .val (.int (0 : Int32))] [])) (fun _ k => XS.icmpNo X2.here hx rfl (hb hby d8_22) rfl (tlt (by decide : (0 : Int32) < (2 : Int32))).2.1 k) ?_
  skip
  refine Go.step (g' := (mkF m 27 #[.val (.ref o0), .val (.ref o1), .val (.int p2), .val (.int p3), .val (.ref aw), .val (.ref at_), .val (.int (0 : Int32))] [(.ref aw)])) (fun _ k => XS.aload X2.here hx rfl (hb hby d8_25) rfl rfl  k) ?_
  refine Go.step (g' := (mkF m 29 #[.val (.ref o0), .val (.ref o1), .val (.int p2), .val (.int p3), .val (.ref aw), .val (.ref at_), .val (.int (0 : Int32))] [(.int (0 : Int32)), (.ref aw)])) (fun _ k => XS.iload X2.here hx rfl (hb hby d8_27) rfl  k) ?_
  refine Go.step (g' := (mkF m 30 #[.val (.ref o0), .val (.ref o1), .val (.int p2), .val (.int p3), .val (.ref aw), .val (.ref at_), .val (.int (0 : Int32))] [(.int (0 : Int32)), (.ref aw), (.int (0 : Int32)), (.ref aw)])) (fun _ k => Jvm.Free.XT.dup2 X2.here hx rfl (hb hby d8_29) rfl rfl rfl k) ?_
  refine Go.step (g' := (mkF m 31 #[.val (.ref o0), .val (.ref o1), .val (.int p2), .val (.int p3), .val (.ref aw), .val (.ref at_), .val (.int (0 : Int32))] [(.double (gw (0 : Int32).toNatClampNeg)), (.int (0 : Int32)), (.ref aw)])) (fun _ k => getAD X2 hx hZ e2 A_w (j := (0 : Int32)) (by decide) (gf := (mkF m 30 #[.val (.ref o0), .val (.ref o1), .val (.int p2), .val (.int p3), .val (.ref aw), .val (.ref at_), .val (.int (0 : Int32))] [(.int (0 : Int32)), (.ref aw), (.int (0 : Int32)), (.ref aw)])) rfl rfl (hb hby d8_30) k) ?_
  rw [show (gw (0 : Int32).toNatClampNeg) = (gw 0) from rfl]
  refine Go.step (g' := (mkF m 33 #[.val (.ref o0), .val (.ref o1), .val (.int p2), .val (.int p3), .val (.ref aw), .val (.ref at_), .val (.int (0 : Int32))] [(.ref at_), (.double (gw 0)), (.int (0 : Int32)), (.ref aw)])) (fun _ k => XS.aload X2.here hx rfl (hb hby d8_31) rfl rfl  k) ?_
  refine Go.step (g' := (mkF m 35 #[.val (.ref o0), .val (.ref o1), .val (.int p2), .val (.int p3), .val (.ref aw), .val (.ref at_), .val (.int (0 : Int32))] [(.int (0 : Int32)), (.ref at_), (.double (gw 0)), (.int (0 : Int32)), (.ref aw)])) (fun _ k => XS.iload X2.here hx rfl (hb hby d8_33) rfl  k) ?_
  refine Go.step (g' := (mkF m 36 #[.val (.ref o0), .val (.ref o1), .val (.int p2), .val (.int p3), .val (.ref aw), .val (.ref at_), .val (.int (0 : Int32))] [(.double (gt (0 : Int32).toNatClampNeg)), (.double (gw 0)), (.int (0 : Int32)), (.ref aw)])) (fun _ k => getAD X2 hx hZ e2 A_t (j := (0 : Int32)) (by decide) (gf := (mkF m 35 #[.val (.ref o0), .val (.ref o1), .val (.int p2), .val (.int p3), .val (.ref aw), .val (.ref at_), .val (.int (0 : Int32))] [(.int (0 : Int32)), (.ref at_), (.double (gw 0)), (.int (0 : Int32)), (.ref aw)])) rfl rfl (hb hby d8_35) k) ?_
  rw [show (gt (0 : Int32).toNatClampNeg) = (gt 0) from rfl]
  refine Go.step (g' := (mkF m 37 #[.val (.ref o0), .val (.ref o1), .val (.int p2), .val (.int p3), .val (.ref aw), .val (.ref at_), .val (.int (0 : Int32))] [(.double (FP.dsub (gw 0) (gt 0))), (.int (0 : Int32)), (.ref aw)])) (fun _ k => XS.dsubS X2.here hx rfl (hb hby d8_36) rfl (hnan 0) rfl k) ?_
  obtain ⟨T3, h3, lc3, X3, e3, W3, N3, V3, st3⟩ := putAD X2 hx hZ e2 A_w (j := (0 : Int32)) (by decide) N0 g_aw (gf := (mkF m 37 #[.val (.ref o0), .val (.ref o1), .val (.int p2), .val (.int p3), .val (.ref aw), .val (.ref at_), .val (.int (0 : Int32))] [(.double (FP.dsub (gw 0) (gt 0))), (.int (0 : Int32)), (.ref aw)])) rfl rfl (hb hby d8_37)
  refine Go.step (g' := (mkF m 38 #[.val (.ref o0), .val (.ref o1), .val (.int p2), .val (.int p3), .val (.ref aw), .val (.ref at_), .val (.int (0 : Int32))] [])) st3 ?_
  have Q4 := ((Keep.refl h0 [aw]).wr W3 (Or.inl (List.mem_of_getElem? (i := 0) rfl)))
  refine Go.step (g' := (mkF m 41 #[.val (.ref o0), .val (.ref o1), .val (.int p2), .val (.int p3), .val (.ref aw), .val (.ref at_), .val (.int ((0 : Int32) + (1 : Int32)))] [])) (fun _ k => XS.iinc X3.here hx rfl (hb hby d8_38) rfl (l' := #[.val (.ref o0), .val (.ref o1), .val (.int p2), .val (.int p3), .val (.ref aw), .val (.ref at_), .val (.int ((0 : Int32) + (1 : Int32)))]) rfl k) ?_
  rw [show ((0 : Int32) + (1 : Int32)) = (1 : Int32) from by decide]
  refine Go.step (g' := (mkF m 17 #[.val (.ref o0), .val (.ref o1), .val (.int p2), .val (.int p3), .val (.ref aw), .val (.ref at_), .val (.int (1 : Int32))] [])) (fun _ k => XS.goto X3.here hx rfl (pc0 := 41) (pc' := 17) rfl (hb hby d8_41) (by decide) (by decide) k) ?_
  skip
  refine Go.step (g' := (mkF m 19 #[.val (.ref o0), .val (.ref o1), .val (.int p2), .val (.int p3), .val (.ref aw), .val (.ref at_), .val (.int (1 : Int32))] [(.int (1 : Int32))])) (fun _ k => XS.iload X3.here hx rfl (hb hby d8_17) rfl  k) ?_
  refine Go.step (g' := (mkF m 20 #[.val (.ref o0), .val (.ref o1), .val (.int p2), .val (.int p3), .val (.ref aw), .val (.ref at_), .val (.int (1 : Int32))] [(.int (2 : Int32)), (.int (1 : Int32))])) (fun _ k => XS.iconst X3.here hx rfl (hb hby d8_19) k) ?_
  refine Go.step (g' := (mkF m 21 #[.val (.ref o0), .val (.ref o1), .val (.int p2), .val (.int p3), .val (.ref aw), .val (.ref at_), .val (.int (1 : Int32))] [(.int p3), (.int (2 : Int32)), (.int (1 : Int32))])) (fun _ k => XS.iloadN X3.here hx rfl (hb hby d8_20) rfl  k) ?_
  refine Go.step (g' := (mkF m 22 #[.val (.ref o0), .val (.ref o1), .val (.int p2), .val (.int p3), .val (.ref aw), .val (.ref at_), .val (.int (1 : Int32))] [(.int ((2 : Int32) * p3)), (.int (1 : Int32))])) (fun _ k => XS.imul X3.here hx rfl (hb hby d8_21) rfl k) ?_
  rw [show ((2 : Int32) * p3) = (2 : Int32) from by rw [hl]; decide]
  refine Go.step (g' := (mkF m 25 #[.val (.ref o0), .val (.ref o1), .val (.int p2), .val (.int p3), .val (.ref aw), .val (.ref at_), .val (.int (1 : Int32))] [])) (fun _ k => XS.icmpNo X3.here hx rfl (hb hby d8_22) rfl (tlt (by decide : (1 : Int32) < (2 : Int32))).2.1 k) ?_
  skip
  refine Go.step (g' := (mkF m 27 #[.val (.ref o0), .val (.ref o1), .val (.int p2), .val (.int p3), .val (.ref aw), .val (.ref at_), .val (.int (1 : Int32))] [(.ref aw)])) (fun _ k => XS.aload X3.here hx rfl (hb hby d8_25) rfl rfl  k) ?_
  refine Go.step (g' := (mkF m 29 #[.val (.ref o0), .val (.ref o1), .val (.int p2), .val (.int p3), .val (.ref aw), .val (.ref at_), .val (.int (1 : Int32))] [(.int (1 : Int32)), (.ref aw)])) (fun _ k => XS.iload X3.here hx rfl (hb hby d8_27) rfl  k) ?_
  refine Go.step (g' := (mkF m 30 #[.val (.ref o0), .val (.ref o1), .val (.int p2), .val (.int p3), .val (.ref aw), .val (.ref at_), .val (.int (1 : Int32))] [(.int (1 : Int32)), (.ref aw), (.int (1 : Int32)), (.ref aw)])) (fun _ k => Jvm.Free.XT.dup2 X3.here hx rfl (hb hby d8_29) rfl rfl rfl k) ?_
  refine Go.step (g' := (mkF m 31 #[.val (.ref o0), .val (.ref o1), .val (.int p2), .val (.int p3), .val (.ref aw), .val (.ref at_), .val (.int (1 : Int32))] [(.double ((upd gw (0 : Int32).toNatClampNeg (FP.dsub (gw 0) (gt 0))) (1 : Int32).toNatClampNeg)), (.int (1 : Int32)), (.ref aw)])) (fun _ k => getAD X3 hx hZ e3 V3 (j := (1 : Int32)) (by decide) (gf := (mkF m 30 #[.val (.ref o0), .val (.ref o1), .val (.int p2), .val (.int p3), .val (.ref aw), .val (.ref at_), .val (.int (1 : Int32))] [(.int (1 : Int32)), (.ref aw), (.int (1 : Int32)), (.ref aw)])) rfl rfl (hb hby d8_30) k) ?_
  rw [show ((upd gw (0 : Int32).toNatClampNeg (FP.dsub (gw 0) (gt 0))) (1 : Int32).toNatClampNeg) = (gw 1) from rfl]
  refine Go.step (g' := (mkF m 33 #[.val (.ref o0), .val (.ref o1), .val (.int p2), .val (.int p3), .val (.ref aw), .val (.ref at_), .val (.int (1 : Int32))] [(.ref at_), (.double (gw 1)), (.int (1 : Int32)), (.ref aw)])) (fun _ k => XS.aload X3.here hx rfl (hb hby d8_31) rfl rfl  k) ?_
  refine Go.step (g' := (mkF m 35 #[.val (.ref o0), .val (.ref o1), .val (.int p2), .val (.int p3), .val (.ref aw), .val (.ref at_), .val (.int (1 : Int32))] [(.int (1 : Int32)), (.ref at_), (.double (gw 1)), (.int (1 : Int32)), (.ref aw)])) (fun _ k => XS.iload X3.here hx rfl (hb hby d8_33) rfl  k) ?_
  refine Go.step (g' := (mkF m 36 #[.val (.ref o0), .val (.ref o1), .val (.int p2), .val (.int p3), .val (.ref aw), .val (.ref at_), .val (.int (1 : Int32))] [(.double (gt (1 : Int32).toNatClampNeg)), (.double (gw 1)), (.int (1 : Int32)), (.ref aw)])) (fun _ k => getAD X3 hx hZ e3 (A_t.other W3 (Ne.symm n3)) (j := (1 : Int32)) (by decide) (gf := (mkF m 35 #[.val (.ref o0), .val (.ref o1), .val (.int p2), .val (.int p3), .val (.ref aw), .val (.ref at_), .val (.int (1 : Int32))] [(.int (1 : Int32)), (.ref at_), (.double (gw 1)), (.int (1 : Int32)), (.ref aw)])) rfl rfl (hb hby d8_35) k) ?_
  rw [show (gt (1 : Int32).toNatClampNeg) = (gt 1) from rfl]
  refine Go.step (g' := (mkF m 37 #[.val (.ref o0), .val (.ref o1), .val (.int p2), .val (.int p3), .val (.ref aw), .val (.ref at_), .val (.int (1 : Int32))] [(.double (FP.dsub (gw 1) (gt 1))), (.int (1 : Int32)), (.ref aw)])) (fun _ k => XS.dsubS X3.here hx rfl (hb hby d8_36) rfl (hnan 1) rfl k) ?_
  obtain ⟨T5, h5, lc5, X5, e5, W5, N5, V5, st5⟩ := putAD X3 hx hZ e3 V3 (j := (1 : Int32)) (by decide) N3 g_aw (gf := (mkF m 37 #[.val (.ref o0), .val (.ref o1), .val (.int p2), .val (.int p3), .val (.ref aw), .val (.ref at_), .val (.int (1 : Int32))] [(.double (FP.dsub (gw 1) (gt 1))), (.int (1 : Int32)), (.ref aw)])) rfl rfl (hb hby d8_37)
  refine Go.step (g' := (mkF m 38 #[.val (.ref o0), .val (.ref o1), .val (.int p2), .val (.int p3), .val (.ref aw), .val (.ref at_), .val (.int (1 : Int32))] [])) st5 ?_
  have Q6 := (Nat.le_trans (Nat.le_trans Z0 (Keep.of_wr W3).1) (Keep.of_wr W5).1)
  refine Go.step (g' := (mkF m 41 #[.val (.ref o0), .val (.ref o1), .val (.int p2), .val (.int p3), .val (.ref aw), .val (.ref at_), .val (.int ((1 : Int32) + (1 : Int32)))] [])) (fun _ k => XS.iinc X5.here hx rfl (hb hby d8_38) rfl (l' := #[.val (.ref o0), .val (.ref o1), .val (.int p2), .val (.int p3), .val (.ref aw), .val (.ref at_), .val (.int ((1 : Int32) + (1 : Int32)))]) rfl k) ?_
  rw [show ((1 : Int32) + (1 : Int32)) = (2 : Int32) from by decide]
  refine Go.step (g' := (mkF m 17 #[.val (.ref o0), .val (.ref o1), .val (.int p2), .val (.int p3), .val (.ref aw), .val (.ref at_), .val (.int (2 : Int32))] [])) (fun _ k => XS.goto X5.here hx rfl (pc0 := 41) (pc' := 17) rfl (hb hby d8_41) (by decide) (by decide) k) ?_
  skip
  refine Go.step (g' := (mkF m 19 #[.val (.ref o0), .val (.ref o1), .val (.int p2), .val (.int p3), .val (.ref aw), .val (.ref at_), .val (.int (2 : Int32))] [(.int (2 : Int32))])) (fun _ k => XS.iload X5.here hx rfl (hb hby d8_17) rfl  k) ?_
  refine Go.step (g' := (mkF m 20 #[.val (.ref o0), .val (.ref o1), .val (.int p2), .val (.int p3), .val (.ref aw), .val (.ref at_), .val (.int (2 : Int32))] [(.int (2 : Int32)), (.int (2 : Int32))])) (fun _ k => XS.iconst X5.here hx rfl (hb hby d8_19) k) ?_
  refine Go.step (g' := (mkF m 21 #[.val (.ref o0), .val (.ref o1), .val (.int p2), .val (.int p3), .val (.ref aw), .val (.ref at_), .val (.int (2 : Int32))] [(.int p3), (.int (2 : Int32)), (.int (2 : Int32))])) (fun _ k => XS.iloadN X5.here hx rfl (hb hby d8_20) rfl  k) ?_
  refine Go.step (g' := (mkF m 22 #[.val (.ref o0), .val (.ref o1), .val (.int p2), .val (.int p3), .val (.ref aw), .val (.ref at_), .val (.int (2 : Int32))] [(.int ((2 : Int32) * p3)), (.int (2 : Int32))])) (fun _ k => XS.imul X5.here hx rfl (hb hby d8_21) rfl k) ?_
  rw [show ((2 : Int32) * p3) = (2 : Int32) from by rw [hl]; decide]
  refine Go.step (g' := (mkF m 44 #[.val (.ref o0), .val (.ref o1), .val (.int p2), .val (.int p3), .val (.ref aw), .val (.ref at_), .val (.int (2 : Int32))] [])) (fun _ k => XS.icmpYes X5.here hx rfl (pc0 := 22) (pc' := 44) rfl (hb hby d8_22) rfl (flt (by decide : ¬ ((2 : Int32) < (2 : Int32)))).2.1 (by decide) (by decide) k) ?_
  skip
  exact Go.ret0 X5 hx hlk Bd.returns (hb hby d8_44) (by decide) (by decide) (by rw [e5]; exact ⟨rfl, N5, (Q4.wr W5 (Or.inl (List.mem_of_getElem? (i := 0) rfl))), V5.cong (fun k hk => by rw [hf, hl]; match k, hk with | 0, _ => rfl | 1, _ => rfl | 2, _ => rfl | 3, _ => rfl | 4, _ => rfl | 5, _ => rfl | 6, _ => rfl | 7, _ => rfl)⟩)

set_option maxRecDepth 65536 in
set_option maxHeartbeats 40000000 in
theorem rm8w02 (l : Launch) (Z : State) (a0 : Array Value) (hw : ∀ d ∈ tables_1, d.before a0 Z = true) (ws : List Jvm.Cond) (o0 : Addr) (o1 : Addr) (p2 : Int32) (p3 : Int32) (aw : Addr) (at_ : Addr) (gw : Nat → UInt64) (gt : Nat → UInt64) (h0 : Heap) (n0 : Nat) (Z0 : n0 ≤ h0.size) (F0 : Fld Z h0 o0 "com/example/rhadamanthus/rhadamanthus/learn/Histogram" "cells" "[D" (.ref aw)) (F1 : Fld Z h0 o1 "com/example/rhadamanthus/rhadamanthus/learn/Histogram" "cells" "[D" (.ref at_)) (A_w : IA Z h0 aw .double 8 (fun k => .double (gw k))) (A_t : IA Z h0 at_ .double 8 (fun k => .double (gt k))) (n1 : o0 ≠ aw) (n2 : o1 ≠ aw) (n3 : aw ≠ at_) (g_aw : n0 ≤ aw) (hnan : ∀ k, Jvm.Free.Fl.NoNaN64 (FP.dsub (gw k) (gt k))) (hf : p2 = (0 : Int32)) (hl : p3 = (2 : Int32)) :
    MetFree l (⟨"com/example/rhadamanthus/rhadamanthus/learn/Histogram", "subtractColumns", "(Lcom/example/rhadamanthus/rhadamanthus/learn/Histogram;II)V"⟩ : MethodName) (head1 (Jvm.Cond.code (⟨"com/example/rhadamanthus/rhadamanthus/learn/Histogram", "subtractColumns", "(Lcom/example/rhadamanthus/rhadamanthus/learn/Histogram;II)V"⟩ : MethodName) prog_64_method_10_code 7 none :: ws) ({ frames := 0, cells := 0, slots := 0, locals := 0 } : Room)) (fun a U => a = #[(.ref o0), (.ref o1), (.int p2), (.int p3)] ∧ Z.Warmed39 U.vm ∧ U.heap = h0) (fun _ _ _ _ _ => True) (fun _ U o U' => ∃ v L, o = .returned v ∧ (QA Z aw (fun k => if 2 * p2.toNatClampNeg ≤ k ∧ k < 2 * p3.toNatClampNeg then FP.dsub (gw k) (gt k) else gw k) h0 n0) v U'.heap L ∧ FrameEnd U o U' L ({ frames := 0, cells := 0, slots := 0, locals := 0 } : Room).cells ({ frames := 0, cells := 0, slots := 0, locals := 0 } : Room).slots) := by
  refine MetFree.of_bodySF (plainFor_of_name pn_8) hisR ?_
  intro p e s m args below meth c s₁ Bd hml0 hP hK
  obtain ⟨rfl, hZ, hh⟩ := hP
  have hx := Bd.exec
  have hby := Bd.bytes
  have hlk : meth.locks = false := BodyLoose.notSynchronized Bd
  have hml : c.maxLocals = 7 := hml0
  have hown : s.vm.findClass "com/example/rhadamanthus/rhadamanthus/learn/Histogram" = some m.cls := findClass_of_methodNamed Bd.named
  have hnm := (name_of_methodNamed Bd.named Bd.method).1
  have X0 : Stand p l e ({ frames := 0, cells := 0, slots := 0, locals := 0 } : Room) s m #[(.ref o0), (.ref o1), (.int p2), (.int p3)] below meth c s₁ ([] : List Loc) 0 0 := Stand.of_body Bd
  have e0 : s₁.heap = h0 := by rw [← hh, Bd.state]; rfl
  show Go p e below s 0 0 (QA Z aw (fun k => if 2 * p2.toNatClampNeg ≤ k ∧ k < 2 * p3.toNatClampNeg then FP.dsub (gw k) (gt k) else gw k) h0 n0) s₁ (entryFrame m #[(.ref o0), (.ref o1), (.int p2), (.int p3)] 7)
  rw [ef_8 m o0 o1 p2 p3]
  have N0 := Fr.nil n0
  refine Go.step (g' := (mkF m 1 #[.val (.ref o0), .val (.ref o1), .val (.int p2), .val (.int p3), .unset, .unset, .unset] [(.ref o0)])) (fun _ k => XS.aloadN X0.here hx rfl (hb hby d8_0) rfl rfl  k) ?_
  obtain ⟨T1, X1, e1, st1⟩ := getF X0 hx hZ hown (host := "") (Or.inl (hw _ (List.mem_of_getElem? (i := 10) rfl))) Via.refl e0 F0 (g := (mkF m 1 #[.val (.ref o0), .val (.ref o1), .val (.int p2), .val (.int p3), .unset, .unset, .unset] [(.ref o0)])) rfl rfl (hb hby d8_1)
  refine Go.step (g' := (mkF m 4 #[.val (.ref o0), .val (.ref o1), .val (.int p2), .val (.int p3), .unset, .unset, .unset] [(.ref aw)])) st1 ?_
  refine Go.step (g' := (mkF m 6 #[.val (.ref o0), .val (.ref o1), .val (.int p2), .val (.int p3), .val (.ref aw), .unset, .unset] [])) (fun _ k => XS.astore X1.here hx rfl (hb hby d8_4) rfl rfl (l' := #[.val (.ref o0), .val (.ref o1), .val (.int p2), .val (.int p3), .val (.ref aw), .unset, .unset]) rfl k) ?_
  refine Go.step (g' := (mkF m 7 #[.val (.ref o0), .val (.ref o1), .val (.int p2), .val (.int p3), .val (.ref aw), .unset, .unset] [(.ref o1)])) (fun _ k => XS.aloadN X1.here hx rfl (hb hby d8_6) rfl rfl  k) ?_
  obtain ⟨T2, X2, e2, st2⟩ := getF X1 hx hZ hown (host := "") (Or.inl (hw _ (List.mem_of_getElem? (i := 10) rfl))) Via.refl e1 F1 (g := (mkF m 7 #[.val (.ref o0), .val (.ref o1), .val (.int p2), .val (.int p3), .val (.ref aw), .unset, .unset] [(.ref o1)])) rfl rfl (hb hby d8_7)
  refine Go.step (g' := (mkF m 10 #[.val (.ref o0), .val (.ref o1), .val (.int p2), .val (.int p3), .val (.ref aw), .unset, .unset] [(.ref at_)])) st2 ?_
  refine Go.step (g' := (mkF m 12 #[.val (.ref o0), .val (.ref o1), .val (.int p2), .val (.int p3), .val (.ref aw), .val (.ref at_), .unset] [])) (fun _ k => XS.astore X2.here hx rfl (hb hby d8_10) rfl rfl (l' := #[.val (.ref o0), .val (.ref o1), .val (.int p2), .val (.int p3), .val (.ref aw), .val (.ref at_), .unset]) rfl k) ?_
  refine Go.step (g' := (mkF m 13 #[.val (.ref o0), .val (.ref o1), .val (.int p2), .val (.int p3), .val (.ref aw), .val (.ref at_), .unset] [(.int (2 : Int32))])) (fun _ k => XS.iconst X2.here hx rfl (hb hby d8_12) k) ?_
  refine Go.step (g' := (mkF m 14 #[.val (.ref o0), .val (.ref o1), .val (.int p2), .val (.int p3), .val (.ref aw), .val (.ref at_), .unset] [(.int p2), (.int (2 : Int32))])) (fun _ k => XS.iloadN X2.here hx rfl (hb hby d8_13) rfl  k) ?_
  refine Go.step (g' := (mkF m 15 #[.val (.ref o0), .val (.ref o1), .val (.int p2), .val (.int p3), .val (.ref aw), .val (.ref at_), .unset] [(.int ((2 : Int32) * p2))])) (fun _ k => XS.imul X2.here hx rfl (hb hby d8_14) rfl k) ?_
  rw [show ((2 : Int32) * p2) = (0 : Int32) from by rw [hf]; decide]
  refine Go.step (g' := (mkF m 17 #[.val (.ref o0), .val (.ref o1), .val (.int p2), .val (.int p3), .val (.ref aw), .val (.ref at_), .val (.int (0 : Int32))] [])) (fun _ k => XS.istore X2.here hx rfl (hb hby d8_15) rfl (l' := #[.val (.ref o0), .val (.ref o1), .val (.int p2), .val (.int p3), .val (.ref aw), .val (.ref at_), .val (.int (0 : Int32))]) rfl k) ?_
  skip
  refine Go.step (g' := (mkF m 19 #[.val (.ref o0), .val (.ref o1), .val (.int p2), .val (.int p3), .val (.ref aw), .val (.ref at_), .val (.int (0 : Int32))] [(.int (0 : Int32))])) (fun _ k => XS.iload X2.here hx rfl (hb hby d8_17) rfl  k) ?_
  refine Go.step (g' := (mkF m 20 #[.val (.ref o0), .val (.ref o1), .val (.int p2), .val (.int p3), .val (.ref aw), .val (.ref at_), .val (.int (0 : Int32))] [(.int (2 : Int32)), (.int (0 : Int32))])) (fun _ k => XS.iconst X2.here hx rfl (hb hby d8_19) k) ?_
  refine Go.step (g' := (mkF m 21 #[.val (.ref o0), .val (.ref o1), .val (.int p2), .val (.int p3), .val (.ref aw), .val (.ref at_), .val (.int (0 : Int32))] [(.int p3), (.int (2 : Int32)), (.int (0 : Int32))])) (fun _ k => XS.iloadN X2.here hx rfl (hb hby d8_20) rfl  k) ?_
  refine Go.step (g' := (mkF m 22 #[.val (.ref o0), .val (.ref o1), .val (.int p2), .val (.int p3), .val (.ref aw), .val (.ref at_), .val (.int (0 : Int32))] [(.int ((2 : Int32) * p3)), (.int (0 : Int32))])) (fun _ k => XS.imul X2.here hx rfl (hb hby d8_21) rfl k) ?_
  rw [show ((2 : Int32) * p3) = (4 : Int32) from by rw [hl]; decide]
  refine Go.step (g' := (mkF m 25 #[.val (.ref o0), .val (.ref o1), .val (.int p2), .val (.int p3), .val (.ref aw), .val (.ref at_), .val (.int (0 : Int32))] [])) (fun _ k => XS.icmpNo X2.here hx rfl (hb hby d8_22) rfl (tlt (by decide : (0 : Int32) < (4 : Int32))).2.1 k) ?_
  skip
  refine Go.step (g' := (mkF m 27 #[.val (.ref o0), .val (.ref o1), .val (.int p2), .val (.int p3), .val (.ref aw), .val (.ref at_), .val (.int (0 : Int32))] [(.ref aw)])) (fun _ k => XS.aload X2.here hx rfl (hb hby d8_25) rfl rfl  k) ?_
  refine Go.step (g' := (mkF m 29 #[.val (.ref o0), .val (.ref o1), .val (.int p2), .val (.int p3), .val (.ref aw), .val (.ref at_), .val (.int (0 : Int32))] [(.int (0 : Int32)), (.ref aw)])) (fun _ k => XS.iload X2.here hx rfl (hb hby d8_27) rfl  k) ?_
  refine Go.step (g' := (mkF m 30 #[.val (.ref o0), .val (.ref o1), .val (.int p2), .val (.int p3), .val (.ref aw), .val (.ref at_), .val (.int (0 : Int32))] [(.int (0 : Int32)), (.ref aw), (.int (0 : Int32)), (.ref aw)])) (fun _ k => Jvm.Free.XT.dup2 X2.here hx rfl (hb hby d8_29) rfl rfl rfl k) ?_
  refine Go.step (g' := (mkF m 31 #[.val (.ref o0), .val (.ref o1), .val (.int p2), .val (.int p3), .val (.ref aw), .val (.ref at_), .val (.int (0 : Int32))] [(.double (gw (0 : Int32).toNatClampNeg)), (.int (0 : Int32)), (.ref aw)])) (fun _ k => getAD X2 hx hZ e2 A_w (j := (0 : Int32)) (by decide) (gf := (mkF m 30 #[.val (.ref o0), .val (.ref o1), .val (.int p2), .val (.int p3), .val (.ref aw), .val (.ref at_), .val (.int (0 : Int32))] [(.int (0 : Int32)), (.ref aw), (.int (0 : Int32)), (.ref aw)])) rfl rfl (hb hby d8_30) k) ?_
  rw [show (gw (0 : Int32).toNatClampNeg) = (gw 0) from rfl]
  refine Go.step (g' := (mkF m 33 #[.val (.ref o0), .val (.ref o1), .val (.int p2), .val (.int p3), .val (.ref aw), .val (.ref at_), .val (.int (0 : Int32))] [(.ref at_), (.double (gw 0)), (.int (0 : Int32)), (.ref aw)])) (fun _ k => XS.aload X2.here hx rfl (hb hby d8_31) rfl rfl  k) ?_
  refine Go.step (g' := (mkF m 35 #[.val (.ref o0), .val (.ref o1), .val (.int p2), .val (.int p3), .val (.ref aw), .val (.ref at_), .val (.int (0 : Int32))] [(.int (0 : Int32)), (.ref at_), (.double (gw 0)), (.int (0 : Int32)), (.ref aw)])) (fun _ k => XS.iload X2.here hx rfl (hb hby d8_33) rfl  k) ?_
  refine Go.step (g' := (mkF m 36 #[.val (.ref o0), .val (.ref o1), .val (.int p2), .val (.int p3), .val (.ref aw), .val (.ref at_), .val (.int (0 : Int32))] [(.double (gt (0 : Int32).toNatClampNeg)), (.double (gw 0)), (.int (0 : Int32)), (.ref aw)])) (fun _ k => getAD X2 hx hZ e2 A_t (j := (0 : Int32)) (by decide) (gf := (mkF m 35 #[.val (.ref o0), .val (.ref o1), .val (.int p2), .val (.int p3), .val (.ref aw), .val (.ref at_), .val (.int (0 : Int32))] [(.int (0 : Int32)), (.ref at_), (.double (gw 0)), (.int (0 : Int32)), (.ref aw)])) rfl rfl (hb hby d8_35) k) ?_
  rw [show (gt (0 : Int32).toNatClampNeg) = (gt 0) from rfl]
  refine Go.step (g' := (mkF m 37 #[.val (.ref o0), .val (.ref o1), .val (.int p2), .val (.int p3), .val (.ref aw), .val (.ref at_), .val (.int (0 : Int32))] [(.double (FP.dsub (gw 0) (gt 0))), (.int (0 : Int32)), (.ref aw)])) (fun _ k => XS.dsubS X2.here hx rfl (hb hby d8_36) rfl (hnan 0) rfl k) ?_
  obtain ⟨T3, h3, lc3, X3, e3, W3, N3, V3, st3⟩ := putAD X2 hx hZ e2 A_w (j := (0 : Int32)) (by decide) N0 g_aw (gf := (mkF m 37 #[.val (.ref o0), .val (.ref o1), .val (.int p2), .val (.int p3), .val (.ref aw), .val (.ref at_), .val (.int (0 : Int32))] [(.double (FP.dsub (gw 0) (gt 0))), (.int (0 : Int32)), (.ref aw)])) rfl rfl (hb hby d8_37)
  refine Go.step (g' := (mkF m 38 #[.val (.ref o0), .val (.ref o1), .val (.int p2), .val (.int p3), .val (.ref aw), .val (.ref at_), .val (.int (0 : Int32))] [])) st3 ?_
  have Q4 := ((Keep.refl h0 [aw]).wr W3 (Or.inl (List.mem_of_getElem? (i := 0) rfl)))
  refine Go.step (g' := (mkF m 41 #[.val (.ref o0), .val (.ref o1), .val (.int p2), .val (.int p3), .val (.ref aw), .val (.ref at_), .val (.int ((0 : Int32) + (1 : Int32)))] [])) (fun _ k => XS.iinc X3.here hx rfl (hb hby d8_38) rfl (l' := #[.val (.ref o0), .val (.ref o1), .val (.int p2), .val (.int p3), .val (.ref aw), .val (.ref at_), .val (.int ((0 : Int32) + (1 : Int32)))]) rfl k) ?_
  rw [show ((0 : Int32) + (1 : Int32)) = (1 : Int32) from by decide]
  refine Go.step (g' := (mkF m 17 #[.val (.ref o0), .val (.ref o1), .val (.int p2), .val (.int p3), .val (.ref aw), .val (.ref at_), .val (.int (1 : Int32))] [])) (fun _ k => XS.goto X3.here hx rfl (pc0 := 41) (pc' := 17) rfl (hb hby d8_41) (by decide) (by decide) k) ?_
  skip
  refine Go.step (g' := (mkF m 19 #[.val (.ref o0), .val (.ref o1), .val (.int p2), .val (.int p3), .val (.ref aw), .val (.ref at_), .val (.int (1 : Int32))] [(.int (1 : Int32))])) (fun _ k => XS.iload X3.here hx rfl (hb hby d8_17) rfl  k) ?_
  refine Go.step (g' := (mkF m 20 #[.val (.ref o0), .val (.ref o1), .val (.int p2), .val (.int p3), .val (.ref aw), .val (.ref at_), .val (.int (1 : Int32))] [(.int (2 : Int32)), (.int (1 : Int32))])) (fun _ k => XS.iconst X3.here hx rfl (hb hby d8_19) k) ?_
  refine Go.step (g' := (mkF m 21 #[.val (.ref o0), .val (.ref o1), .val (.int p2), .val (.int p3), .val (.ref aw), .val (.ref at_), .val (.int (1 : Int32))] [(.int p3), (.int (2 : Int32)), (.int (1 : Int32))])) (fun _ k => XS.iloadN X3.here hx rfl (hb hby d8_20) rfl  k) ?_
  refine Go.step (g' := (mkF m 22 #[.val (.ref o0), .val (.ref o1), .val (.int p2), .val (.int p3), .val (.ref aw), .val (.ref at_), .val (.int (1 : Int32))] [(.int ((2 : Int32) * p3)), (.int (1 : Int32))])) (fun _ k => XS.imul X3.here hx rfl (hb hby d8_21) rfl k) ?_
  rw [show ((2 : Int32) * p3) = (4 : Int32) from by rw [hl]; decide]
  refine Go.step (g' := (mkF m 25 #[.val (.ref o0), .val (.ref o1), .val (.int p2), .val (.int p3), .val (.ref aw), .val (.ref at_), .val (.int (1 : Int32))] [])) (fun _ k => XS.icmpNo X3.here hx rfl (hb hby d8_22) rfl (tlt (by decide : (1 : Int32) < (4 : Int32))).2.1 k) ?_
  skip
  refine Go.step (g' := (mkF m 27 #[.val (.ref o0), .val (.ref o1), .val (.int p2), .val (.int p3), .val (.ref aw), .val (.ref at_), .val (.int (1 : Int32))] [(.ref aw)])) (fun _ k => XS.aload X3.here hx rfl (hb hby d8_25) rfl rfl  k) ?_
  refine Go.step (g' := (mkF m 29 #[.val (.ref o0), .val (.ref o1), .val (.int p2), .val (.int p3), .val (.ref aw), .val (.ref at_), .val (.int (1 : Int32))] [(.int (1 : Int32)), (.ref aw)])) (fun _ k => XS.iload X3.here hx rfl (hb hby d8_27) rfl  k) ?_
  refine Go.step (g' := (mkF m 30 #[.val (.ref o0), .val (.ref o1), .val (.int p2), .val (.int p3), .val (.ref aw), .val (.ref at_), .val (.int (1 : Int32))] [(.int (1 : Int32)), (.ref aw), (.int (1 : Int32)), (.ref aw)])) (fun _ k => Jvm.Free.XT.dup2 X3.here hx rfl (hb hby d8_29) rfl rfl rfl k) ?_
  refine Go.step (g' := (mkF m 31 #[.val (.ref o0), .val (.ref o1), .val (.int p2), .val (.int p3), .val (.ref aw), .val (.ref at_), .val (.int (1 : Int32))] [(.double ((upd gw (0 : Int32).toNatClampNeg (FP.dsub (gw 0) (gt 0))) (1 : Int32).toNatClampNeg)), (.int (1 : Int32)), (.ref aw)])) (fun _ k => getAD X3 hx hZ e3 V3 (j := (1 : Int32)) (by decide) (gf := (mkF m 30 #[.val (.ref o0), .val (.ref o1), .val (.int p2), .val (.int p3), .val (.ref aw), .val (.ref at_), .val (.int (1 : Int32))] [(.int (1 : Int32)), (.ref aw), (.int (1 : Int32)), (.ref aw)])) rfl rfl (hb hby d8_30) k) ?_
  rw [show ((upd gw (0 : Int32).toNatClampNeg (FP.dsub (gw 0) (gt 0))) (1 : Int32).toNatClampNeg) = (gw 1) from rfl]
  refine Go.step (g' := (mkF m 33 #[.val (.ref o0), .val (.ref o1), .val (.int p2), .val (.int p3), .val (.ref aw), .val (.ref at_), .val (.int (1 : Int32))] [(.ref at_), (.double (gw 1)), (.int (1 : Int32)), (.ref aw)])) (fun _ k => XS.aload X3.here hx rfl (hb hby d8_31) rfl rfl  k) ?_
  refine Go.step (g' := (mkF m 35 #[.val (.ref o0), .val (.ref o1), .val (.int p2), .val (.int p3), .val (.ref aw), .val (.ref at_), .val (.int (1 : Int32))] [(.int (1 : Int32)), (.ref at_), (.double (gw 1)), (.int (1 : Int32)), (.ref aw)])) (fun _ k => XS.iload X3.here hx rfl (hb hby d8_33) rfl  k) ?_
  refine Go.step (g' := (mkF m 36 #[.val (.ref o0), .val (.ref o1), .val (.int p2), .val (.int p3), .val (.ref aw), .val (.ref at_), .val (.int (1 : Int32))] [(.double (gt (1 : Int32).toNatClampNeg)), (.double (gw 1)), (.int (1 : Int32)), (.ref aw)])) (fun _ k => getAD X3 hx hZ e3 (A_t.other W3 (Ne.symm n3)) (j := (1 : Int32)) (by decide) (gf := (mkF m 35 #[.val (.ref o0), .val (.ref o1), .val (.int p2), .val (.int p3), .val (.ref aw), .val (.ref at_), .val (.int (1 : Int32))] [(.int (1 : Int32)), (.ref at_), (.double (gw 1)), (.int (1 : Int32)), (.ref aw)])) rfl rfl (hb hby d8_35) k) ?_
  rw [show (gt (1 : Int32).toNatClampNeg) = (gt 1) from rfl]
  refine Go.step (g' := (mkF m 37 #[.val (.ref o0), .val (.ref o1), .val (.int p2), .val (.int p3), .val (.ref aw), .val (.ref at_), .val (.int (1 : Int32))] [(.double (FP.dsub (gw 1) (gt 1))), (.int (1 : Int32)), (.ref aw)])) (fun _ k => XS.dsubS X3.here hx rfl (hb hby d8_36) rfl (hnan 1) rfl k) ?_
  obtain ⟨T5, h5, lc5, X5, e5, W5, N5, V5, st5⟩ := putAD X3 hx hZ e3 V3 (j := (1 : Int32)) (by decide) N3 g_aw (gf := (mkF m 37 #[.val (.ref o0), .val (.ref o1), .val (.int p2), .val (.int p3), .val (.ref aw), .val (.ref at_), .val (.int (1 : Int32))] [(.double (FP.dsub (gw 1) (gt 1))), (.int (1 : Int32)), (.ref aw)])) rfl rfl (hb hby d8_37)
  refine Go.step (g' := (mkF m 38 #[.val (.ref o0), .val (.ref o1), .val (.int p2), .val (.int p3), .val (.ref aw), .val (.ref at_), .val (.int (1 : Int32))] [])) st5 ?_
  have Q6 := (Nat.le_trans (Nat.le_trans Z0 (Keep.of_wr W3).1) (Keep.of_wr W5).1)
  refine Go.step (g' := (mkF m 41 #[.val (.ref o0), .val (.ref o1), .val (.int p2), .val (.int p3), .val (.ref aw), .val (.ref at_), .val (.int ((1 : Int32) + (1 : Int32)))] [])) (fun _ k => XS.iinc X5.here hx rfl (hb hby d8_38) rfl (l' := #[.val (.ref o0), .val (.ref o1), .val (.int p2), .val (.int p3), .val (.ref aw), .val (.ref at_), .val (.int ((1 : Int32) + (1 : Int32)))]) rfl k) ?_
  rw [show ((1 : Int32) + (1 : Int32)) = (2 : Int32) from by decide]
  refine Go.step (g' := (mkF m 17 #[.val (.ref o0), .val (.ref o1), .val (.int p2), .val (.int p3), .val (.ref aw), .val (.ref at_), .val (.int (2 : Int32))] [])) (fun _ k => XS.goto X5.here hx rfl (pc0 := 41) (pc' := 17) rfl (hb hby d8_41) (by decide) (by decide) k) ?_
  skip
  refine Go.step (g' := (mkF m 19 #[.val (.ref o0), .val (.ref o1), .val (.int p2), .val (.int p3), .val (.ref aw), .val (.ref at_), .val (.int (2 : Int32))] [(.int (2 : Int32))])) (fun _ k => XS.iload X5.here hx rfl (hb hby d8_17) rfl  k) ?_
  refine Go.step (g' := (mkF m 20 #[.val (.ref o0), .val (.ref o1), .val (.int p2), .val (.int p3), .val (.ref aw), .val (.ref at_), .val (.int (2 : Int32))] [(.int (2 : Int32)), (.int (2 : Int32))])) (fun _ k => XS.iconst X5.here hx rfl (hb hby d8_19) k) ?_
  refine Go.step (g' := (mkF m 21 #[.val (.ref o0), .val (.ref o1), .val (.int p2), .val (.int p3), .val (.ref aw), .val (.ref at_), .val (.int (2 : Int32))] [(.int p3), (.int (2 : Int32)), (.int (2 : Int32))])) (fun _ k => XS.iloadN X5.here hx rfl (hb hby d8_20) rfl  k) ?_
  refine Go.step (g' := (mkF m 22 #[.val (.ref o0), .val (.ref o1), .val (.int p2), .val (.int p3), .val (.ref aw), .val (.ref at_), .val (.int (2 : Int32))] [(.int ((2 : Int32) * p3)), (.int (2 : Int32))])) (fun _ k => XS.imul X5.here hx rfl (hb hby d8_21) rfl k) ?_
  rw [show ((2 : Int32) * p3) = (4 : Int32) from by rw [hl]; decide]
  refine Go.step (g' := (mkF m 25 #[.val (.ref o0), .val (.ref o1), .val (.int p2), .val (.int p3), .val (.ref aw), .val (.ref at_), .val (.int (2 : Int32))] [])) (fun _ k => XS.icmpNo X5.here hx rfl (hb hby d8_22) rfl (tlt (by decide : (2 : Int32) < (4 : Int32))).2.1 k) ?_
  skip
  refine Go.step (g' := (mkF m 27 #[.val (.ref o0), .val (.ref o1), .val (.int p2), .val (.int p3), .val (.ref aw), .val (.ref at_), .val (.int (2 : Int32))] [(.ref aw)])) (fun _ k => XS.aload X5.here hx rfl (hb hby d8_25) rfl rfl  k) ?_
  refine Go.step (g' := (mkF m 29 #[.val (.ref o0), .val (.ref o1), .val (.int p2), .val (.int p3), .val (.ref aw), .val (.ref at_), .val (.int (2 : Int32))] [(.int (2 : Int32)), (.ref aw)])) (fun _ k => XS.iload X5.here hx rfl (hb hby d8_27) rfl  k) ?_
  refine Go.step (g' := (mkF m 30 #[.val (.ref o0), .val (.ref o1), .val (.int p2), .val (.int p3), .val (.ref aw), .val (.ref at_), .val (.int (2 : Int32))] [(.int (2 : Int32)), (.ref aw), (.int (2 : Int32)), (.ref aw)])) (fun _ k => Jvm.Free.XT.dup2 X5.here hx rfl (hb hby d8_29) rfl rfl rfl k) ?_
  refine Go.step (g' := (mkF m 31 #[.val (.ref o0), .val (.ref o1), .val (.int p2), .val (.int p3), .val (.ref aw), .val (.ref at_), .val (.int (2 : Int32))] [(.double ((upd (upd gw (0 : Int32).toNatClampNeg (FP.dsub (gw 0) (gt 0))) (1 : Int32).toNatClampNeg (FP.dsub (gw 1) (gt 1))) (2 : Int32).toNatClampNeg)), (.int (2 : Int32)), (.ref aw)])) (fun _ k => getAD X5 hx hZ e5 V5 (j := (2 : Int32)) (by decide) (gf := (mkF m 30 #[.val (.ref o0), .val (.ref o1), .val (.int p2), .val (.int p3), .val (.ref aw), .val (.ref at_), .val (.int (2 : Int32))] [(.int (2 : Int32)), (.ref aw), (.int (2 : Int32)), (.ref aw)])) rfl rfl (hb hby d8_30) k) ?_
  rw [show ((upd (upd gw (0 : Int32).toNatClampNeg (FP.dsub (gw 0) (gt 0))) (1 : Int32).toNatClampNeg (FP.dsub (gw 1) (gt 1))) (2 : Int32).toNatClampNeg) = (gw 2) from rfl]
  refine Go.step (g' := (mkF m 33 #[.val (.ref o0), .val (.ref o1), .val (.int p2), .val (.int p3), .val (.ref aw), .val (.ref at_), .val (.int (2 : Int32))] [(.ref at_), (.double (gw 2)), (.int (2 : Int32)), (.ref aw)])) (fun _ k => XS.aload X5.here hx rfl (hb hby d8_31) rfl rfl  k) ?_
  refine Go.step (g' := (mkF m 35 #[.val (.ref o0), .val (.ref o1), .val (.int p2), .val (.int p3), .val (.ref aw), .val (.ref at_), .val (.int (2 : Int32))] [(.int (2 : Int32)), (.ref at_), (.double (gw 2)), (.int (2 : Int32)), (.ref aw)])) (fun _ k => XS.iload X5.here hx rfl (hb hby d8_33) rfl  k) ?_
  refine Go.step (g' := (mkF m 36 #[.val (.ref o0), .val (.ref o1), .val (.int p2), .val (.int p3), .val (.ref aw), .val (.ref at_), .val (.int (2 : Int32))] [(.double (gt (2 : Int32).toNatClampNeg)), (.double (gw 2)), (.int (2 : Int32)), (.ref aw)])) (fun _ k => getAD X5 hx hZ e5 ((A_t.other W3 (Ne.symm n3)).other W5 (Ne.symm n3)) (j := (2 : Int32)) (by decide) (gf := (mkF m 35 #[.val (.ref o0), .val (.ref o1), .val (.int p2), .val (.int p3), .val (.ref aw), .val (.ref at_), .val (.int (2 : Int32))] [(.int (2 : Int32)), (.ref at_), (.double (gw 2)), (.int (2 : Int32)), (.ref aw)])) rfl rfl (hb hby d8_35) k) ?_
  rw [show (gt (2 : Int32).toNatClampNeg) = (gt 2) from rfl]
  refine Go.step (g' := (mkF m 37 #[.val (.ref o0), .val (.ref o1), .val (.int p2), .val (.int p3), .val (.ref aw), .val (.ref at_), .val (.int (2 : Int32))] [(.double (FP.dsub (gw 2) (gt 2))), (.int (2 : Int32)), (.ref aw)])) (fun _ k => XS.dsubS X5.here hx rfl (hb hby d8_36) rfl (hnan 2) rfl k) ?_
  obtain ⟨T7, h7, lc7, X7, e7, W7, N7, V7, st7⟩ := putAD X5 hx hZ e5 V5 (j := (2 : Int32)) (by decide) N5 g_aw (gf := (mkF m 37 #[.val (.ref o0), .val (.ref o1), .val (.int p2), .val (.int p3), .val (.ref aw), .val (.ref at_), .val (.int (2 : Int32))] [(.double (FP.dsub (gw 2) (gt 2))), (.int (2 : Int32)), (.ref aw)])) rfl rfl (hb hby d8_37)
  refine Go.step (g' := (mkF m 38 #[.val (.ref o0), .val (.ref o1), .val (.int p2), .val (.int p3), .val (.ref aw), .val (.ref at_), .val (.int (2 : Int32))] [])) st7 ?_
  have Q8 := (((F0.other W3 (Or.inl n1)).other W5 (Or.inl n1)).other W7 (Or.inl n1))
  have Q9 := (((F1.other W3 (Or.inl n2)).other W5 (Or.inl n2)).other W7 (Or.inl n2))
  have Q10 := (((A_t.other W3 (Ne.symm n3)).other W5 (Ne.symm n3)).other W7 (Ne.symm n3))
  have Q11 := ((Q4.wr W5 (Or.inl (List.mem_of_getElem? (i := 0) rfl))).wr W7 (Or.inl (List.mem_of_getElem? (i := 0) rfl)))
  refine Go.step (g' := (mkF m 41 #[.val (.ref o0), .val (.ref o1), .val (.int p2), .val (.int p3), .val (.ref aw), .val (.ref at_), .val (.int ((2 : Int32) + (1 : Int32)))] [])) (fun _ k => XS.iinc X7.here hx rfl (hb hby d8_38) rfl (l' := #[.val (.ref o0), .val (.ref o1), .val (.int p2), .val (.int p3), .val (.ref aw), .val (.ref at_), .val (.int ((2 : Int32) + (1 : Int32)))]) rfl k) ?_
  rw [show ((2 : Int32) + (1 : Int32)) = (3 : Int32) from by decide]
  refine Go.step (g' := (mkF m 17 #[.val (.ref o0), .val (.ref o1), .val (.int p2), .val (.int p3), .val (.ref aw), .val (.ref at_), .val (.int (3 : Int32))] [])) (fun _ k => XS.goto X7.here hx rfl (pc0 := 41) (pc' := 17) rfl (hb hby d8_41) (by decide) (by decide) k) ?_
  skip
  refine Go.step (g' := (mkF m 19 #[.val (.ref o0), .val (.ref o1), .val (.int p2), .val (.int p3), .val (.ref aw), .val (.ref at_), .val (.int (3 : Int32))] [(.int (3 : Int32))])) (fun _ k => XS.iload X7.here hx rfl (hb hby d8_17) rfl  k) ?_
  refine Go.step (g' := (mkF m 20 #[.val (.ref o0), .val (.ref o1), .val (.int p2), .val (.int p3), .val (.ref aw), .val (.ref at_), .val (.int (3 : Int32))] [(.int (2 : Int32)), (.int (3 : Int32))])) (fun _ k => XS.iconst X7.here hx rfl (hb hby d8_19) k) ?_
  refine Go.step (g' := (mkF m 21 #[.val (.ref o0), .val (.ref o1), .val (.int p2), .val (.int p3), .val (.ref aw), .val (.ref at_), .val (.int (3 : Int32))] [(.int p3), (.int (2 : Int32)), (.int (3 : Int32))])) (fun _ k => XS.iloadN X7.here hx rfl (hb hby d8_20) rfl  k) ?_
  refine Go.step (g' := (mkF m 22 #[.val (.ref o0), .val (.ref o1), .val (.int p2), .val (.int p3), .val (.ref aw), .val (.ref at_), .val (.int (3 : Int32))] [(.int ((2 : Int32) * p3)), (.int (3 : Int32))])) (fun _ k => XS.imul X7.here hx rfl (hb hby d8_21) rfl k) ?_
  rw [show ((2 : Int32) * p3) = (4 : Int32) from by rw [hl]; decide]
  refine Go.step (g' := (mkF m 25 #[.val (.ref o0), .val (.ref o1), .val (.int p2), .val (.int p3), .val (.ref aw), .val (.ref at_), .val (.int (3 : Int32))] [])) (fun _ k => XS.icmpNo X7.here hx rfl (hb hby d8_22) rfl (tlt (by decide : (3 : Int32) < (4 : Int32))).2.1 k) ?_
  skip
  refine Go.step (g' := (mkF m 27 #[.val (.ref o0), .val (.ref o1), .val (.int p2), .val (.int p3), .val (.ref aw), .val (.ref at_), .val (.int (3 : Int32))] [(.ref aw)])) (fun _ k => XS.aload X7.here hx rfl (hb hby d8_25) rfl rfl  k) ?_
  refine Go.step (g' := (mkF m 29 #[.val (.ref o0), .val (.ref o1), .val (.int p2), .val (.int p3), .val (.ref aw), .val (.ref at_), .val (.int (3 : Int32))] [(.int (3 : Int32)), (.ref aw)])) (fun _ k => XS.iload X7.here hx rfl (hb hby d8_27) rfl  k) ?_
  refine Go.step (g' := (mkF m 30 #[.val (.ref o0), .val (.ref o1), .val (.int p2), .val (.int p3), .val (.ref aw), .val (.ref at_), .val (.int (3 : Int32))] [(.int (3 : Int32)), (.ref aw), (.int (3 : Int32)), (.ref aw)])) (fun _ k => Jvm.Free.XT.dup2 X7.here hx rfl (hb hby d8_29) rfl rfl rfl k) ?_
  refine Go.step (g' := (mkF m 31 #[.val (.ref o0), .val (.ref o1), .val (.int p2), .val (.int p3), .val (.ref aw), .val (.ref at_), .val (.int (3 : Int32))] [(.double ((upd (upd (upd gw (0 : Int32).toNatClampNeg (FP.dsub (gw 0) (gt 0))) (1 : Int32).toNatClampNeg (FP.dsub (gw 1) (gt 1))) (2 : Int32).toNatClampNeg (FP.dsub (gw 2) (gt 2))) (3 : Int32).toNatClampNeg)), (.int (3 : Int32)), (.ref aw)])) (fun _ k => getAD X7 hx hZ e7 V7 (j := (3 : Int32)) (by decide) (gf := (mkF m 30 #[.val (.ref o0), .val (.ref o1), .val (.int p2), .val (.int p3), .val (.ref aw), .val (.ref at_), .val (.int (3 : Int32))] [(.int (3 : Int32)), (.ref aw), (.int (3 : Int32)), (.ref aw)])) rfl rfl (hb hby d8_30) k) ?_
  rw [show ((upd (upd (upd gw (0 : Int32).toNatClampNeg (FP.dsub (gw 0) (gt 0))) (1 : Int32).toNatClampNeg (FP.dsub (gw 1) (gt 1))) (2 : Int32).toNatClampNeg (FP.dsub (gw 2) (gt 2))) (3 : Int32).toNatClampNeg) = (gw 3) from rfl]
  refine Go.step (g' := (mkF m 33 #[.val (.ref o0), .val (.ref o1), .val (.int p2), .val (.int p3), .val (.ref aw), .val (.ref at_), .val (.int (3 : Int32))] [(.ref at_), (.double (gw 3)), (.int (3 : Int32)), (.ref aw)])) (fun _ k => XS.aload X7.here hx rfl (hb hby d8_31) rfl rfl  k) ?_
  refine Go.step (g' := (mkF m 35 #[.val (.ref o0), .val (.ref o1), .val (.int p2), .val (.int p3), .val (.ref aw), .val (.ref at_), .val (.int (3 : Int32))] [(.int (3 : Int32)), (.ref at_), (.double (gw 3)), (.int (3 : Int32)), (.ref aw)])) (fun _ k => XS.iload X7.here hx rfl (hb hby d8_33) rfl  k) ?_
  refine Go.step (g' := (mkF m 36 #[.val (.ref o0), .val (.ref o1), .val (.int p2), .val (.int p3), .val (.ref aw), .val (.ref at_), .val (.int (3 : Int32))] [(.double (gt (3 : Int32).toNatClampNeg)), (.double (gw 3)), (.int (3 : Int32)), (.ref aw)])) (fun _ k => getAD X7 hx hZ e7 Q10 (j := (3 : Int32)) (by decide) (gf := (mkF m 35 #[.val (.ref o0), .val (.ref o1), .val (.int p2), .val (.int p3), .val (.ref aw), .val (.ref at_), .val (.int (3 : Int32))] [(.int (3 : Int32)), (.ref at_), (.double (gw 3)), (.int (3 : Int32)), (.ref aw)])) rfl rfl (hb hby d8_35) k) ?_
  rw [show (gt (3 : Int32).toNatClampNeg) = (gt 3) from rfl]
  refine Go.step (g' := (mkF m 37 #[.val (.ref o0), .val (.ref o1), .val (.int p2), .val (.int p3), .val (.ref aw), .val (.ref at_), .val (.int (3 : Int32))] [(.double (FP.dsub (gw 3) (gt 3))), (.int (3 : Int32)), (.ref aw)])) (fun _ k => XS.dsubS X7.here hx rfl (hb hby d8_36) rfl (hnan 3) rfl k) ?_
  obtain ⟨T12, h12, lc12, X12, e12, W12, N12, V12, st12⟩ := putAD X7 hx hZ e7 V7 (j := (3 : Int32)) (by decide) N7 g_aw (gf := (mkF m 37 #[.val (.ref o0), .val (.ref o1), .val (.int p2), .val (.int p3), .val (.ref aw), .val (.ref at_), .val (.int (3 : Int32))] [(.double (FP.dsub (gw 3) (gt 3))), (.int (3 : Int32)), (.ref aw)])) rfl rfl (hb hby d8_37)
  refine Go.step (g' := (mkF m 38 #[.val (.ref o0), .val (.ref o1), .val (.int p2), .val (.int p3), .val (.ref aw), .val (.ref at_), .val (.int (3 : Int32))] [])) st12 ?_
  have Q13 := (Nat.le_trans (Nat.le_trans Q6 (Keep.of_wr W7).1) (Keep.of_wr W12).1)
  refine Go.step (g' := (mkF m 41 #[.val (.ref o0), .val (.ref o1), .val (.int p2), .val (.int p3), .val (.ref aw), .val (.ref at_), .val (.int ((3 : Int32) + (1 : Int32)))] [])) (fun _ k => XS.iinc X12.here hx rfl (hb hby d8_38) rfl (l' := #[.val (.ref o0), .val (.ref o1), .val (.int p2), .val (.int p3), .val (.ref aw), .val (.ref at_), .val (.int ((3 : Int32) + (1 : Int32)))]) rfl k) ?_
  rw [show ((3 : Int32) + (1 : Int32)) = (4 : Int32) from by decide]
  refine Go.step (g' := (mkF m 17 #[.val (.ref o0), .val (.ref o1), .val (.int p2), .val (.int p3), .val (.ref aw), .val (.ref at_), .val (.int (4 : Int32))] [])) (fun _ k => XS.goto X12.here hx rfl (pc0 := 41) (pc' := 17) rfl (hb hby d8_41) (by decide) (by decide) k) ?_
  skip
  refine Go.step (g' := (mkF m 19 #[.val (.ref o0), .val (.ref o1), .val (.int p2), .val (.int p3), .val (.ref aw), .val (.ref at_), .val (.int (4 : Int32))] [(.int (4 : Int32))])) (fun _ k => XS.iload X12.here hx rfl (hb hby d8_17) rfl  k) ?_
  refine Go.step (g' := (mkF m 20 #[.val (.ref o0), .val (.ref o1), .val (.int p2), .val (.int p3), .val (.ref aw), .val (.ref at_), .val (.int (4 : Int32))] [(.int (2 : Int32)), (.int (4 : Int32))])) (fun _ k => XS.iconst X12.here hx rfl (hb hby d8_19) k) ?_
  refine Go.step (g' := (mkF m 21 #[.val (.ref o0), .val (.ref o1), .val (.int p2), .val (.int p3), .val (.ref aw), .val (.ref at_), .val (.int (4 : Int32))] [(.int p3), (.int (2 : Int32)), (.int (4 : Int32))])) (fun _ k => XS.iloadN X12.here hx rfl (hb hby d8_20) rfl  k) ?_
  refine Go.step (g' := (mkF m 22 #[.val (.ref o0), .val (.ref o1), .val (.int p2), .val (.int p3), .val (.ref aw), .val (.ref at_), .val (.int (4 : Int32))] [(.int ((2 : Int32) * p3)), (.int (4 : Int32))])) (fun _ k => XS.imul X12.here hx rfl (hb hby d8_21) rfl k) ?_
  rw [show ((2 : Int32) * p3) = (4 : Int32) from by rw [hl]; decide]
  refine Go.step (g' := (mkF m 44 #[.val (.ref o0), .val (.ref o1), .val (.int p2), .val (.int p3), .val (.ref aw), .val (.ref at_), .val (.int (4 : Int32))] [])) (fun _ k => XS.icmpYes X12.here hx rfl (pc0 := 22) (pc' := 44) rfl (hb hby d8_22) rfl (flt (by decide : ¬ ((4 : Int32) < (4 : Int32)))).2.1 (by decide) (by decide) k) ?_
  skip
  exact Go.ret0 X12 hx hlk Bd.returns (hb hby d8_44) (by decide) (by decide) (by rw [e12]; exact ⟨rfl, N12, (Q11.wr W12 (Or.inl (List.mem_of_getElem? (i := 0) rfl))), V12.cong (fun k hk => by rw [hf, hl]; match k, hk with | 0, _ => rfl | 1, _ => rfl | 2, _ => rfl | 3, _ => rfl | 4, _ => rfl | 5, _ => rfl | 6, _ => rfl | 7, _ => rfl)⟩)

set_option maxRecDepth 65536 in
set_option maxHeartbeats 40000000 in
theorem rm8w03 (l : Launch) (Z : State) (a0 : Array Value) (hw : ∀ d ∈ tables_1, d.before a0 Z = true) (ws : List Jvm.Cond) (o0 : Addr) (o1 : Addr) (p2 : Int32) (p3 : Int32) (aw : Addr) (at_ : Addr) (gw : Nat → UInt64) (gt : Nat → UInt64) (h0 : Heap) (n0 : Nat) (Z0 : n0 ≤ h0.size) (F0 : Fld Z h0 o0 "com/example/rhadamanthus/rhadamanthus/learn/Histogram" "cells" "[D" (.ref aw)) (F1 : Fld Z h0 o1 "com/example/rhadamanthus/rhadamanthus/learn/Histogram" "cells" "[D" (.ref at_)) (A_w : IA Z h0 aw .double 8 (fun k => .double (gw k))) (A_t : IA Z h0 at_ .double 8 (fun k => .double (gt k))) (n1 : o0 ≠ aw) (n2 : o1 ≠ aw) (n3 : aw ≠ at_) (g_aw : n0 ≤ aw) (hnan : ∀ k, Jvm.Free.Fl.NoNaN64 (FP.dsub (gw k) (gt k))) (hf : p2 = (0 : Int32)) (hl : p3 = (3 : Int32)) :
    MetFree l (⟨"com/example/rhadamanthus/rhadamanthus/learn/Histogram", "subtractColumns", "(Lcom/example/rhadamanthus/rhadamanthus/learn/Histogram;II)V"⟩ : MethodName) (head1 (Jvm.Cond.code (⟨"com/example/rhadamanthus/rhadamanthus/learn/Histogram", "subtractColumns", "(Lcom/example/rhadamanthus/rhadamanthus/learn/Histogram;II)V"⟩ : MethodName) prog_64_method_10_code 7 none :: ws) ({ frames := 0, cells := 0, slots := 0, locals := 0 } : Room)) (fun a U => a = #[(.ref o0), (.ref o1), (.int p2), (.int p3)] ∧ Z.Warmed39 U.vm ∧ U.heap = h0) (fun _ _ _ _ _ => True) (fun _ U o U' => ∃ v L, o = .returned v ∧ (QA Z aw (fun k => if 2 * p2.toNatClampNeg ≤ k ∧ k < 2 * p3.toNatClampNeg then FP.dsub (gw k) (gt k) else gw k) h0 n0) v U'.heap L ∧ FrameEnd U o U' L ({ frames := 0, cells := 0, slots := 0, locals := 0 } : Room).cells ({ frames := 0, cells := 0, slots := 0, locals := 0 } : Room).slots) := by
  refine MetFree.of_bodySF (plainFor_of_name pn_8) hisR ?_
  intro p e s m args below meth c s₁ Bd hml0 hP hK
  obtain ⟨rfl, hZ, hh⟩ := hP
  have hx := Bd.exec
  have hby := Bd.bytes
  have hlk : meth.locks = false := BodyLoose.notSynchronized Bd
  have hml : c.maxLocals = 7 := hml0
  have hown : s.vm.findClass "com/example/rhadamanthus/rhadamanthus/learn/Histogram" = some m.cls := findClass_of_methodNamed Bd.named
  have hnm := (name_of_methodNamed Bd.named Bd.method).1
  have X0 : Stand p l e ({ frames := 0, cells := 0, slots := 0, locals := 0 } : Room) s m #[(.ref o0), (.ref o1), (.int p2), (.int p3)] below meth c s₁ ([] : List Loc) 0 0 := Stand.of_body Bd
  have e0 : s₁.heap = h0 := by rw [← hh, Bd.state]; rfl
  show Go p e below s 0 0 (QA Z aw (fun k => if 2 * p2.toNatClampNeg ≤ k ∧ k < 2 * p3.toNatClampNeg then FP.dsub (gw k) (gt k) else gw k) h0 n0) s₁ (entryFrame m #[(.ref o0), (.ref o1), (.int p2), (.int p3)] 7)
  rw [ef_8 m o0 o1 p2 p3]
  have N0 := Fr.nil n0
  refine Go.step (g' := (mkF m 1 #[.val (.ref o0), .val (.ref o1), .val (.int p2), .val (.int p3), .unset, .unset, .unset] [(.ref o0)])) (fun _ k => XS.aloadN X0.here hx rfl (hb hby d8_0) rfl rfl  k) ?_
  obtain ⟨T1, X1, e1, st1⟩ := getF X0 hx hZ hown (host := "") (Or.inl (hw _ (List.mem_of_getElem? (i := 10) rfl))) Via.refl e0 F0 (g := (mkF m 1 #[.val (.ref o0), .val (.ref o1), .val (.int p2), .val (.int p3), .unset, .unset, .unset] [(.ref o0)])) rfl rfl (hb hby d8_1)
  refine Go.step (g' := (mkF m 4 #[.val (.ref o0), .val (.ref o1), .val (.int p2), .val (.int p3), .unset, .unset, .unset] [(.ref aw)])) st1 ?_
  refine Go.step (g' := (mkF m 6 #[.val (.ref o0), .val (.ref o1), .val (.int p2), .val (.int p3), .val (.ref aw), .unset, .unset] [])) (fun _ k => XS.astore X1.here hx rfl (hb hby d8_4) rfl rfl (l' := #[.val (.ref o0), .val (.ref o1), .val (.int p2), .val (.int p3), .val (.ref aw), .unset, .unset]) rfl k) ?_
  refine Go.step (g' := (mkF m 7 #[.val (.ref o0), .val (.ref o1), .val (.int p2), .val (.int p3), .val (.ref aw), .unset, .unset] [(.ref o1)])) (fun _ k => XS.aloadN X1.here hx rfl (hb hby d8_6) rfl rfl  k) ?_
  obtain ⟨T2, X2, e2, st2⟩ := getF X1 hx hZ hown (host := "") (Or.inl (hw _ (List.mem_of_getElem? (i := 10) rfl))) Via.refl e1 F1 (g := (mkF m 7 #[.val (.ref o0), .val (.ref o1), .val (.int p2), .val (.int p3), .val (.ref aw), .unset, .unset] [(.ref o1)])) rfl rfl (hb hby d8_7)
  refine Go.step (g' := (mkF m 10 #[.val (.ref o0), .val (.ref o1), .val (.int p2), .val (.int p3), .val (.ref aw), .unset, .unset] [(.ref at_)])) st2 ?_
  refine Go.step (g' := (mkF m 12 #[.val (.ref o0), .val (.ref o1), .val (.int p2), .val (.int p3), .val (.ref aw), .val (.ref at_), .unset] [])) (fun _ k => XS.astore X2.here hx rfl (hb hby d8_10) rfl rfl (l' := #[.val (.ref o0), .val (.ref o1), .val (.int p2), .val (.int p3), .val (.ref aw), .val (.ref at_), .unset]) rfl k) ?_
  refine Go.step (g' := (mkF m 13 #[.val (.ref o0), .val (.ref o1), .val (.int p2), .val (.int p3), .val (.ref aw), .val (.ref at_), .unset] [(.int (2 : Int32))])) (fun _ k => XS.iconst X2.here hx rfl (hb hby d8_12) k) ?_
  refine Go.step (g' := (mkF m 14 #[.val (.ref o0), .val (.ref o1), .val (.int p2), .val (.int p3), .val (.ref aw), .val (.ref at_), .unset] [(.int p2), (.int (2 : Int32))])) (fun _ k => XS.iloadN X2.here hx rfl (hb hby d8_13) rfl  k) ?_
  refine Go.step (g' := (mkF m 15 #[.val (.ref o0), .val (.ref o1), .val (.int p2), .val (.int p3), .val (.ref aw), .val (.ref at_), .unset] [(.int ((2 : Int32) * p2))])) (fun _ k => XS.imul X2.here hx rfl (hb hby d8_14) rfl k) ?_
  rw [show ((2 : Int32) * p2) = (0 : Int32) from by rw [hf]; decide]
  refine Go.step (g' := (mkF m 17 #[.val (.ref o0), .val (.ref o1), .val (.int p2), .val (.int p3), .val (.ref aw), .val (.ref at_), .val (.int (0 : Int32))] [])) (fun _ k => XS.istore X2.here hx rfl (hb hby d8_15) rfl (l' := #[.val (.ref o0), .val (.ref o1), .val (.int p2), .val (.int p3), .val (.ref aw), .val (.ref at_), .val (.int (0 : Int32))]) rfl k) ?_
  skip
  refine Go.step (g' := (mkF m 19 #[.val (.ref o0), .val (.ref o1), .val (.int p2), .val (.int p3), .val (.ref aw), .val (.ref at_), .val (.int (0 : Int32))] [(.int (0 : Int32))])) (fun _ k => XS.iload X2.here hx rfl (hb hby d8_17) rfl  k) ?_
  refine Go.step (g' := (mkF m 20 #[.val (.ref o0), .val (.ref o1), .val (.int p2), .val (.int p3), .val (.ref aw), .val (.ref at_), .val (.int (0 : Int32))] [(.int (2 : Int32)), (.int (0 : Int32))])) (fun _ k => XS.iconst X2.here hx rfl (hb hby d8_19) k) ?_
  refine Go.step (g' := (mkF m 21 #[.val (.ref o0), .val (.ref o1), .val (.int p2), .val (.int p3), .val (.ref aw), .val (.ref at_), .val (.int (0 : Int32))] [(.int p3), (.int (2 : Int32)), (.int (0 : Int32))])) (fun _ k => XS.iloadN X2.here hx rfl (hb hby d8_20) rfl  k) ?_
  refine Go.step (g' := (mkF m 22 #[.val (.ref o0), .val (.ref o1), .val (.int p2), .val (.int p3), .val (.ref aw), .val (.ref at_), .val (.int (0 : Int32))] [(.int ((2 : Int32) * p3)), (.int (0 : Int32))])) (fun _ k => XS.imul X2.here hx rfl (hb hby d8_21) rfl k) ?_
  rw [show ((2 : Int32) * p3) = (6 : Int32) from by rw [hl]; decide]
  refine Go.step (g' := (mkF m 25 #[.val (.ref o0), .val (.ref o1), .val (.int p2), .val (.int p3), .val (.ref aw), .val (.ref at_), .val (.int (0 : Int32))] [])) (fun _ k => XS.icmpNo X2.here hx rfl (hb hby d8_22) rfl (tlt (by decide : (0 : Int32) < (6 : Int32))).2.1 k) ?_
  skip
  refine Go.step (g' := (mkF m 27 #[.val (.ref o0), .val (.ref o1), .val (.int p2), .val (.int p3), .val (.ref aw), .val (.ref at_), .val (.int (0 : Int32))] [(.ref aw)])) (fun _ k => XS.aload X2.here hx rfl (hb hby d8_25) rfl rfl  k) ?_
  refine Go.step (g' := (mkF m 29 #[.val (.ref o0), .val (.ref o1), .val (.int p2), .val (.int p3), .val (.ref aw), .val (.ref at_), .val (.int (0 : Int32))] [(.int (0 : Int32)), (.ref aw)])) (fun _ k => XS.iload X2.here hx rfl (hb hby d8_27) rfl  k) ?_
  refine Go.step (g' := (mkF m 30 #[.val (.ref o0), .val (.ref o1), .val (.int p2), .val (.int p3), .val (.ref aw), .val (.ref at_), .val (.int (0 : Int32))] [(.int (0 : Int32)), (.ref aw), (.int (0 : Int32)), (.ref aw)])) (fun _ k => Jvm.Free.XT.dup2 X2.here hx rfl (hb hby d8_29) rfl rfl rfl k) ?_
  refine Go.step (g' := (mkF m 31 #[.val (.ref o0), .val (.ref o1), .val (.int p2), .val (.int p3), .val (.ref aw), .val (.ref at_), .val (.int (0 : Int32))] [(.double (gw (0 : Int32).toNatClampNeg)), (.int (0 : Int32)), (.ref aw)])) (fun _ k => getAD X2 hx hZ e2 A_w (j := (0 : Int32)) (by decide) (gf := (mkF m 30 #[.val (.ref o0), .val (.ref o1), .val (.int p2), .val (.int p3), .val (.ref aw), .val (.ref at_), .val (.int (0 : Int32))] [(.int (0 : Int32)), (.ref aw), (.int (0 : Int32)), (.ref aw)])) rfl rfl (hb hby d8_30) k) ?_
  rw [show (gw (0 : Int32).toNatClampNeg) = (gw 0) from rfl]
  refine Go.step (g' := (mkF m 33 #[.val (.ref o0), .val (.ref o1), .val (.int p2), .val (.int p3), .val (.ref aw), .val (.ref at_), .val (.int (0 : Int32))] [(.ref at_), (.double (gw 0)), (.int (0 : Int32)), (.ref aw)])) (fun _ k => XS.aload X2.here hx rfl (hb hby d8_31) rfl rfl  k) ?_
  refine Go.step (g' := (mkF m 35 #[.val (.ref o0), .val (.ref o1), .val (.int p2), .val (.int p3), .val (.ref aw), .val (.ref at_), .val (.int (0 : Int32))] [(.int (0 : Int32)), (.ref at_), (.double (gw 0)), (.int (0 : Int32)), (.ref aw)])) (fun _ k => XS.iload X2.here hx rfl (hb hby d8_33) rfl  k) ?_
  refine Go.step (g' := (mkF m 36 #[.val (.ref o0), .val (.ref o1), .val (.int p2), .val (.int p3), .val (.ref aw), .val (.ref at_), .val (.int (0 : Int32))] [(.double (gt (0 : Int32).toNatClampNeg)), (.double (gw 0)), (.int (0 : Int32)), (.ref aw)])) (fun _ k => getAD X2 hx hZ e2 A_t (j := (0 : Int32)) (by decide) (gf := (mkF m 35 #[.val (.ref o0), .val (.ref o1), .val (.int p2), .val (.int p3), .val (.ref aw), .val (.ref at_), .val (.int (0 : Int32))] [(.int (0 : Int32)), (.ref at_), (.double (gw 0)), (.int (0 : Int32)), (.ref aw)])) rfl rfl (hb hby d8_35) k) ?_
  rw [show (gt (0 : Int32).toNatClampNeg) = (gt 0) from rfl]
  refine Go.step (g' := (mkF m 37 #[.val (.ref o0), .val (.ref o1), .val (.int p2), .val (.int p3), .val (.ref aw), .val (.ref at_), .val (.int (0 : Int32))] [(.double (FP.dsub (gw 0) (gt 0))), (.int (0 : Int32)), (.ref aw)])) (fun _ k => XS.dsubS X2.here hx rfl (hb hby d8_36) rfl (hnan 0) rfl k) ?_
  obtain ⟨T3, h3, lc3, X3, e3, W3, N3, V3, st3⟩ := putAD X2 hx hZ e2 A_w (j := (0 : Int32)) (by decide) N0 g_aw (gf := (mkF m 37 #[.val (.ref o0), .val (.ref o1), .val (.int p2), .val (.int p3), .val (.ref aw), .val (.ref at_), .val (.int (0 : Int32))] [(.double (FP.dsub (gw 0) (gt 0))), (.int (0 : Int32)), (.ref aw)])) rfl rfl (hb hby d8_37)
  refine Go.step (g' := (mkF m 38 #[.val (.ref o0), .val (.ref o1), .val (.int p2), .val (.int p3), .val (.ref aw), .val (.ref at_), .val (.int (0 : Int32))] [])) st3 ?_
  have Q4 := ((Keep.refl h0 [aw]).wr W3 (Or.inl (List.mem_of_getElem? (i := 0) rfl)))
  refine Go.step (g' := (mkF m 41 #[.val (.ref o0), .val (.ref o1), .val (.int p2), .val (.int p3), .val (.ref aw), .val (.ref at_), .val (.int ((0 : Int32) + (1 : Int32)))] [])) (fun _ k => XS.iinc X3.here hx rfl (hb hby d8_38) rfl (l' := #[.val (.ref o0), .val (.ref o1), .val (.int p2), .val (.int p3), .val (.ref aw), .val (.ref at_), .val (.int ((0 : Int32) + (1 : Int32)))]) rfl k) ?_
  rw [show ((0 : Int32) + (1 : Int32)) = (1 : Int32) from by decide]
  refine Go.step (g' := (mkF m 17 #[.val (.ref o0), .val (.ref o1), .val (.int p2), .val (.int p3), .val (.ref aw), .val (.ref at_), .val (.int (1 : Int32))] [])) (fun _ k => XS.goto X3.here hx rfl (pc0 := 41) (pc' := 17) rfl (hb hby d8_41) (by decide) (by decide) k) ?_
  skip
  refine Go.step (g' := (mkF m 19 #[.val (.ref o0), .val (.ref o1), .val (.int p2), .val (.int p3), .val (.ref aw), .val (.ref at_), .val (.int (1 : Int32))] [(.int (1 : Int32))])) (fun _ k => XS.iload X3.here hx rfl (hb hby d8_17) rfl  k) ?_
  refine Go.step (g' := (mkF m 20 #[.val (.ref o0), .val (.ref o1), .val (.int p2), .val (.int p3), .val (.ref aw), .val (.ref at_), .val (.int (1 : Int32))] [(.int (2 : Int32)), (.int (1 : Int32))])) (fun _ k => XS.iconst X3.here hx rfl (hb hby d8_19) k) ?_
  refine Go.step (g' := (mkF m 21 #[.val (.ref o0), .val (.ref o1), .val (.int p2), .val (.int p3), .val (.ref aw), .val (.ref at_), .val (.int (1 : Int32))] [(.int p3), (.int (2 : Int32)), (.int (1 : Int32))])) (fun _ k => XS.iloadN X3.here hx rfl (hb hby d8_20) rfl  k) ?_
  refine Go.step (g' := (mkF m 22 #[.val (.ref o0), .val (.ref o1), .val (.int p2), .val (.int p3), .val (.ref aw), .val (.ref at_), .val (.int (1 : Int32))] [(.int ((2 : Int32) * p3)), (.int (1 : Int32))])) (fun _ k => XS.imul X3.here hx rfl (hb hby d8_21) rfl k) ?_
  rw [show ((2 : Int32) * p3) = (6 : Int32) from by rw [hl]; decide]
  refine Go.step (g' := (mkF m 25 #[.val (.ref o0), .val (.ref o1), .val (.int p2), .val (.int p3), .val (.ref aw), .val (.ref at_), .val (.int (1 : Int32))] [])) (fun _ k => XS.icmpNo X3.here hx rfl (hb hby d8_22) rfl (tlt (by decide : (1 : Int32) < (6 : Int32))).2.1 k) ?_
  skip
  refine Go.step (g' := (mkF m 27 #[.val (.ref o0), .val (.ref o1), .val (.int p2), .val (.int p3), .val (.ref aw), .val (.ref at_), .val (.int (1 : Int32))] [(.ref aw)])) (fun _ k => XS.aload X3.here hx rfl (hb hby d8_25) rfl rfl  k) ?_
  refine Go.step (g' := (mkF m 29 #[.val (.ref o0), .val (.ref o1), .val (.int p2), .val (.int p3), .val (.ref aw), .val (.ref at_), .val (.int (1 : Int32))] [(.int (1 : Int32)), (.ref aw)])) (fun _ k => XS.iload X3.here hx rfl (hb hby d8_27) rfl  k) ?_
  refine Go.step (g' := (mkF m 30 #[.val (.ref o0), .val (.ref o1), .val (.int p2), .val (.int p3), .val (.ref aw), .val (.ref at_), .val (.int (1 : Int32))] [(.int (1 : Int32)), (.ref aw), (.int (1 : Int32)), (.ref aw)])) (fun _ k => Jvm.Free.XT.dup2 X3.here hx rfl (hb hby d8_29) rfl rfl rfl k) ?_
  refine Go.step (g' := (mkF m 31 #[.val (.ref o0), .val (.ref o1), .val (.int p2), .val (.int p3), .val (.ref aw), .val (.ref at_), .val (.int (1 : Int32))] [(.double ((upd gw (0 : Int32).toNatClampNeg (FP.dsub (gw 0) (gt 0))) (1 : Int32).toNatClampNeg)), (.int (1 : Int32)), (.ref aw)])) (fun _ k => getAD X3 hx hZ e3 V3 (j := (1 : Int32)) (by decide) (gf := (mkF m 30 #[.val (.ref o0), .val (.ref o1), .val (.int p2), .val (.int p3), .val (.ref aw), .val (.ref at_), .val (.int (1 : Int32))] [(.int (1 : Int32)), (.ref aw), (.int (1 : Int32)), (.ref aw)])) rfl rfl (hb hby d8_30) k) ?_
  rw [show ((upd gw (0 : Int32).toNatClampNeg (FP.dsub (gw 0) (gt 0))) (1 : Int32).toNatClampNeg) = (gw 1) from rfl]
  refine Go.step (g' := (mkF m 33 #[.val (.ref o0), .val (.ref o1), .val (.int p2), .val (.int p3), .val (.ref aw), .val (.ref at_), .val (.int (1 : Int32))] [(.ref at_), (.double (gw 1)), (.int (1 : Int32)), (.ref aw)])) (fun _ k => XS.aload X3.here hx rfl (hb hby d8_31) rfl rfl  k) ?_
  refine Go.step (g' := (mkF m 35 #[.val (.ref o0), .val (.ref o1), .val (.int p2), .val (.int p3), .val (.ref aw), .val (.ref at_), .val (.int (1 : Int32))] [(.int (1 : Int32)), (.ref at_), (.double (gw 1)), (.int (1 : Int32)), (.ref aw)])) (fun _ k => XS.iload X3.here hx rfl (hb hby d8_33) rfl  k) ?_
  refine Go.step (g' := (mkF m 36 #[.val (.ref o0), .val (.ref o1), .val (.int p2), .val (.int p3), .val (.ref aw), .val (.ref at_), .val (.int (1 : Int32))] [(.double (gt (1 : Int32).toNatClampNeg)), (.double (gw 1)), (.int (1 : Int32)), (.ref aw)])) (fun _ k => getAD X3 hx hZ e3 (A_t.other W3 (Ne.symm n3)) (j := (1 : Int32)) (by decide) (gf := (mkF m 35 #[.val (.ref o0), .val (.ref o1), .val (.int p2), .val (.int p3), .val (.ref aw), .val (.ref at_), .val (.int (1 : Int32))] [(.int (1 : Int32)), (.ref at_), (.double (gw 1)), (.int (1 : Int32)), (.ref aw)])) rfl rfl (hb hby d8_35) k) ?_
  rw [show (gt (1 : Int32).toNatClampNeg) = (gt 1) from rfl]
  refine Go.step (g' := (mkF m 37 #[.val (.ref o0), .val (.ref o1), .val (.int p2), .val (.int p3), .val (.ref aw), .val (.ref at_), .val (.int (1 : Int32))] [(.double (FP.dsub (gw 1) (gt 1))), (.int (1 : Int32)), (.ref aw)])) (fun _ k => XS.dsubS X3.here hx rfl (hb hby d8_36) rfl (hnan 1) rfl k) ?_
  obtain ⟨T5, h5, lc5, X5, e5, W5, N5, V5, st5⟩ := putAD X3 hx hZ e3 V3 (j := (1 : Int32)) (by decide) N3 g_aw (gf := (mkF m 37 #[.val (.ref o0), .val (.ref o1), .val (.int p2), .val (.int p3), .val (.ref aw), .val (.ref at_), .val (.int (1 : Int32))] [(.double (FP.dsub (gw 1) (gt 1))), (.int (1 : Int32)), (.ref aw)])) rfl rfl (hb hby d8_37)
  refine Go.step (g' := (mkF m 38 #[.val (.ref o0), .val (.ref o1), .val (.int p2), .val (.int p3), .val (.ref aw), .val (.ref at_), .val (.int (1 : Int32))] [])) st5 ?_
  have Q6 := (Nat.le_trans (Nat.le_trans Z0 (Keep.of_wr W3).1) (Keep.of_wr W5).1)
  refine Go.step (g' := (mkF m 41 #[.val (.ref o0), .val (.ref o1), .val (.int p2), .val (.int p3), .val (.ref aw), .val (.ref at_), .val (.int ((1 : Int32) + (1 : Int32)))] [])) (fun _ k => XS.iinc X5.here hx rfl (hb hby d8_38) rfl (l' := #[.val (.ref o0), .val (.ref o1), .val (.int p2), .val (.int p3), .val (.ref aw), .val (.ref at_), .val (.int ((1 : Int32) + (1 : Int32)))]) rfl k) ?_
  rw [show ((1 : Int32) + (1 : Int32)) = (2 : Int32) from by decide]
  refine Go.step (g' := (mkF m 17 #[.val (.ref o0), .val (.ref o1), .val (.int p2), .val (.int p3), .val (.ref aw), .val (.ref at_), .val (.int (2 : Int32))] [])) (fun _ k => XS.goto X5.here hx rfl (pc0 := 41) (pc' := 17) rfl (hb hby d8_41) (by decide) (by decide) k) ?_
  skip
  refine Go.step (g' := (mkF m 19 #[.val (.ref o0), .val (.ref o1), .val (.int p2), .val (.int p3), .val (.ref aw), .val (.ref at_), .val (.int (2 : Int32))] [(.int (2 : Int32))])) (fun _ k => XS.iload X5.here hx rfl (hb hby d8_17) rfl  k) ?_
  refine Go.step (g' := (mkF m 20 #[.val (.ref o0), .val (.ref o1), .val (.int p2), .val (.int p3), .val (.ref aw), .val (.ref at_), .val (.int (2 : Int32))] [(.int (2 : Int32)), (.int (2 : Int32))])) (fun _ k => XS.iconst X5.here hx rfl (hb hby d8_19) k) ?_
  refine Go.step (g' := (mkF m 21 #[.val (.ref o0), .val (.ref o1), .val (.int p2), .val (.int p3), .val (.ref aw), .val (.ref at_), .val (.int (2 : Int32))] [(.int p3), (.int (2 : Int32)), (.int (2 : Int32))])) (fun _ k => XS.iloadN X5.here hx rfl (hb hby d8_20) rfl  k) ?_
  refine Go.step (g' := (mkF m 22 #[.val (.ref o0), .val (.ref o1), .val (.int p2), .val (.int p3), .val (.ref aw), .val (.ref at_), .val (.int (2 : Int32))] [(.int ((2 : Int32) * p3)), (.int (2 : Int32))])) (fun _ k => XS.imul X5.here hx rfl (hb hby d8_21) rfl k) ?_
  rw [show ((2 : Int32) * p3) = (6 : Int32) from by rw [hl]; decide]
  refine Go.step (g' := (mkF m 25 #[.val (.ref o0), .val (.ref o1), .val (.int p2), .val (.int p3), .val (.ref aw), .val (.ref at_), .val (.int (2 : Int32))] [])) (fun _ k => XS.icmpNo X5.here hx rfl (hb hby d8_22) rfl (tlt (by decide : (2 : Int32) < (6 : Int32))).2.1 k) ?_
  skip
  refine Go.step (g' := (mkF m 27 #[.val (.ref o0), .val (.ref o1), .val (.int p2), .val (.int p3), .val (.ref aw), .val (.ref at_), .val (.int (2 : Int32))] [(.ref aw)])) (fun _ k => XS.aload X5.here hx rfl (hb hby d8_25) rfl rfl  k) ?_
  refine Go.step (g' := (mkF m 29 #[.val (.ref o0), .val (.ref o1), .val (.int p2), .val (.int p3), .val (.ref aw), .val (.ref at_), .val (.int (2 : Int32))] [(.int (2 : Int32)), (.ref aw)])) (fun _ k => XS.iload X5.here hx rfl (hb hby d8_27) rfl  k) ?_
  refine Go.step (g' := (mkF m 30 #[.val (.ref o0), .val (.ref o1), .val (.int p2), .val (.int p3), .val (.ref aw), .val (.ref at_), .val (.int (2 : Int32))] [(.int (2 : Int32)), (.ref aw), (.int (2 : Int32)), (.ref aw)])) (fun _ k => Jvm.Free.XT.dup2 X5.here hx rfl (hb hby d8_29) rfl rfl rfl k) ?_
  refine Go.step (g' := (mkF m 31 #[.val (.ref o0), .val (.ref o1), .val (.int p2), .val (.int p3), .val (.ref aw), .val (.ref at_), .val (.int (2 : Int32))] [(.double ((upd (upd gw (0 : Int32).toNatClampNeg (FP.dsub (gw 0) (gt 0))) (1 : Int32).toNatClampNeg (FP.dsub (gw 1) (gt 1))) (2 : Int32).toNatClampNeg)), (.int (2 : Int32)), (.ref aw)])) (fun _ k => getAD X5 hx hZ e5 V5 (j := (2 : Int32)) (by decide) (gf := (mkF m 30 #[.val (.ref o0), .val (.ref o1), .val (.int p2), .val (.int p3), .val (.ref aw), .val (.ref at_), .val (.int (2 : Int32))] [(.int (2 : Int32)), (.ref aw), (.int (2 : Int32)), (.ref aw)])) rfl rfl (hb hby d8_30) k) ?_
  rw [show ((upd (upd gw (0 : Int32).toNatClampNeg (FP.dsub (gw 0) (gt 0))) (1 : Int32).toNatClampNeg (FP.dsub (gw 1) (gt 1))) (2 : Int32).toNatClampNeg) = (gw 2) from rfl]
  refine Go.step (g' := (mkF m 33 #[.val (.ref o0), .val (.ref o1), .val (.int p2), .val (.int p3), .val (.ref aw), .val (.ref at_), .val (.int (2 : Int32))] [(.ref at_), (.double (gw 2)), (.int (2 : Int32)), (.ref aw)])) (fun _ k => XS.aload X5.here hx rfl (hb hby d8_31) rfl rfl  k) ?_
  refine Go.step (g' := (mkF m 35 #[.val (.ref o0), .val (.ref o1), .val (.int p2), .val (.int p3), .val (.ref aw), .val (.ref at_), .val (.int (2 : Int32))] [(.int (2 : Int32)), (.ref at_), (.double (gw 2)), (.int (2 : Int32)), (.ref aw)])) (fun _ k => XS.iload X5.here hx rfl (hb hby d8_33) rfl  k) ?_
  refine Go.step (g' := (mkF m 36 #[.val (.ref o0), .val (.ref o1), .val (.int p2), .val (.int p3), .val (.ref aw), .val (.ref at_), .val (.int (2 : Int32))] [(.double (gt (2 : Int32).toNatClampNeg)), (.double (gw 2)), (.int (2 : Int32)), (.ref aw)])) (fun _ k => getAD X5 hx hZ e5 ((A_t.other W3 (Ne.symm n3)).other W5 (Ne.symm n3)) (j := (2 : Int32)) (by decide) (gf := (mkF m 35 #[.val (.ref o0), .val (.ref o1), .val (.int p2), .val (.int p3), .val (.ref aw), .val (.ref at_), .val (.int (2 : Int32))] [(.int (2 : Int32)), (.ref at_), (.double (gw 2)), (.int (2 : Int32)), (.ref aw)])) rfl rfl (hb hby d8_35) k) ?_
  rw [show (gt (2 : Int32).toNatClampNeg) = (gt 2) from rfl]
  refine Go.step (g' := (mkF m 37 #[.val (.ref o0), .val (.ref o1), .val (.int p2), .val (.int p3), .val (.ref aw), .val (.ref at_), .val (.int (2 : Int32))] [(.double (FP.dsub (gw 2) (gt 2))), (.int (2 : Int32)), (.ref aw)])) (fun _ k => XS.dsubS X5.here hx rfl (hb hby d8_36) rfl (hnan 2) rfl k) ?_
  obtain ⟨T7, h7, lc7, X7, e7, W7, N7, V7, st7⟩ := putAD X5 hx hZ e5 V5 (j := (2 : Int32)) (by decide) N5 g_aw (gf := (mkF m 37 #[.val (.ref o0), .val (.ref o1), .val (.int p2), .val (.int p3), .val (.ref aw), .val (.ref at_), .val (.int (2 : Int32))] [(.double (FP.dsub (gw 2) (gt 2))), (.int (2 : Int32)), (.ref aw)])) rfl rfl (hb hby d8_37)
  refine Go.step (g' := (mkF m 38 #[.val (.ref o0), .val (.ref o1), .val (.int p2), .val (.int p3), .val (.ref aw), .val (.ref at_), .val (.int (2 : Int32))] [])) st7 ?_
  have Q8 := (((F0.other W3 (Or.inl n1)).other W5 (Or.inl n1)).other W7 (Or.inl n1))
  have Q9 := (((F1.other W3 (Or.inl n2)).other W5 (Or.inl n2)).other W7 (Or.inl n2))
  have Q10 := (((A_t.other W3 (Ne.symm n3)).other W5 (Ne.symm n3)).other W7 (Ne.symm n3))
  have Q11 := ((Q4.wr W5 (Or.inl (List.mem_of_getElem? (i := 0) rfl))).wr W7 (Or.inl (List.mem_of_getElem? (i := 0) rfl)))
  refine Go.step (g' := (mkF m 41 #[.val (.ref o0), .val (.ref o1), .val (.int p2), .val (.int p3), .val (.ref aw), .val (.ref at_), .val (.int ((2 : Int32) + (1 : Int32)))] [])) (fun _ k => XS.iinc X7.here hx rfl (hb hby d8_38) rfl (l' := #[.val (.ref o0), .val (.ref o1), .val (.int p2), .val (.int p3), .val (.ref aw), .val (.ref at_), .val (.int ((2 : Int32) + (1 : Int32)))]) rfl k) ?_
  rw [show ((2 : Int32) + (1 : Int32)) = (3 : Int32) from by decide]
  refine Go.step (g' := (mkF m 17 #[.val (.ref o0), .val (.ref o1), .val (.int p2), .val (.int p3), .val (.ref aw), .val (.ref at_), .val (.int (3 : Int32))] [])) (fun _ k => XS.goto X7.here hx rfl (pc0 := 41) (pc' := 17) rfl (hb hby d8_41) (by decide) (by decide) k) ?_
  skip
  refine Go.step (g' := (mkF m 19 #[.val (.ref o0), .val (.ref o1), .val (.int p2), .val (.int p3), .val (.ref aw), .val (.ref at_), .val (.int (3 : Int32))] [(.int (3 : Int32))])) (fun _ k => XS.iload X7.here hx rfl (hb hby d8_17) rfl  k) ?_
  refine Go.step (g' := (mkF m 20 #[.val (.ref o0), .val (.ref o1), .val (.int p2), .val (.int p3), .val (.ref aw), .val (.ref at_), .val (.int (3 : Int32))] [(.int (2 : Int32)), (.int (3 : Int32))])) (fun _ k => XS.iconst X7.here hx rfl (hb hby d8_19) k) ?_
  refine Go.step (g' := (mkF m 21 #[.val (.ref o0), .val (.ref o1), .val (.int p2), .val (.int p3), .val (.ref aw), .val (.ref at_), .val (.int (3 : Int32))] [(.int p3), (.int (2 : Int32)), (.int (3 : Int32))])) (fun _ k => XS.iloadN X7.here hx rfl (hb hby d8_20) rfl  k) ?_
  refine Go.step (g' := (mkF m 22 #[.val (.ref o0), .val (.ref o1), .val (.int p2), .val (.int p3), .val (.ref aw), .val (.ref at_), .val (.int (3 : Int32))] [(.int ((2 : Int32) * p3)), (.int (3 : Int32))])) (fun _ k => XS.imul X7.here hx rfl (hb hby d8_21) rfl k) ?_
  rw [show ((2 : Int32) * p3) = (6 : Int32) from by rw [hl]; decide]
  refine Go.step (g' := (mkF m 25 #[.val (.ref o0), .val (.ref o1), .val (.int p2), .val (.int p3), .val (.ref aw), .val (.ref at_), .val (.int (3 : Int32))] [])) (fun _ k => XS.icmpNo X7.here hx rfl (hb hby d8_22) rfl (tlt (by decide : (3 : Int32) < (6 : Int32))).2.1 k) ?_
  skip
  refine Go.step (g' := (mkF m 27 #[.val (.ref o0), .val (.ref o1), .val (.int p2), .val (.int p3), .val (.ref aw), .val (.ref at_), .val (.int (3 : Int32))] [(.ref aw)])) (fun _ k => XS.aload X7.here hx rfl (hb hby d8_25) rfl rfl  k) ?_
  refine Go.step (g' := (mkF m 29 #[.val (.ref o0), .val (.ref o1), .val (.int p2), .val (.int p3), .val (.ref aw), .val (.ref at_), .val (.int (3 : Int32))] [(.int (3 : Int32)), (.ref aw)])) (fun _ k => XS.iload X7.here hx rfl (hb hby d8_27) rfl  k) ?_
  refine Go.step (g' := (mkF m 30 #[.val (.ref o0), .val (.ref o1), .val (.int p2), .val (.int p3), .val (.ref aw), .val (.ref at_), .val (.int (3 : Int32))] [(.int (3 : Int32)), (.ref aw), (.int (3 : Int32)), (.ref aw)])) (fun _ k => Jvm.Free.XT.dup2 X7.here hx rfl (hb hby d8_29) rfl rfl rfl k) ?_
  refine Go.step (g' := (mkF m 31 #[.val (.ref o0), .val (.ref o1), .val (.int p2), .val (.int p3), .val (.ref aw), .val (.ref at_), .val (.int (3 : Int32))] [(.double ((upd (upd (upd gw (0 : Int32).toNatClampNeg (FP.dsub (gw 0) (gt 0))) (1 : Int32).toNatClampNeg (FP.dsub (gw 1) (gt 1))) (2 : Int32).toNatClampNeg (FP.dsub (gw 2) (gt 2))) (3 : Int32).toNatClampNeg)), (.int (3 : Int32)), (.ref aw)])) (fun _ k => getAD X7 hx hZ e7 V7 (j := (3 : Int32)) (by decide) (gf := (mkF m 30 #[.val (.ref o0), .val (.ref o1), .val (.int p2), .val (.int p3), .val (.ref aw), .val (.ref at_), .val (.int (3 : Int32))] [(.int (3 : Int32)), (.ref aw), (.int (3 : Int32)), (.ref aw)])) rfl rfl (hb hby d8_30) k) ?_
  rw [show ((upd (upd (upd gw (0 : Int32).toNatClampNeg (FP.dsub (gw 0) (gt 0))) (1 : Int32).toNatClampNeg (FP.dsub (gw 1) (gt 1))) (2 : Int32).toNatClampNeg (FP.dsub (gw 2) (gt 2))) (3 : Int32).toNatClampNeg) = (gw 3) from rfl]
  refine Go.step (g' := (mkF m 33 #[.val (.ref o0), .val (.ref o1), .val (.int p2), .val (.int p3), .val (.ref aw), .val (.ref at_), .val (.int (3 : Int32))] [(.ref at_), (.double (gw 3)), (.int (3 : Int32)), (.ref aw)])) (fun _ k => XS.aload X7.here hx rfl (hb hby d8_31) rfl rfl  k) ?_
  refine Go.step (g' := (mkF m 35 #[.val (.ref o0), .val (.ref o1), .val (.int p2), .val (.int p3), .val (.ref aw), .val (.ref at_), .val (.int (3 : Int32))] [(.int (3 : Int32)), (.ref at_), (.double (gw 3)), (.int (3 : Int32)), (.ref aw)])) (fun _ k => XS.iload X7.here hx rfl (hb hby d8_33) rfl  k) ?_
  refine Go.step (g' := (mkF m 36 #[.val (.ref o0), .val (.ref o1), .val (.int p2), .val (.int p3), .val (.ref aw), .val (.ref at_), .val (.int (3 : Int32))] [(.double (gt (3 : Int32).toNatClampNeg)), (.double (gw 3)), (.int (3 : Int32)), (.ref aw)])) (fun _ k => getAD X7 hx hZ e7 Q10 (j := (3 : Int32)) (by decide) (gf := (mkF m 35 #[.val (.ref o0), .val (.ref o1), .val (.int p2), .val (.int p3), .val (.ref aw), .val (.ref at_), .val (.int (3 : Int32))] [(.int (3 : Int32)), (.ref at_), (.double (gw 3)), (.int (3 : Int32)), (.ref aw)])) rfl rfl (hb hby d8_35) k) ?_
  rw [show (gt (3 : Int32).toNatClampNeg) = (gt 3) from rfl]
  refine Go.step (g' := (mkF m 37 #[.val (.ref o0), .val (.ref o1), .val (.int p2), .val (.int p3), .val (.ref aw), .val (.ref at_), .val (.int (3 : Int32))] [(.double (FP.dsub (gw 3) (gt 3))), (.int (3 : Int32)), (.ref aw)])) (fun _ k => XS.dsubS X7.here hx rfl (hb hby d8_36) rfl (hnan 3) rfl k) ?_
  obtain ⟨T12, h12, lc12, X12, e12, W12, N12, V12, st12⟩ := putAD X7 hx hZ e7 V7 (j := (3 : Int32)) (by decide) N7 g_aw (gf := (mkF m 37 #[.val (.ref o0), .val (.ref o1), .val (.int p2), .val (.int p3), .val (.ref aw), .val (.ref at_), .val (.int (3 : Int32))] [(.double (FP.dsub (gw 3) (gt 3))), (.int (3 : Int32)), (.ref aw)])) rfl rfl (hb hby d8_37)
  refine Go.step (g' := (mkF m 38 #[.val (.ref o0), .val (.ref o1), .val (.int p2), .val (.int p3), .val (.ref aw), .val (.ref at_), .val (.int (3 : Int32))] [])) st12 ?_
  have Q13 := (Nat.le_trans (Nat.le_trans Q6 (Keep.of_wr W7).1) (Keep.of_wr W12).1)
  refine Go.step (g' := (mkF m 41 #[.val (.ref o0), .val (.ref o1), .val (.int p2), .val (.int p3), .val (.ref aw), .val (.ref at_), .val (.int ((3 : Int32) + (1 : Int32)))] [])) (fun _ k => XS.iinc X12.here hx rfl (hb hby d8_38) rfl (l' := #[.val (.ref o0), .val (.ref o1), .val (.int p2), .val (.int p3), .val (.ref aw), .val (.ref at_), .val (.int ((3 : Int32) + (1 : Int32)))]) rfl k) ?_
  rw [show ((3 : Int32) + (1 : Int32)) = (4 : Int32) from by decide]
  refine Go.step (g' := (mkF m 17 #[.val (.ref o0), .val (.ref o1), .val (.int p2), .val (.int p3), .val (.ref aw), .val (.ref at_), .val (.int (4 : Int32))] [])) (fun _ k => XS.goto X12.here hx rfl (pc0 := 41) (pc' := 17) rfl (hb hby d8_41) (by decide) (by decide) k) ?_
  skip
  refine Go.step (g' := (mkF m 19 #[.val (.ref o0), .val (.ref o1), .val (.int p2), .val (.int p3), .val (.ref aw), .val (.ref at_), .val (.int (4 : Int32))] [(.int (4 : Int32))])) (fun _ k => XS.iload X12.here hx rfl (hb hby d8_17) rfl  k) ?_
  refine Go.step (g' := (mkF m 20 #[.val (.ref o0), .val (.ref o1), .val (.int p2), .val (.int p3), .val (.ref aw), .val (.ref at_), .val (.int (4 : Int32))] [(.int (2 : Int32)), (.int (4 : Int32))])) (fun _ k => XS.iconst X12.here hx rfl (hb hby d8_19) k) ?_
  refine Go.step (g' := (mkF m 21 #[.val (.ref o0), .val (.ref o1), .val (.int p2), .val (.int p3), .val (.ref aw), .val (.ref at_), .val (.int (4 : Int32))] [(.int p3), (.int (2 : Int32)), (.int (4 : Int32))])) (fun _ k => XS.iloadN X12.here hx rfl (hb hby d8_20) rfl  k) ?_
  refine Go.step (g' := (mkF m 22 #[.val (.ref o0), .val (.ref o1), .val (.int p2), .val (.int p3), .val (.ref aw), .val (.ref at_), .val (.int (4 : Int32))] [(.int ((2 : Int32) * p3)), (.int (4 : Int32))])) (fun _ k => XS.imul X12.here hx rfl (hb hby d8_21) rfl k) ?_
  rw [show ((2 : Int32) * p3) = (6 : Int32) from by rw [hl]; decide]
  refine Go.step (g' := (mkF m 25 #[.val (.ref o0), .val (.ref o1), .val (.int p2), .val (.int p3), .val (.ref aw), .val (.ref at_), .val (.int (4 : Int32))] [])) (fun _ k => XS.icmpNo X12.here hx rfl (hb hby d8_22) rfl (tlt (by decide : (4 : Int32) < (6 : Int32))).2.1 k) ?_
  skip
  refine Go.step (g' := (mkF m 27 #[.val (.ref o0), .val (.ref o1), .val (.int p2), .val (.int p3), .val (.ref aw), .val (.ref at_), .val (.int (4 : Int32))] [(.ref aw)])) (fun _ k => XS.aload X12.here hx rfl (hb hby d8_25) rfl rfl  k) ?_
  refine Go.step (g' := (mkF m 29 #[.val (.ref o0), .val (.ref o1), .val (.int p2), .val (.int p3), .val (.ref aw), .val (.ref at_), .val (.int (4 : Int32))] [(.int (4 : Int32)), (.ref aw)])) (fun _ k => XS.iload X12.here hx rfl (hb hby d8_27) rfl  k) ?_
  refine Go.step (g' := (mkF m 30 #[.val (.ref o0), .val (.ref o1), .val (.int p2), .val (.int p3), .val (.ref aw), .val (.ref at_), .val (.int (4 : Int32))] [(.int (4 : Int32)), (.ref aw), (.int (4 : Int32)), (.ref aw)])) (fun _ k => Jvm.Free.XT.dup2 X12.here hx rfl (hb hby d8_29) rfl rfl rfl k) ?_
  refine Go.step (g' := (mkF m 31 #[.val (.ref o0), .val (.ref o1), .val (.int p2), .val (.int p3), .val (.ref aw), .val (.ref at_), .val (.int (4 : Int32))] [(.double ((upd (upd (upd (upd gw (0 : Int32).toNatClampNeg (FP.dsub (gw 0) (gt 0))) (1 : Int32).toNatClampNeg (FP.dsub (gw 1) (gt 1))) (2 : Int32).toNatClampNeg (FP.dsub (gw 2) (gt 2))) (3 : Int32).toNatClampNeg (FP.dsub (gw 3) (gt 3))) (4 : Int32).toNatClampNeg)), (.int (4 : Int32)), (.ref aw)])) (fun _ k => getAD X12 hx hZ e12 V12 (j := (4 : Int32)) (by decide) (gf := (mkF m 30 #[.val (.ref o0), .val (.ref o1), .val (.int p2), .val (.int p3), .val (.ref aw), .val (.ref at_), .val (.int (4 : Int32))] [(.int (4 : Int32)), (.ref aw), (.int (4 : Int32)), (.ref aw)])) rfl rfl (hb hby d8_30) k) ?_
  rw [show ((upd (upd (upd (upd gw (0 : Int32).toNatClampNeg (FP.dsub (gw 0) (gt 0))) (1 : Int32).toNatClampNeg (FP.dsub (gw 1) (gt 1))) (2 : Int32).toNatClampNeg (FP.dsub (gw 2) (gt 2))) (3 : Int32).toNatClampNeg (FP.dsub (gw 3) (gt 3))) (4 : Int32).toNatClampNeg) = (gw 4) from rfl]
  refine Go.step (g' := (mkF m 33 #[.val (.ref o0), .val (.ref o1), .val (.int p2), .val (.int p3), .val (.ref aw), .val (.ref at_), .val (.int (4 : Int32))] [(.ref at_), (.double (gw 4)), (.int (4 : Int32)), (.ref aw)])) (fun _ k => XS.aload X12.here hx rfl (hb hby d8_31) rfl rfl  k) ?_
  refine Go.step (g' := (mkF m 35 #[.val (.ref o0), .val (.ref o1), .val (.int p2), .val (.int p3), .val (.ref aw), .val (.ref at_), .val (.int (4 : Int32))] [(.int (4 : Int32)), (.ref at_), (.double (gw 4)), (.int (4 : Int32)), (.ref aw)])) (fun _ k => XS.iload X12.here hx rfl (hb hby d8_33) rfl  k) ?_
  refine Go.step (g' := (mkF m 36 #[.val (.ref o0), .val (.ref o1), .val (.int p2), .val (.int p3), .val (.ref aw), .val (.ref at_), .val (.int (4 : Int32))] [(.double (gt (4 : Int32).toNatClampNeg)), (.double (gw 4)), (.int (4 : Int32)), (.ref aw)])) (fun _ k => getAD X12 hx hZ e12 (Q10.other W12 (Ne.symm n3)) (j := (4 : Int32)) (by decide) (gf := (mkF m 35 #[.val (.ref o0), .val (.ref o1), .val (.int p2), .val (.int p3), .val (.ref aw), .val (.ref at_), .val (.int (4 : Int32))] [(.int (4 : Int32)), (.ref at_), (.double (gw 4)), (.int (4 : Int32)), (.ref aw)])) rfl rfl (hb hby d8_35) k) ?_
  rw [show (gt (4 : Int32).toNatClampNeg) = (gt 4) from rfl]
  refine Go.step (g' := (mkF m 37 #[.val (.ref o0), .val (.ref o1), .val (.int p2), .val (.int p3), .val (.ref aw), .val (.ref at_), .val (.int (4 : Int32))] [(.double (FP.dsub (gw 4) (gt 4))), (.int (4 : Int32)), (.ref aw)])) (fun _ k => XS.dsubS X12.here hx rfl (hb hby d8_36) rfl (hnan 4) rfl k) ?_
  obtain ⟨T14, h14, lc14, X14, e14, W14, N14, V14, st14⟩ := putAD X12 hx hZ e12 V12 (j := (4 : Int32)) (by decide) N12 g_aw (gf := (mkF m 37 #[.val (.ref o0), .val (.ref o1), .val (.int p2), .val (.int p3), .val (.ref aw), .val (.ref at_), .val (.int (4 : Int32))] [(.double (FP.dsub (gw 4) (gt 4))), (.int (4 : Int32)), (.ref aw)])) rfl rfl (hb hby d8_37)
  refine Go.step (g' := (mkF m 38 #[.val (.ref o0), .val (.ref o1), .val (.int p2), .val (.int p3), .val (.ref aw), .val (.ref at_), .val (.int (4 : Int32))] [])) st14 ?_
  have Q15 := ((Q11.wr W12 (Or.inl (List.mem_of_getElem? (i := 0) rfl))).wr W14 (Or.inl (List.mem_of_getElem? (i := 0) rfl)))
  refine Go.step (g' := (mkF m 41 #[.val (.ref o0), .val (.ref o1), .val (.int p2), .val (.int p3), .val (.ref aw), .val (.ref at_), .val (.int ((4 : Int32) + (1 : Int32)))] [])) (fun _ k => XS.iinc X14.here hx rfl (hb hby d8_38) rfl (l' := #[.val (.ref o0), .val (.ref o1), .val (.int p2), .val (.int p3), .val (.ref aw), .val (.ref at_), .val (.int ((4 : Int32) + (1 : Int32)))]) rfl k) ?_
  rw [show ((4 : Int32) + (1 : Int32)) = (5 : Int32) from by decide]
  refine Go.step (g' := (mkF m 17 #[.val (.ref o0), .val (.ref o1), .val (.int p2), .val (.int p3), .val (.ref aw), .val (.ref at_), .val (.int (5 : Int32))] [])) (fun _ k => XS.goto X14.here hx rfl (pc0 := 41) (pc' := 17) rfl (hb hby d8_41) (by decide) (by decide) k) ?_
  skip
  refine Go.step (g' := (mkF m 19 #[.val (.ref o0), .val (.ref o1), .val (.int p2), .val (.int p3), .val (.ref aw), .val (.ref at_), .val (.int (5 : Int32))] [(.int (5 : Int32))])) (fun _ k => XS.iload X14.here hx rfl (hb hby d8_17) rfl  k) ?_
  refine Go.step (g' := (mkF m 20 #[.val (.ref o0), .val (.ref o1), .val (.int p2), .val (.int p3), .val (.ref aw), .val (.ref at_), .val (.int (5 : Int32))] [(.int (2 : Int32)), (.int (5 : Int32))])) (fun _ k => XS.iconst X14.here hx rfl (hb hby d8_19) k) ?_
  refine Go.step (g' := (mkF m 21 #[.val (.ref o0), .val (.ref o1), .val (.int p2), .val (.int p3), .val (.ref aw), .val (.ref at_), .val (.int (5 : Int32))] [(.int p3), (.int (2 : Int32)), (.int (5 : Int32))])) (fun _ k => XS.iloadN X14.here hx rfl (hb hby d8_20) rfl  k) ?_
  refine Go.step (g' := (mkF m 22 #[.val (.ref o0), .val (.ref o1), .val (.int p2), .val (.int p3), .val (.ref aw), .val (.ref at_), .val (.int (5 : Int32))] [(.int ((2 : Int32) * p3)), (.int (5 : Int32))])) (fun _ k => XS.imul X14.here hx rfl (hb hby d8_21) rfl k) ?_
  rw [show ((2 : Int32) * p3) = (6 : Int32) from by rw [hl]; decide]
  refine Go.step (g' := (mkF m 25 #[.val (.ref o0), .val (.ref o1), .val (.int p2), .val (.int p3), .val (.ref aw), .val (.ref at_), .val (.int (5 : Int32))] [])) (fun _ k => XS.icmpNo X14.here hx rfl (hb hby d8_22) rfl (tlt (by decide : (5 : Int32) < (6 : Int32))).2.1 k) ?_
  skip
  refine Go.step (g' := (mkF m 27 #[.val (.ref o0), .val (.ref o1), .val (.int p2), .val (.int p3), .val (.ref aw), .val (.ref at_), .val (.int (5 : Int32))] [(.ref aw)])) (fun _ k => XS.aload X14.here hx rfl (hb hby d8_25) rfl rfl  k) ?_
  refine Go.step (g' := (mkF m 29 #[.val (.ref o0), .val (.ref o1), .val (.int p2), .val (.int p3), .val (.ref aw), .val (.ref at_), .val (.int (5 : Int32))] [(.int (5 : Int32)), (.ref aw)])) (fun _ k => XS.iload X14.here hx rfl (hb hby d8_27) rfl  k) ?_
  refine Go.step (g' := (mkF m 30 #[.val (.ref o0), .val (.ref o1), .val (.int p2), .val (.int p3), .val (.ref aw), .val (.ref at_), .val (.int (5 : Int32))] [(.int (5 : Int32)), (.ref aw), (.int (5 : Int32)), (.ref aw)])) (fun _ k => Jvm.Free.XT.dup2 X14.here hx rfl (hb hby d8_29) rfl rfl rfl k) ?_
  refine Go.step (g' := (mkF m 31 #[.val (.ref o0), .val (.ref o1), .val (.int p2), .val (.int p3), .val (.ref aw), .val (.ref at_), .val (.int (5 : Int32))] [(.double ((upd (upd (upd (upd (upd gw (0 : Int32).toNatClampNeg (FP.dsub (gw 0) (gt 0))) (1 : Int32).toNatClampNeg (FP.dsub (gw 1) (gt 1))) (2 : Int32).toNatClampNeg (FP.dsub (gw 2) (gt 2))) (3 : Int32).toNatClampNeg (FP.dsub (gw 3) (gt 3))) (4 : Int32).toNatClampNeg (FP.dsub (gw 4) (gt 4))) (5 : Int32).toNatClampNeg)), (.int (5 : Int32)), (.ref aw)])) (fun _ k => getAD X14 hx hZ e14 V14 (j := (5 : Int32)) (by decide) (gf := (mkF m 30 #[.val (.ref o0), .val (.ref o1), .val (.int p2), .val (.int p3), .val (.ref aw), .val (.ref at_), .val (.int (5 : Int32))] [(.int (5 : Int32)), (.ref aw), (.int (5 : Int32)), (.ref aw)])) rfl rfl (hb hby d8_30) k) ?_
  rw [show ((upd (upd (upd (upd (upd gw (0 : Int32).toNatClampNeg (FP.dsub (gw 0) (gt 0))) (1 : Int32).toNatClampNeg (FP.dsub (gw 1) (gt 1))) (2 : Int32).toNatClampNeg (FP.dsub (gw 2) (gt 2))) (3 : Int32).toNatClampNeg (FP.dsub (gw 3) (gt 3))) (4 : Int32).toNatClampNeg (FP.dsub (gw 4) (gt 4))) (5 : Int32).toNatClampNeg) = (gw 5) from rfl]
  refine Go.step (g' := (mkF m 33 #[.val (.ref o0), .val (.ref o1), .val (.int p2), .val (.int p3), .val (.ref aw), .val (.ref at_), .val (.int (5 : Int32))] [(.ref at_), (.double (gw 5)), (.int (5 : Int32)), (.ref aw)])) (fun _ k => XS.aload X14.here hx rfl (hb hby d8_31) rfl rfl  k) ?_
  refine Go.step (g' := (mkF m 35 #[.val (.ref o0), .val (.ref o1), .val (.int p2), .val (.int p3), .val (.ref aw), .val (.ref at_), .val (.int (5 : Int32))] [(.int (5 : Int32)), (.ref at_), (.double (gw 5)), (.int (5 : Int32)), (.ref aw)])) (fun _ k => XS.iload X14.here hx rfl (hb hby d8_33) rfl  k) ?_
  refine Go.step (g' := (mkF m 36 #[.val (.ref o0), .val (.ref o1), .val (.int p2), .val (.int p3), .val (.ref aw), .val (.ref at_), .val (.int (5 : Int32))] [(.double (gt (5 : Int32).toNatClampNeg)), (.double (gw 5)), (.int (5 : Int32)), (.ref aw)])) (fun _ k => getAD X14 hx hZ e14 ((Q10.other W12 (Ne.symm n3)).other W14 (Ne.symm n3)) (j := (5 : Int32)) (by decide) (gf := (mkF m 35 #[.val (.ref o0), .val (.ref o1), .val (.int p2), .val (.int p3), .val (.ref aw), .val (.ref at_), .val (.int (5 : Int32))] [(.int (5 : Int32)), (.ref at_), (.double (gw 5)), (.int (5 : Int32)), (.ref aw)])) rfl rfl (hb hby d8_35) k) ?_
  rw [show (gt (5 : Int32).toNatClampNeg) = (gt 5) from rfl]
  refine Go.step (g' := (mkF m 37 #[.val (.ref o0), .val (.ref o1), .val (.int p2), .val (.int p3), .val (.ref aw), .val (.ref at_), .val (.int (5 : Int32))] [(.double (FP.dsub (gw 5) (gt 5))), (.int (5 : Int32)), (.ref aw)])) (fun _ k => XS.dsubS X14.here hx rfl (hb hby d8_36) rfl (hnan 5) rfl k) ?_
  obtain ⟨T16, h16, lc16, X16, e16, W16, N16, V16, st16⟩ := putAD X14 hx hZ e14 V14 (j := (5 : Int32)) (by decide) N14 g_aw (gf := (mkF m 37 #[.val (.ref o0), .val (.ref o1), .val (.int p2), .val (.int p3), .val (.ref aw), .val (.ref at_), .val (.int (5 : Int32))] [(.double (FP.dsub (gw 5) (gt 5))), (.int (5 : Int32)), (.ref aw)])) rfl rfl (hb hby d8_37)
  refine Go.step (g' := (mkF m 38 #[.val (.ref o0), .val (.ref o1), .val (.int p2), .val (.int p3), .val (.ref aw), .val (.ref at_), .val (.int (5 : Int32))] [])) st16 ?_
  have Q17 := (((Q8.other W12 (Or.inl n1)).other W14 (Or.inl n1)).other W16 (Or.inl n1))
  have Q18 := (((Q9.other W12 (Or.inl n2)).other W14 (Or.inl n2)).other W16 (Or.inl n2))
  have Q19 := (((Q10.other W12 (Ne.symm n3)).other W14 (Ne.symm n3)).other W16 (Ne.symm n3))
  have Q20 := (Nat.le_trans (Nat.le_trans Q13 (Keep.of_wr W14).1) (Keep.of_wr W16).1)
  refine Go.step (g' := (mkF m 41 #[.val (.ref o0), .val (.ref o1), .val (.int p2), .val (.int p3), .val (.ref aw), .val (.ref at_), .val (.int ((5 : Int32) + (1 : Int32)))] [])) (fun _ k => XS.iinc X16.here hx rfl (hb hby d8_38) rfl (l' := #[.val (.ref o0), .val (.ref o1), .val (.int p2), .val (.int p3), .val (.ref aw), .val (.ref at_), .val (.int ((5 : Int32) + (1 : Int32)))]) rfl k) ?_
  rw [show ((5 : Int32) + (1 : Int32)) = (6 : Int32) from by decide]
  refine Go.step (g' := (mkF m 17 #[.val (.ref o0), .val (.ref o1), .val (.int p2), .val (.int p3), .val (.ref aw), .val (.ref at_), .val (.int (6 : Int32))] [])) (fun _ k => XS.goto X16.here hx rfl (pc0 := 41) (pc' := 17) rfl (hb hby d8_41) (by decide) (by decide) k) ?_
  skip
  refine Go.step (g' := (mkF m 19 #[.val (.ref o0), .val (.ref o1), .val (.int p2), .val (.int p3), .val (.ref aw), .val (.ref at_), .val (.int (6 : Int32))] [(.int (6 : Int32))])) (fun _ k => XS.iload X16.here hx rfl (hb hby d8_17) rfl  k) ?_
  refine Go.step (g' := (mkF m 20 #[.val (.ref o0), .val (.ref o1), .val (.int p2), .val (.int p3), .val (.ref aw), .val (.ref at_), .val (.int (6 : Int32))] [(.int (2 : Int32)), (.int (6 : Int32))])) (fun _ k => XS.iconst X16.here hx rfl (hb hby d8_19) k) ?_
  refine Go.step (g' := (mkF m 21 #[.val (.ref o0), .val (.ref o1), .val (.int p2), .val (.int p3), .val (.ref aw), .val (.ref at_), .val (.int (6 : Int32))] [(.int p3), (.int (2 : Int32)), (.int (6 : Int32))])) (fun _ k => XS.iloadN X16.here hx rfl (hb hby d8_20) rfl  k) ?_
  refine Go.step (g' := (mkF m 22 #[.val (.ref o0), .val (.ref o1), .val (.int p2), .val (.int p3), .val (.ref aw), .val (.ref at_), .val (.int (6 : Int32))] [(.int ((2 : Int32) * p3)), (.int (6 : Int32))])) (fun _ k => XS.imul X16.here hx rfl (hb hby d8_21) rfl k) ?_
  rw [show ((2 : Int32) * p3) = (6 : Int32) from by rw [hl]; decide]
  refine Go.step (g' := (mkF m 44 #[.val (.ref o0), .val (.ref o1), .val (.int p2), .val (.int p3), .val (.ref aw), .val (.ref at_), .val (.int (6 : Int32))] [])) (fun _ k => XS.icmpYes X16.here hx rfl (pc0 := 22) (pc' := 44) rfl (hb hby d8_22) rfl (flt (by decide : ¬ ((6 : Int32) < (6 : Int32)))).2.1 (by decide) (by decide) k) ?_
  skip
  exact Go.ret0 X16 hx hlk Bd.returns (hb hby d8_44) (by decide) (by decide) (by rw [e16]; exact ⟨rfl, N16, (Q15.wr W16 (Or.inl (List.mem_of_getElem? (i := 0) rfl))), V16.cong (fun k hk => by rw [hf, hl]; match k, hk with | 0, _ => rfl | 1, _ => rfl | 2, _ => rfl | 3, _ => rfl | 4, _ => rfl | 5, _ => rfl | 6, _ => rfl | 7, _ => rfl)⟩)

set_option maxRecDepth 65536 in
set_option maxHeartbeats 40000000 in
theorem rm8w04 (l : Launch) (Z : State) (a0 : Array Value) (hw : ∀ d ∈ tables_1, d.before a0 Z = true) (ws : List Jvm.Cond) (o0 : Addr) (o1 : Addr) (p2 : Int32) (p3 : Int32) (aw : Addr) (at_ : Addr) (gw : Nat → UInt64) (gt : Nat → UInt64) (h0 : Heap) (n0 : Nat) (Z0 : n0 ≤ h0.size) (F0 : Fld Z h0 o0 "com/example/rhadamanthus/rhadamanthus/learn/Histogram" "cells" "[D" (.ref aw)) (F1 : Fld Z h0 o1 "com/example/rhadamanthus/rhadamanthus/learn/Histogram" "cells" "[D" (.ref at_)) (A_w : IA Z h0 aw .double 8 (fun k => .double (gw k))) (A_t : IA Z h0 at_ .double 8 (fun k => .double (gt k))) (n1 : o0 ≠ aw) (n2 : o1 ≠ aw) (n3 : aw ≠ at_) (g_aw : n0 ≤ aw) (hnan : ∀ k, Jvm.Free.Fl.NoNaN64 (FP.dsub (gw k) (gt k))) (hf : p2 = (0 : Int32)) (hl : p3 = (4 : Int32)) :
    MetFree l (⟨"com/example/rhadamanthus/rhadamanthus/learn/Histogram", "subtractColumns", "(Lcom/example/rhadamanthus/rhadamanthus/learn/Histogram;II)V"⟩ : MethodName) (head1 (Jvm.Cond.code (⟨"com/example/rhadamanthus/rhadamanthus/learn/Histogram", "subtractColumns", "(Lcom/example/rhadamanthus/rhadamanthus/learn/Histogram;II)V"⟩ : MethodName) prog_64_method_10_code 7 none :: ws) ({ frames := 0, cells := 0, slots := 0, locals := 0 } : Room)) (fun a U => a = #[(.ref o0), (.ref o1), (.int p2), (.int p3)] ∧ Z.Warmed39 U.vm ∧ U.heap = h0) (fun _ _ _ _ _ => True) (fun _ U o U' => ∃ v L, o = .returned v ∧ (QA Z aw (fun k => if 2 * p2.toNatClampNeg ≤ k ∧ k < 2 * p3.toNatClampNeg then FP.dsub (gw k) (gt k) else gw k) h0 n0) v U'.heap L ∧ FrameEnd U o U' L ({ frames := 0, cells := 0, slots := 0, locals := 0 } : Room).cells ({ frames := 0, cells := 0, slots := 0, locals := 0 } : Room).slots) := by
  refine MetFree.of_bodySF (plainFor_of_name pn_8) hisR ?_
  intro p e s m args below meth c s₁ Bd hml0 hP hK
  obtain ⟨rfl, hZ, hh⟩ := hP
  have hx := Bd.exec
  have hby := Bd.bytes
  have hlk : meth.locks = false := BodyLoose.notSynchronized Bd
  have hml : c.maxLocals = 7 := hml0
  have hown : s.vm.findClass "com/example/rhadamanthus/rhadamanthus/learn/Histogram" = some m.cls := findClass_of_methodNamed Bd.named
  have hnm := (name_of_methodNamed Bd.named Bd.method).1
  have X0 : Stand p l e ({ frames := 0, cells := 0, slots := 0, locals := 0 } : Room) s m #[(.ref o0), (.ref o1), (.int p2), (.int p3)] below meth c s₁ ([] : List Loc) 0 0 := Stand.of_body Bd
  have e0 : s₁.heap = h0 := by rw [← hh, Bd.state]; rfl
  show Go p e below s 0 0 (QA Z aw (fun k => if 2 * p2.toNatClampNeg ≤ k ∧ k < 2 * p3.toNatClampNeg then FP.dsub (gw k) (gt k) else gw k) h0 n0) s₁ (entryFrame m #[(.ref o0), (.ref o1), (.int p2), (.int p3)] 7)
  rw [ef_8 m o0 o1 p2 p3]
  have N0 := Fr.nil n0
  refine Go.step (g' := (mkF m 1 #[.val (.ref o0), .val (.ref o1), .val (.int p2), .val (.int p3), .unset, .unset, .unset] [(.ref o0)])) (fun _ k => XS.aloadN X0.here hx rfl (hb hby d8_0) rfl rfl  k) ?_
  obtain ⟨T1, X1, e1, st1⟩ := getF X0 hx hZ hown (host := "") (Or.inl (hw _ (List.mem_of_getElem? (i := 10) rfl))) Via.refl e0 F0 (g := (mkF m 1 #[.val (.ref o0), .val (.ref o1), .val (.int p2), .val (.int p3), .unset, .unset, .unset] [(.ref o0)])) rfl rfl (hb hby d8_1)
  refine Go.step (g' := (mkF m 4 #[.val (.ref o0), .val (.ref o1), .val (.int p2), .val (.int p3), .unset, .unset, .unset] [(.ref aw)])) st1 ?_
  refine Go.step (g' := (mkF m 6 #[.val (.ref o0), .val (.ref o1), .val (.int p2), .val (.int p3), .val (.ref aw), .unset, .unset] [])) (fun _ k => XS.astore X1.here hx rfl (hb hby d8_4) rfl rfl (l' := #[.val (.ref o0), .val (.ref o1), .val (.int p2), .val (.int p3), .val (.ref aw), .unset, .unset]) rfl k) ?_
  refine Go.step (g' := (mkF m 7 #[.val (.ref o0), .val (.ref o1), .val (.int p2), .val (.int p3), .val (.ref aw), .unset, .unset] [(.ref o1)])) (fun _ k => XS.aloadN X1.here hx rfl (hb hby d8_6) rfl rfl  k) ?_
  obtain ⟨T2, X2, e2, st2⟩ := getF X1 hx hZ hown (host := "") (Or.inl (hw _ (List.mem_of_getElem? (i := 10) rfl))) Via.refl e1 F1 (g := (mkF m 7 #[.val (.ref o0), .val (.ref o1), .val (.int p2), .val (.int p3), .val (.ref aw), .unset, .unset] [(.ref o1)])) rfl rfl (hb hby d8_7)
  refine Go.step (g' := (mkF m 10 #[.val (.ref o0), .val (.ref o1), .val (.int p2), .val (.int p3), .val (.ref aw), .unset, .unset] [(.ref at_)])) st2 ?_
  refine Go.step (g' := (mkF m 12 #[.val (.ref o0), .val (.ref o1), .val (.int p2), .val (.int p3), .val (.ref aw), .val (.ref at_), .unset] [])) (fun _ k => XS.astore X2.here hx rfl (hb hby d8_10) rfl rfl (l' := #[.val (.ref o0), .val (.ref o1), .val (.int p2), .val (.int p3), .val (.ref aw), .val (.ref at_), .unset]) rfl k) ?_
  refine Go.step (g' := (mkF m 13 #[.val (.ref o0), .val (.ref o1), .val (.int p2), .val (.int p3), .val (.ref aw), .val (.ref at_), .unset] [(.int (2 : Int32))])) (fun _ k => XS.iconst X2.here hx rfl (hb hby d8_12) k) ?_
  refine Go.step (g' := (mkF m 14 #[.val (.ref o0), .val (.ref o1), .val (.int p2), .val (.int p3), .val (.ref aw), .val (.ref at_), .unset] [(.int p2), (.int (2 : Int32))])) (fun _ k => XS.iloadN X2.here hx rfl (hb hby d8_13) rfl  k) ?_
  refine Go.step (g' := (mkF m 15 #[.val (.ref o0), .val (.ref o1), .val (.int p2), .val (.int p3), .val (.ref aw), .val (.ref at_), .unset] [(.int ((2 : Int32) * p2))])) (fun _ k => XS.imul X2.here hx rfl (hb hby d8_14) rfl k) ?_
  rw [show ((2 : Int32) * p2) = (0 : Int32) from by rw [hf]; decide]
  refine Go.step (g' := (mkF m 17 #[.val (.ref o0), .val (.ref o1), .val (.int p2), .val (.int p3), .val (.ref aw), .val (.ref at_), .val (.int (0 : Int32))] [])) (fun _ k => XS.istore X2.here hx rfl (hb hby d8_15) rfl (l' := #[.val (.ref o0), .val (.ref o1), .val (.int p2), .val (.int p3), .val (.ref aw), .val (.ref at_), .val (.int (0 : Int32))]) rfl k) ?_
  skip
  refine Go.step (g' := (mkF m 19 #[.val (.ref o0), .val (.ref o1), .val (.int p2), .val (.int p3), .val (.ref aw), .val (.ref at_), .val (.int (0 : Int32))] [(.int (0 : Int32))])) (fun _ k => XS.iload X2.here hx rfl (hb hby d8_17) rfl  k) ?_
  refine Go.step (g' := (mkF m 20 #[.val (.ref o0), .val (.ref o1), .val (.int p2), .val (.int p3), .val (.ref aw), .val (.ref at_), .val (.int (0 : Int32))] [(.int (2 : Int32)), (.int (0 : Int32))])) (fun _ k => XS.iconst X2.here hx rfl (hb hby d8_19) k) ?_
  refine Go.step (g' := (mkF m 21 #[.val (.ref o0), .val (.ref o1), .val (.int p2), .val (.int p3), .val (.ref aw), .val (.ref at_), .val (.int (0 : Int32))] [(.int p3), (.int (2 : Int32)), (.int (0 : Int32))])) (fun _ k => XS.iloadN X2.here hx rfl (hb hby d8_20) rfl  k) ?_
  refine Go.step (g' := (mkF m 22 #[.val (.ref o0), .val (.ref o1), .val (.int p2), .val (.int p3), .val (.ref aw), .val (.ref at_), .val (.int (0 : Int32))] [(.int ((2 : Int32) * p3)), (.int (0 : Int32))])) (fun _ k => XS.imul X2.here hx rfl (hb hby d8_21) rfl k) ?_
  rw [show ((2 : Int32) * p3) = (8 : Int32) from by rw [hl]; decide]
  refine Go.step (g' := (mkF m 25 #[.val (.ref o0), .val (.ref o1), .val (.int p2), .val (.int p3), .val (.ref aw), .val (.ref at_), .val (.int (0 : Int32))] [])) (fun _ k => XS.icmpNo X2.here hx rfl (hb hby d8_22) rfl (tlt (by decide : (0 : Int32) < (8 : Int32))).2.1 k) ?_
  skip
  refine Go.step (g' := (mkF m 27 #[.val (.ref o0), .val (.ref o1), .val (.int p2), .val (.int p3), .val (.ref aw), .val (.ref at_), .val (.int (0 : Int32))] [(.ref aw)])) (fun _ k => XS.aload X2.here hx rfl (hb hby d8_25) rfl rfl  k) ?_
  refine Go.step (g' := (mkF m 29 #[.val (.ref o0), .val (.ref o1), .val (.int p2), .val (.int p3), .val (.ref aw), .val (.ref at_), .val (.int (0 : Int32))] [(.int (0 : Int32)), (.ref aw)])) (fun _ k => XS.iload X2.here hx rfl (hb hby d8_27) rfl  k) ?_
  refine Go.step (g' := (mkF m 30 #[.val (.ref o0), .val (.ref o1), .val (.int p2), .val (.int p3), .val (.ref aw), .val (.ref at_), .val (.int (0 : Int32))] [(.int (0 : Int32)), (.ref aw), (.int (0 : Int32)), (.ref aw)])) (fun _ k => Jvm.Free.XT.dup2 X2.here hx rfl (hb hby d8_29) rfl rfl rfl k) ?_
  refine Go.step (g' := (mkF m 31 #[.val (.ref o0), .val (.ref o1), .val (.int p2), .val (.int p3), .val (.ref aw), .val (.ref at_), .val (.int (0 : Int32))] [(.double (gw (0 : Int32).toNatClampNeg)), (.int (0 : Int32)), (.ref aw)])) (fun _ k => getAD X2 hx hZ e2 A_w (j := (0 : Int32)) (by decide) (gf := (mkF m 30 #[.val (.ref o0), .val (.ref o1), .val (.int p2), .val (.int p3), .val (.ref aw), .val (.ref at_), .val (.int (0 : Int32))] [(.int (0 : Int32)), (.ref aw), (.int (0 : Int32)), (.ref aw)])) rfl rfl (hb hby d8_30) k) ?_
  rw [show (gw (0 : Int32).toNatClampNeg) = (gw 0) from rfl]
  refine Go.step (g' := (mkF m 33 #[.val (.ref o0), .val (.ref o1), .val (.int p2), .val (.int p3), .val (.ref aw), .val (.ref at_), .val (.int (0 : Int32))] [(.ref at_), (.double (gw 0)), (.int (0 : Int32)), (.ref aw)])) (fun _ k => XS.aload X2.here hx rfl (hb hby d8_31) rfl rfl  k) ?_
  refine Go.step (g' := (mkF m 35 #[.val (.ref o0), .val (.ref o1), .val (.int p2), .val (.int p3), .val (.ref aw), .val (.ref at_), .val (.int (0 : Int32))] [(.int (0 : Int32)), (.ref at_), (.double (gw 0)), (.int (0 : Int32)), (.ref aw)])) (fun _ k => XS.iload X2.here hx rfl (hb hby d8_33) rfl  k) ?_
  refine Go.step (g' := (mkF m 36 #[.val (.ref o0), .val (.ref o1), .val (.int p2), .val (.int p3), .val (.ref aw), .val (.ref at_), .val (.int (0 : Int32))] [(.double (gt (0 : Int32).toNatClampNeg)), (.double (gw 0)), (.int (0 : Int32)), (.ref aw)])) (fun _ k => getAD X2 hx hZ e2 A_t (j := (0 : Int32)) (by decide) (gf := (mkF m 35 #[.val (.ref o0), .val (.ref o1), .val (.int p2), .val (.int p3), .val (.ref aw), .val (.ref at_), .val (.int (0 : Int32))] [(.int (0 : Int32)), (.ref at_), (.double (gw 0)), (.int (0 : Int32)), (.ref aw)])) rfl rfl (hb hby d8_35) k) ?_
  rw [show (gt (0 : Int32).toNatClampNeg) = (gt 0) from rfl]
  refine Go.step (g' := (mkF m 37 #[.val (.ref o0), .val (.ref o1), .val (.int p2), .val (.int p3), .val (.ref aw), .val (.ref at_), .val (.int (0 : Int32))] [(.double (FP.dsub (gw 0) (gt 0))), (.int (0 : Int32)), (.ref aw)])) (fun _ k => XS.dsubS X2.here hx rfl (hb hby d8_36) rfl (hnan 0) rfl k) ?_
  obtain ⟨T3, h3, lc3, X3, e3, W3, N3, V3, st3⟩ := putAD X2 hx hZ e2 A_w (j := (0 : Int32)) (by decide) N0 g_aw (gf := (mkF m 37 #[.val (.ref o0), .val (.ref o1), .val (.int p2), .val (.int p3), .val (.ref aw), .val (.ref at_), .val (.int (0 : Int32))] [(.double (FP.dsub (gw 0) (gt 0))), (.int (0 : Int32)), (.ref aw)])) rfl rfl (hb hby d8_37)
  refine Go.step (g' := (mkF m 38 #[.val (.ref o0), .val (.ref o1), .val (.int p2), .val (.int p3), .val (.ref aw), .val (.ref at_), .val (.int (0 : Int32))] [])) st3 ?_
  have Q4 := ((Keep.refl h0 [aw]).wr W3 (Or.inl (List.mem_of_getElem? (i := 0) rfl)))
  refine Go.step (g' := (mkF m 41 #[.val (.ref o0), .val (.ref o1), .val (.int p2), .val (.int p3), .val (.ref aw), .val (.ref at_), .val (.int ((0 : Int32) + (1 : Int32)))] [])) (fun _ k => XS.iinc X3.here hx rfl (hb hby d8_38) rfl (l' := #[.val (.ref o0), .val (.ref o1), .val (.int p2), .val (.int p3), .val (.ref aw), .val (.ref at_), .val (.int ((0 : Int32) + (1 : Int32)))]) rfl k) ?_
  rw [show ((0 : Int32) + (1 : Int32)) = (1 : Int32) from by decide]
  refine Go.step (g' := (mkF m 17 #[.val (.ref o0), .val (.ref o1), .val (.int p2), .val (.int p3), .val (.ref aw), .val (.ref at_), .val (.int (1 : Int32))] [])) (fun _ k => XS.goto X3.here hx rfl (pc0 := 41) (pc' := 17) rfl (hb hby d8_41) (by decide) (by decide) k) ?_
  skip
  refine Go.step (g' := (mkF m 19 #[.val (.ref o0), .val (.ref o1), .val (.int p2), .val (.int p3), .val (.ref aw), .val (.ref at_), .val (.int (1 : Int32))] [(.int (1 : Int32))])) (fun _ k => XS.iload X3.here hx rfl (hb hby d8_17) rfl  k) ?_
  refine Go.step (g' := (mkF m 20 #[.val (.ref o0), .val (.ref o1), .val (.int p2), .val (.int p3), .val (.ref aw), .val (.ref at_), .val (.int (1 : Int32))] [(.int (2 : Int32)), (.int (1 : Int32))])) (fun _ k => XS.iconst X3.here hx rfl (hb hby d8_19) k) ?_
  refine Go.step (g' := (mkF m 21 #[.val (.ref o0), .val (.ref o1), .val (.int p2), .val (.int p3), .val (.ref aw), .val (.ref at_), .val (.int (1 : Int32))] [(.int p3), (.int (2 : Int32)), (.int (1 : Int32))])) (fun _ k => XS.iloadN X3.here hx rfl (hb hby d8_20) rfl  k) ?_
  refine Go.step (g' := (mkF m 22 #[.val (.ref o0), .val (.ref o1), .val (.int p2), .val (.int p3), .val (.ref aw), .val (.ref at_), .val (.int (1 : Int32))] [(.int ((2 : Int32) * p3)), (.int (1 : Int32))])) (fun _ k => XS.imul X3.here hx rfl (hb hby d8_21) rfl k) ?_
  rw [show ((2 : Int32) * p3) = (8 : Int32) from by rw [hl]; decide]
  refine Go.step (g' := (mkF m 25 #[.val (.ref o0), .val (.ref o1), .val (.int p2), .val (.int p3), .val (.ref aw), .val (.ref at_), .val (.int (1 : Int32))] [])) (fun _ k => XS.icmpNo X3.here hx rfl (hb hby d8_22) rfl (tlt (by decide : (1 : Int32) < (8 : Int32))).2.1 k) ?_
  skip
  refine Go.step (g' := (mkF m 27 #[.val (.ref o0), .val (.ref o1), .val (.int p2), .val (.int p3), .val (.ref aw), .val (.ref at_), .val (.int (1 : Int32))] [(.ref aw)])) (fun _ k => XS.aload X3.here hx rfl (hb hby d8_25) rfl rfl  k) ?_
  refine Go.step (g' := (mkF m 29 #[.val (.ref o0), .val (.ref o1), .val (.int p2), .val (.int p3), .val (.ref aw), .val (.ref at_), .val (.int (1 : Int32))] [(.int (1 : Int32)), (.ref aw)])) (fun _ k => XS.iload X3.here hx rfl (hb hby d8_27) rfl  k) ?_
  refine Go.step (g' := (mkF m 30 #[.val (.ref o0), .val (.ref o1), .val (.int p2), .val (.int p3), .val (.ref aw), .val (.ref at_), .val (.int (1 : Int32))] [(.int (1 : Int32)), (.ref aw), (.int (1 : Int32)), (.ref aw)])) (fun _ k => Jvm.Free.XT.dup2 X3.here hx rfl (hb hby d8_29) rfl rfl rfl k) ?_
  refine Go.step (g' := (mkF m 31 #[.val (.ref o0), .val (.ref o1), .val (.int p2), .val (.int p3), .val (.ref aw), .val (.ref at_), .val (.int (1 : Int32))] [(.double ((upd gw (0 : Int32).toNatClampNeg (FP.dsub (gw 0) (gt 0))) (1 : Int32).toNatClampNeg)), (.int (1 : Int32)), (.ref aw)])) (fun _ k => getAD X3 hx hZ e3 V3 (j := (1 : Int32)) (by decide) (gf := (mkF m 30 #[.val (.ref o0), .val (.ref o1), .val (.int p2), .val (.int p3), .val (.ref aw), .val (.ref at_), .val (.int (1 : Int32))] [(.int (1 : Int32)), (.ref aw), (.int (1 : Int32)), (.ref aw)])) rfl rfl (hb hby d8_30) k) ?_
  rw [show ((upd gw (0 : Int32).toNatClampNeg (FP.dsub (gw 0) (gt 0))) (1 : Int32).toNatClampNeg) = (gw 1) from rfl]
  refine Go.step (g' := (mkF m 33 #[.val (.ref o0), .val (.ref o1), .val (.int p2), .val (.int p3), .val (.ref aw), .val (.ref at_), .val (.int (1 : Int32))] [(.ref at_), (.double (gw 1)), (.int (1 : Int32)), (.ref aw)])) (fun _ k => XS.aload X3.here hx rfl (hb hby d8_31) rfl rfl  k) ?_
  refine Go.step (g' := (mkF m 35 #[.val (.ref o0), .val (.ref o1), .val (.int p2), .val (.int p3), .val (.ref aw), .val (.ref at_), .val (.int (1 : Int32))] [(.int (1 : Int32)), (.ref at_), (.double (gw 1)), (.int (1 : Int32)), (.ref aw)])) (fun _ k => XS.iload X3.here hx rfl (hb hby d8_33) rfl  k) ?_
  refine Go.step (g' := (mkF m 36 #[.val (.ref o0), .val (.ref o1), .val (.int p2), .val (.int p3), .val (.ref aw), .val (.ref at_), .val (.int (1 : Int32))] [(.double (gt (1 : Int32).toNatClampNeg)), (.double (gw 1)), (.int (1 : Int32)), (.ref aw)])) (fun _ k => getAD X3 hx hZ e3 (A_t.other W3 (Ne.symm n3)) (j := (1 : Int32)) (by decide) (gf := (mkF m 35 #[.val (.ref o0), .val (.ref o1), .val (.int p2), .val (.int p3), .val (.ref aw), .val (.ref at_), .val (.int (1 : Int32))] [(.int (1 : Int32)), (.ref at_), (.double (gw 1)), (.int (1 : Int32)), (.ref aw)])) rfl rfl (hb hby d8_35) k) ?_
  rw [show (gt (1 : Int32).toNatClampNeg) = (gt 1) from rfl]
  refine Go.step (g' := (mkF m 37 #[.val (.ref o0), .val (.ref o1), .val (.int p2), .val (.int p3), .val (.ref aw), .val (.ref at_), .val (.int (1 : Int32))] [(.double (FP.dsub (gw 1) (gt 1))), (.int (1 : Int32)), (.ref aw)])) (fun _ k => XS.dsubS X3.here hx rfl (hb hby d8_36) rfl (hnan 1) rfl k) ?_
  obtain ⟨T5, h5, lc5, X5, e5, W5, N5, V5, st5⟩ := putAD X3 hx hZ e3 V3 (j := (1 : Int32)) (by decide) N3 g_aw (gf := (mkF m 37 #[.val (.ref o0), .val (.ref o1), .val (.int p2), .val (.int p3), .val (.ref aw), .val (.ref at_), .val (.int (1 : Int32))] [(.double (FP.dsub (gw 1) (gt 1))), (.int (1 : Int32)), (.ref aw)])) rfl rfl (hb hby d8_37)
  refine Go.step (g' := (mkF m 38 #[.val (.ref o0), .val (.ref o1), .val (.int p2), .val (.int p3), .val (.ref aw), .val (.ref at_), .val (.int (1 : Int32))] [])) st5 ?_
  have Q6 := (Nat.le_trans (Nat.le_trans Z0 (Keep.of_wr W3).1) (Keep.of_wr W5).1)
  refine Go.step (g' := (mkF m 41 #[.val (.ref o0), .val (.ref o1), .val (.int p2), .val (.int p3), .val (.ref aw), .val (.ref at_), .val (.int ((1 : Int32) + (1 : Int32)))] [])) (fun _ k => XS.iinc X5.here hx rfl (hb hby d8_38) rfl (l' := #[.val (.ref o0), .val (.ref o1), .val (.int p2), .val (.int p3), .val (.ref aw), .val (.ref at_), .val (.int ((1 : Int32) + (1 : Int32)))]) rfl k) ?_
  rw [show ((1 : Int32) + (1 : Int32)) = (2 : Int32) from by decide]
  refine Go.step (g' := (mkF m 17 #[.val (.ref o0), .val (.ref o1), .val (.int p2), .val (.int p3), .val (.ref aw), .val (.ref at_), .val (.int (2 : Int32))] [])) (fun _ k => XS.goto X5.here hx rfl (pc0 := 41) (pc' := 17) rfl (hb hby d8_41) (by decide) (by decide) k) ?_
  skip
  refine Go.step (g' := (mkF m 19 #[.val (.ref o0), .val (.ref o1), .val (.int p2), .val (.int p3), .val (.ref aw), .val (.ref at_), .val (.int (2 : Int32))] [(.int (2 : Int32))])) (fun _ k => XS.iload X5.here hx rfl (hb hby d8_17) rfl  k) ?_
  refine Go.step (g' := (mkF m 20 #[.val (.ref o0), .val (.ref o1), .val (.int p2), .val (.int p3), .val (.ref aw), .val (.ref at_), .val (.int (2 : Int32))] [(.int (2 : Int32)), (.int (2 : Int32))])) (fun _ k => XS.iconst X5.here hx rfl (hb hby d8_19) k) ?_
  refine Go.step (g' := (mkF m 21 #[.val (.ref o0), .val (.ref o1), .val (.int p2), .val (.int p3), .val (.ref aw), .val (.ref at_), .val (.int (2 : Int32))] [(.int p3), (.int (2 : Int32)), (.int (2 : Int32))])) (fun _ k => XS.iloadN X5.here hx rfl (hb hby d8_20) rfl  k) ?_
  refine Go.step (g' := (mkF m 22 #[.val (.ref o0), .val (.ref o1), .val (.int p2), .val (.int p3), .val (.ref aw), .val (.ref at_), .val (.int (2 : Int32))] [(.int ((2 : Int32) * p3)), (.int (2 : Int32))])) (fun _ k => XS.imul X5.here hx rfl (hb hby d8_21) rfl k) ?_
  rw [show ((2 : Int32) * p3) = (8 : Int32) from by rw [hl]; decide]
  refine Go.step (g' := (mkF m 25 #[.val (.ref o0), .val (.ref o1), .val (.int p2), .val (.int p3), .val (.ref aw), .val (.ref at_), .val (.int (2 : Int32))] [])) (fun _ k => XS.icmpNo X5.here hx rfl (hb hby d8_22) rfl (tlt (by decide : (2 : Int32) < (8 : Int32))).2.1 k) ?_
  skip
  refine Go.step (g' := (mkF m 27 #[.val (.ref o0), .val (.ref o1), .val (.int p2), .val (.int p3), .val (.ref aw), .val (.ref at_), .val (.int (2 : Int32))] [(.ref aw)])) (fun _ k => XS.aload X5.here hx rfl (hb hby d8_25) rfl rfl  k) ?_
  refine Go.step (g' := (mkF m 29 #[.val (.ref o0), .val (.ref o1), .val (.int p2), .val (.int p3), .val (.ref aw), .val (.ref at_), .val (.int (2 : Int32))] [(.int (2 : Int32)), (.ref aw)])) (fun _ k => XS.iload X5.here hx rfl (hb hby d8_27) rfl  k) ?_
  refine Go.step (g' := (mkF m 30 #[.val (.ref o0), .val (.ref o1), .val (.int p2), .val (.int p3), .val (.ref aw), .val (.ref at_), .val (.int (2 : Int32))] [(.int (2 : Int32)), (.ref aw), (.int (2 : Int32)), (.ref aw)])) (fun _ k => Jvm.Free.XT.dup2 X5.here hx rfl (hb hby d8_29) rfl rfl rfl k) ?_
  refine Go.step (g' := (mkF m 31 #[.val (.ref o0), .val (.ref o1), .val (.int p2), .val (.int p3), .val (.ref aw), .val (.ref at_), .val (.int (2 : Int32))] [(.double ((upd (upd gw (0 : Int32).toNatClampNeg (FP.dsub (gw 0) (gt 0))) (1 : Int32).toNatClampNeg (FP.dsub (gw 1) (gt 1))) (2 : Int32).toNatClampNeg)), (.int (2 : Int32)), (.ref aw)])) (fun _ k => getAD X5 hx hZ e5 V5 (j := (2 : Int32)) (by decide) (gf := (mkF m 30 #[.val (.ref o0), .val (.ref o1), .val (.int p2), .val (.int p3), .val (.ref aw), .val (.ref at_), .val (.int (2 : Int32))] [(.int (2 : Int32)), (.ref aw), (.int (2 : Int32)), (.ref aw)])) rfl rfl (hb hby d8_30) k) ?_
  rw [show ((upd (upd gw (0 : Int32).toNatClampNeg (FP.dsub (gw 0) (gt 0))) (1 : Int32).toNatClampNeg (FP.dsub (gw 1) (gt 1))) (2 : Int32).toNatClampNeg) = (gw 2) from rfl]
  refine Go.step (g' := (mkF m 33 #[.val (.ref o0), .val (.ref o1), .val (.int p2), .val (.int p3), .val (.ref aw), .val (.ref at_), .val (.int (2 : Int32))] [(.ref at_), (.double (gw 2)), (.int (2 : Int32)), (.ref aw)])) (fun _ k => XS.aload X5.here hx rfl (hb hby d8_31) rfl rfl  k) ?_
  refine Go.step (g' := (mkF m 35 #[.val (.ref o0), .val (.ref o1), .val (.int p2), .val (.int p3), .val (.ref aw), .val (.ref at_), .val (.int (2 : Int32))] [(.int (2 : Int32)), (.ref at_), (.double (gw 2)), (.int (2 : Int32)), (.ref aw)])) (fun _ k => XS.iload X5.here hx rfl (hb hby d8_33) rfl  k) ?_
  refine Go.step (g' := (mkF m 36 #[.val (.ref o0), .val (.ref o1), .val (.int p2), .val (.int p3), .val (.ref aw), .val (.ref at_), .val (.int (2 : Int32))] [(.double (gt (2 : Int32).toNatClampNeg)), (.double (gw 2)), (.int (2 : Int32)), (.ref aw)])) (fun _ k => getAD X5 hx hZ e5 ((A_t.other W3 (Ne.symm n3)).other W5 (Ne.symm n3)) (j := (2 : Int32)) (by decide) (gf := (mkF m 35 #[.val (.ref o0), .val (.ref o1), .val (.int p2), .val (.int p3), .val (.ref aw), .val (.ref at_), .val (.int (2 : Int32))] [(.int (2 : Int32)), (.ref at_), (.double (gw 2)), (.int (2 : Int32)), (.ref aw)])) rfl rfl (hb hby d8_35) k) ?_
  rw [show (gt (2 : Int32).toNatClampNeg) = (gt 2) from rfl]
  refine Go.step (g' := (mkF m 37 #[.val (.ref o0), .val (.ref o1), .val (.int p2), .val (.int p3), .val (.ref aw), .val (.ref at_), .val (.int (2 : Int32))] [(.double (FP.dsub (gw 2) (gt 2))), (.int (2 : Int32)), (.ref aw)])) (fun _ k => XS.dsubS X5.here hx rfl (hb hby d8_36) rfl (hnan 2) rfl k) ?_
  obtain ⟨T7, h7, lc7, X7, e7, W7, N7, V7, st7⟩ := putAD X5 hx hZ e5 V5 (j := (2 : Int32)) (by decide) N5 g_aw (gf := (mkF m 37 #[.val (.ref o0), .val (.ref o1), .val (.int p2), .val (.int p3), .val (.ref aw), .val (.ref at_), .val (.int (2 : Int32))] [(.double (FP.dsub (gw 2) (gt 2))), (.int (2 : Int32)), (.ref aw)])) rfl rfl (hb hby d8_37)
  refine Go.step (g' := (mkF m 38 #[.val (.ref o0), .val (.ref o1), .val (.int p2), .val (.int p3), .val (.ref aw), .val (.ref at_), .val (.int (2 : Int32))] [])) st7 ?_
  have Q8 := (((F0.other W3 (Or.inl n1)).other W5 (Or.inl n1)).other W7 (Or.inl n1))
  have Q9 := (((F1.other W3 (Or.inl n2)).other W5 (Or.inl n2)).other W7 (Or.inl n2))
  have Q10 := (((A_t.other W3 (Ne.symm n3)).other W5 (Ne.symm n3)).other W7 (Ne.symm n3))
  have Q11 := ((Q4.wr W5 (Or.inl (List.mem_of_getElem? (i := 0) rfl))).wr W7 (Or.inl (List.mem_of_getElem? (i := 0) rfl)))
  refine Go.step (g' := (mkF m 41 #[.val (.ref o0), .val (.ref o1), .val (.int p2), .val (.int p3), .val (.ref aw), .val (.ref at_), .val (.int ((2 : Int32) + (1 : Int32)))] [])) (fun _ k => XS.iinc X7.here hx rfl (hb hby d8_38) rfl (l' := #[.val (.ref o0), .val (.ref o1), .val (.int p2), .val (.int p3), .val (.ref aw), .val (.ref at_), .val (.int ((2 : Int32) + (1 : Int32)))]) rfl k) ?_
  rw [show ((2 : Int32) + (1 : Int32)) = (3 : Int32) from by decide]
  refine Go.step (g' := (mkF m 17 #[.val (.ref o0), .val (.ref o1), .val (.int p2), .val (.int p3), .val (.ref aw), .val (.ref at_), .val (.int (3 : Int32))] [])) (fun _ k => XS.goto X7.here hx rfl (pc0 := 41) (pc' := 17) rfl (hb hby d8_41) (by decide) (by decide) k) ?_
  skip
  refine Go.step (g' := (mkF m 19 #[.val (.ref o0), .val (.ref o1), .val (.int p2), .val (.int p3), .val (.ref aw), .val (.ref at_), .val (.int (3 : Int32))] [(.int (3 : Int32))])) (fun _ k => XS.iload X7.here hx rfl (hb hby d8_17) rfl  k) ?_
  refine Go.step (g' := (mkF m 20 #[.val (.ref o0), .val (.ref o1), .val (.int p2), .val (.int p3), .val (.ref aw), .val (.ref at_), .val (.int (3 : Int32))] [(.int (2 : Int32)), (.int (3 : Int32))])) (fun _ k => XS.iconst X7.here hx rfl (hb hby d8_19) k) ?_
  refine Go.step (g' := (mkF m 21 #[.val (.ref o0), .val (.ref o1), .val (.int p2), .val (.int p3), .val (.ref aw), .val (.ref at_), .val (.int (3 : Int32))] [(.int p3), (.int (2 : Int32)), (.int (3 : Int32))])) (fun _ k => XS.iloadN X7.here hx rfl (hb hby d8_20) rfl  k) ?_
  refine Go.step (g' := (mkF m 22 #[.val (.ref o0), .val (.ref o1), .val (.int p2), .val (.int p3), .val (.ref aw), .val (.ref at_), .val (.int (3 : Int32))] [(.int ((2 : Int32) * p3)), (.int (3 : Int32))])) (fun _ k => XS.imul X7.here hx rfl (hb hby d8_21) rfl k) ?_
  rw [show ((2 : Int32) * p3) = (8 : Int32) from by rw [hl]; decide]
  refine Go.step (g' := (mkF m 25 #[.val (.ref o0), .val (.ref o1), .val (.int p2), .val (.int p3), .val (.ref aw), .val (.ref at_), .val (.int (3 : Int32))] [])) (fun _ k => XS.icmpNo X7.here hx rfl (hb hby d8_22) rfl (tlt (by decide : (3 : Int32) < (8 : Int32))).2.1 k) ?_
  skip
  refine Go.step (g' := (mkF m 27 #[.val (.ref o0), .val (.ref o1), .val (.int p2), .val (.int p3), .val (.ref aw), .val (.ref at_), .val (.int (3 : Int32))] [(.ref aw)])) (fun _ k => XS.aload X7.here hx rfl (hb hby d8_25) rfl rfl  k) ?_
  refine Go.step (g' := (mkF m 29 #[.val (.ref o0), .val (.ref o1), .val (.int p2), .val (.int p3), .val (.ref aw), .val (.ref at_), .val (.int (3 : Int32))] [(.int (3 : Int32)), (.ref aw)])) (fun _ k => XS.iload X7.here hx rfl (hb hby d8_27) rfl  k) ?_
  refine Go.step (g' := (mkF m 30 #[.val (.ref o0), .val (.ref o1), .val (.int p2), .val (.int p3), .val (.ref aw), .val (.ref at_), .val (.int (3 : Int32))] [(.int (3 : Int32)), (.ref aw), (.int (3 : Int32)), (.ref aw)])) (fun _ k => Jvm.Free.XT.dup2 X7.here hx rfl (hb hby d8_29) rfl rfl rfl k) ?_
  refine Go.step (g' := (mkF m 31 #[.val (.ref o0), .val (.ref o1), .val (.int p2), .val (.int p3), .val (.ref aw), .val (.ref at_), .val (.int (3 : Int32))] [(.double ((upd (upd (upd gw (0 : Int32).toNatClampNeg (FP.dsub (gw 0) (gt 0))) (1 : Int32).toNatClampNeg (FP.dsub (gw 1) (gt 1))) (2 : Int32).toNatClampNeg (FP.dsub (gw 2) (gt 2))) (3 : Int32).toNatClampNeg)), (.int (3 : Int32)), (.ref aw)])) (fun _ k => getAD X7 hx hZ e7 V7 (j := (3 : Int32)) (by decide) (gf := (mkF m 30 #[.val (.ref o0), .val (.ref o1), .val (.int p2), .val (.int p3), .val (.ref aw), .val (.ref at_), .val (.int (3 : Int32))] [(.int (3 : Int32)), (.ref aw), (.int (3 : Int32)), (.ref aw)])) rfl rfl (hb hby d8_30) k) ?_
  rw [show ((upd (upd (upd gw (0 : Int32).toNatClampNeg (FP.dsub (gw 0) (gt 0))) (1 : Int32).toNatClampNeg (FP.dsub (gw 1) (gt 1))) (2 : Int32).toNatClampNeg (FP.dsub (gw 2) (gt 2))) (3 : Int32).toNatClampNeg) = (gw 3) from rfl]
  refine Go.step (g' := (mkF m 33 #[.val (.ref o0), .val (.ref o1), .val (.int p2), .val (.int p3), .val (.ref aw), .val (.ref at_), .val (.int (3 : Int32))] [(.ref at_), (.double (gw 3)), (.int (3 : Int32)), (.ref aw)])) (fun _ k => XS.aload X7.here hx rfl (hb hby d8_31) rfl rfl  k) ?_
  refine Go.step (g' := (mkF m 35 #[.val (.ref o0), .val (.ref o1), .val (.int p2), .val (.int p3), .val (.ref aw), .val (.ref at_), .val (.int (3 : Int32))] [(.int (3 : Int32)), (.ref at_), (.double (gw 3)), (.int (3 : Int32)), (.ref aw)])) (fun _ k => XS.iload X7.here hx rfl (hb hby d8_33) rfl  k) ?_
  refine Go.step (g' := (mkF m 36 #[.val (.ref o0), .val (.ref o1), .val (.int p2), .val (.int p3), .val (.ref aw), .val (.ref at_), .val (.int (3 : Int32))] [(.double (gt (3 : Int32).toNatClampNeg)), (.double (gw 3)), (.int (3 : Int32)), (.ref aw)])) (fun _ k => getAD X7 hx hZ e7 Q10 (j := (3 : Int32)) (by decide) (gf := (mkF m 35 #[.val (.ref o0), .val (.ref o1), .val (.int p2), .val (.int p3), .val (.ref aw), .val (.ref at_), .val (.int (3 : Int32))] [(.int (3 : Int32)), (.ref at_), (.double (gw 3)), (.int (3 : Int32)), (.ref aw)])) rfl rfl (hb hby d8_35) k) ?_
  rw [show (gt (3 : Int32).toNatClampNeg) = (gt 3) from rfl]
  refine Go.step (g' := (mkF m 37 #[.val (.ref o0), .val (.ref o1), .val (.int p2), .val (.int p3), .val (.ref aw), .val (.ref at_), .val (.int (3 : Int32))] [(.double (FP.dsub (gw 3) (gt 3))), (.int (3 : Int32)), (.ref aw)])) (fun _ k => XS.dsubS X7.here hx rfl (hb hby d8_36) rfl (hnan 3) rfl k) ?_
  obtain ⟨T12, h12, lc12, X12, e12, W12, N12, V12, st12⟩ := putAD X7 hx hZ e7 V7 (j := (3 : Int32)) (by decide) N7 g_aw (gf := (mkF m 37 #[.val (.ref o0), .val (.ref o1), .val (.int p2), .val (.int p3), .val (.ref aw), .val (.ref at_), .val (.int (3 : Int32))] [(.double (FP.dsub (gw 3) (gt 3))), (.int (3 : Int32)), (.ref aw)])) rfl rfl (hb hby d8_37)
  refine Go.step (g' := (mkF m 38 #[.val (.ref o0), .val (.ref o1), .val (.int p2), .val (.int p3), .val (.ref aw), .val (.ref at_), .val (.int (3 : Int32))] [])) st12 ?_
  have Q13 := (Nat.le_trans (Nat.le_trans Q6 (Keep.of_wr W7).1) (Keep.of_wr W12).1)
  refine Go.step (g' := (mkF m 41 #[.val (.ref o0), .val (.ref o1), .val (.int p2), .val (.int p3), .val (.ref aw), .val (.ref at_), .val (.int ((3 : Int32) + (1 : Int32)))] [])) (fun _ k => XS.iinc X12.here hx rfl (hb hby d8_38) rfl (l' := #[.val (.ref o0), .val (.ref o1), .val (.int p2), .val (.int p3), .val (.ref aw), .val (.ref at_), .val (.int ((3 : Int32) + (1 : Int32)))]) rfl k) ?_
  rw [show ((3 : Int32) + (1 : Int32)) = (4 : Int32) from by decide]
  refine Go.step (g' := (mkF m 17 #[.val (.ref o0), .val (.ref o1), .val (.int p2), .val (.int p3), .val (.ref aw), .val (.ref at_), .val (.int (4 : Int32))] [])) (fun _ k => XS.goto X12.here hx rfl (pc0 := 41) (pc' := 17) rfl (hb hby d8_41) (by decide) (by decide) k) ?_
  skip
  refine Go.step (g' := (mkF m 19 #[.val (.ref o0), .val (.ref o1), .val (.int p2), .val (.int p3), .val (.ref aw), .val (.ref at_), .val (.int (4 : Int32))] [(.int (4 : Int32))])) (fun _ k => XS.iload X12.here hx rfl (hb hby d8_17) rfl  k) ?_
  refine Go.step (g' := (mkF m 20 #[.val (.ref o0), .val (.ref o1), .val (.int p2), .val (.int p3), .val (.ref aw), .val (.ref at_), .val (.int (4 : Int32))] [(.int (2 : Int32)), (.int (4 : Int32))])) (fun _ k => XS.iconst X12.here hx rfl (hb hby d8_19) k) ?_
  refine Go.step (g' := (mkF m 21 #[.val (.ref o0), .val (.ref o1), .val (.int p2), .val (.int p3), .val (.ref aw), .val (.ref at_), .val (.int (4 : Int32))] [(.int p3), (.int (2 : Int32)), (.int (4 : Int32))])) (fun _ k => XS.iloadN X12.here hx rfl (hb hby d8_20) rfl  k) ?_
  refine Go.step (g' := (mkF m 22 #[.val (.ref o0), .val (.ref o1), .val (.int p2), .val (.int p3), .val (.ref aw), .val (.ref at_), .val (.int (4 : Int32))] [(.int ((2 : Int32) * p3)), (.int (4 : Int32))])) (fun _ k => XS.imul X12.here hx rfl (hb hby d8_21) rfl k) ?_
  rw [show ((2 : Int32) * p3) = (8 : Int32) from by rw [hl]; decide]
  refine Go.step (g' := (mkF m 25 #[.val (.ref o0), .val (.ref o1), .val (.int p2), .val (.int p3), .val (.ref aw), .val (.ref at_), .val (.int (4 : Int32))] [])) (fun _ k => XS.icmpNo X12.here hx rfl (hb hby d8_22) rfl (tlt (by decide : (4 : Int32) < (8 : Int32))).2.1 k) ?_
  skip
  refine Go.step (g' := (mkF m 27 #[.val (.ref o0), .val (.ref o1), .val (.int p2), .val (.int p3), .val (.ref aw), .val (.ref at_), .val (.int (4 : Int32))] [(.ref aw)])) (fun _ k => XS.aload X12.here hx rfl (hb hby d8_25) rfl rfl  k) ?_
  refine Go.step (g' := (mkF m 29 #[.val (.ref o0), .val (.ref o1), .val (.int p2), .val (.int p3), .val (.ref aw), .val (.ref at_), .val (.int (4 : Int32))] [(.int (4 : Int32)), (.ref aw)])) (fun _ k => XS.iload X12.here hx rfl (hb hby d8_27) rfl  k) ?_
  refine Go.step (g' := (mkF m 30 #[.val (.ref o0), .val (.ref o1), .val (.int p2), .val (.int p3), .val (.ref aw), .val (.ref at_), .val (.int (4 : Int32))] [(.int (4 : Int32)), (.ref aw), (.int (4 : Int32)), (.ref aw)])) (fun _ k => Jvm.Free.XT.dup2 X12.here hx rfl (hb hby d8_29) rfl rfl rfl k) ?_
  refine Go.step (g' := (mkF m 31 #[.val (.ref o0), .val (.ref o1), .val (.int p2), .val (.int p3), .val (.ref aw), .val (.ref at_), .val (.int (4 : Int32))] [(.double ((upd (upd (upd (upd gw (0 : Int32).toNatClampNeg (FP.dsub (gw 0) (gt 0))) (1 : Int32).toNatClampNeg (FP.dsub (gw 1) (gt 1))) (2 : Int32).toNatClampNeg (FP.dsub (gw 2) (gt 2))) (3 : Int32).toNatClampNeg (FP.dsub (gw 3) (gt 3))) (4 : Int32).toNatClampNeg)), (.int (4 : Int32)), (.ref aw)])) (fun _ k => getAD X12 hx hZ e12 V12 (j := (4 : Int32)) (by decide) (gf := (mkF m 30 #[.val (.ref o0), .val (.ref o1), .val (.int p2), .val (.int p3), .val (.ref aw), .val (.ref at_), .val (.int (4 : Int32))] [(.int (4 : Int32)), (.ref aw), (.int (4 : Int32)), (.ref aw)])) rfl rfl (hb hby d8_30) k) ?_
  rw [show ((upd (upd (upd (upd gw (0 : Int32).toNatClampNeg (FP.dsub (gw 0) (gt 0))) (1 : Int32).toNatClampNeg (FP.dsub (gw 1) (gt 1))) (2 : Int32).toNatClampNeg (FP.dsub (gw 2) (gt 2))) (3 : Int32).toNatClampNeg (FP.dsub (gw 3) (gt 3))) (4 : Int32).toNatClampNeg) = (gw 4) from rfl]
  refine Go.step (g' := (mkF m 33 #[.val (.ref o0), .val (.ref o1), .val (.int p2), .val (.int p3), .val (.ref aw), .val (.ref at_), .val (.int (4 : Int32))] [(.ref at_), (.double (gw 4)), (.int (4 : Int32)), (.ref aw)])) (fun _ k => XS.aload X12.here hx rfl (hb hby d8_31) rfl rfl  k) ?_
  refine Go.step (g' := (mkF m 35 #[.val (.ref o0), .val (.ref o1), .val (.int p2), .val (.int p3), .val (.ref aw), .val (.ref at_), .val (.int (4 : Int32))] [(.int (4 : Int32)), (.ref at_), (.double (gw 4)), (.int (4 : Int32)), (.ref aw)])) (fun _ k => XS.iload X12.here hx rfl (hb hby d8_33) rfl  k) ?_
  refine Go.step (g' := (mkF m 36 #[.val (.ref o0), .val (.ref o1), .val (.int p2), .val (.int p3), .val (.ref aw), .val (.ref at_), .val (.int (4 : Int32))] [(.double (gt (4 : Int32).toNatClampNeg)), (.double (gw 4)), (.int (4 : Int32)), (.ref aw)])) (fun _ k => getAD X12 hx hZ e12 (Q10.other W12 (Ne.symm n3)) (j := (4 : Int32)) (by decide) (gf := (mkF m 35 #[.val (.ref o0), .val (.ref o1), .val (.int p2), .val (.int p3), .val (.ref aw), .val (.ref at_), .val (.int (4 : Int32))] [(.int (4 : Int32)), (.ref at_), (.double (gw 4)), (.int (4 : Int32)), (.ref aw)])) rfl rfl (hb hby d8_35) k) ?_
  rw [show (gt (4 : Int32).toNatClampNeg) = (gt 4) from rfl]
  refine Go.step (g' := (mkF m 37 #[.val (.ref o0), .val (.ref o1), .val (.int p2), .val (.int p3), .val (.ref aw), .val (.ref at_), .val (.int (4 : Int32))] [(.double (FP.dsub (gw 4) (gt 4))), (.int (4 : Int32)), (.ref aw)])) (fun _ k => XS.dsubS X12.here hx rfl (hb hby d8_36) rfl (hnan 4) rfl k) ?_
  obtain ⟨T14, h14, lc14, X14, e14, W14, N14, V14, st14⟩ := putAD X12 hx hZ e12 V12 (j := (4 : Int32)) (by decide) N12 g_aw (gf := (mkF m 37 #[.val (.ref o0), .val (.ref o1), .val (.int p2), .val (.int p3), .val (.ref aw), .val (.ref at_), .val (.int (4 : Int32))] [(.double (FP.dsub (gw 4) (gt 4))), (.int (4 : Int32)), (.ref aw)])) rfl rfl (hb hby d8_37)
  refine Go.step (g' := (mkF m 38 #[.val (.ref o0), .val (.ref o1), .val (.int p2), .val (.int p3), .val (.ref aw), .val (.ref at_), .val (.int (4 : Int32))] [])) st14 ?_
  have Q15 := ((Q11.wr W12 (Or.inl (List.mem_of_getElem? (i := 0) rfl))).wr W14 (Or.inl (List.mem_of_getElem? (i := 0) rfl)))
  refine Go.step (g' := (mkF m 41 #[.val (.ref o0), .val (.ref o1), .val (.int p2), .val (.int p3), .val (.ref aw), .val (.ref at_), .val (.int ((4 : Int32) + (1 : Int32)))] [])) (fun _ k => XS.iinc X14.here hx rfl (hb hby d8_38) rfl (l' := #[.val (.ref o0), .val (.ref o1), .val (.int p2), .val (.int p3), .val (.ref aw), .val (.ref at_), .val (.int ((4 : Int32) + (1 : Int32)))]) rfl k) ?_
  rw [show ((4 : Int32) + (1 : Int32)) = (5 : Int32) from by decide]
  refine Go.step (g' := (mkF m 17 #[.val (.ref o0), .val (.ref o1), .val (.int p2), .val (.int p3), .val (.ref aw), .val (.ref at_), .val (.int (5 : Int32))] [])) (fun _ k => XS.goto X14.here hx rfl (pc0 := 41) (pc' := 17) rfl (hb hby d8_41) (by decide) (by decide) k) ?_
  skip
  refine Go.step (g' := (mkF m 19 #[.val (.ref o0), .val (.ref o1), .val (.int p2), .val (.int p3), .val (.ref aw), .val (.ref at_), .val (.int (5 : Int32))] [(.int (5 : Int32))])) (fun _ k => XS.iload X14.here hx rfl (hb hby d8_17) rfl  k) ?_
  refine Go.step (g' := (mkF m 20 #[.val (.ref o0), .val (.ref o1), .val (.int p2), .val (.int p3), .val (.ref aw), .val (.ref at_), .val (.int (5 : Int32))] [(.int (2 : Int32)), (.int (5 : Int32))])) (fun _ k => XS.iconst X14.here hx rfl (hb hby d8_19) k) ?_
  refine Go.step (g' := (mkF m 21 #[.val (.ref o0), .val (.ref o1), .val (.int p2), .val (.int p3), .val (.ref aw), .val (.ref at_), .val (.int (5 : Int32))] [(.int p3), (.int (2 : Int32)), (.int (5 : Int32))])) (fun _ k => XS.iloadN X14.here hx rfl (hb hby d8_20) rfl  k) ?_
  refine Go.step (g' := (mkF m 22 #[.val (.ref o0), .val (.ref o1), .val (.int p2), .val (.int p3), .val (.ref aw), .val (.ref at_), .val (.int (5 : Int32))] [(.int ((2 : Int32) * p3)), (.int (5 : Int32))])) (fun _ k => XS.imul X14.here hx rfl (hb hby d8_21) rfl k) ?_
  rw [show ((2 : Int32) * p3) = (8 : Int32) from by rw [hl]; decide]
  refine Go.step (g' := (mkF m 25 #[.val (.ref o0), .val (.ref o1), .val (.int p2), .val (.int p3), .val (.ref aw), .val (.ref at_), .val (.int (5 : Int32))] [])) (fun _ k => XS.icmpNo X14.here hx rfl (hb hby d8_22) rfl (tlt (by decide : (5 : Int32) < (8 : Int32))).2.1 k) ?_
  skip
  refine Go.step (g' := (mkF m 27 #[.val (.ref o0), .val (.ref o1), .val (.int p2), .val (.int p3), .val (.ref aw), .val (.ref at_), .val (.int (5 : Int32))] [(.ref aw)])) (fun _ k => XS.aload X14.here hx rfl (hb hby d8_25) rfl rfl  k) ?_
  refine Go.step (g' := (mkF m 29 #[.val (.ref o0), .val (.ref o1), .val (.int p2), .val (.int p3), .val (.ref aw), .val (.ref at_), .val (.int (5 : Int32))] [(.int (5 : Int32)), (.ref aw)])) (fun _ k => XS.iload X14.here hx rfl (hb hby d8_27) rfl  k) ?_
  refine Go.step (g' := (mkF m 30 #[.val (.ref o0), .val (.ref o1), .val (.int p2), .val (.int p3), .val (.ref aw), .val (.ref at_), .val (.int (5 : Int32))] [(.int (5 : Int32)), (.ref aw), (.int (5 : Int32)), (.ref aw)])) (fun _ k => Jvm.Free.XT.dup2 X14.here hx rfl (hb hby d8_29) rfl rfl rfl k) ?_
  refine Go.step (g' := (mkF m 31 #[.val (.ref o0), .val (.ref o1), .val (.int p2), .val (.int p3), .val (.ref aw), .val (.ref at_), .val (.int (5 : Int32))] [(.double ((upd (upd (upd (upd (upd gw (0 : Int32).toNatClampNeg (FP.dsub (gw 0) (gt 0))) (1 : Int32).toNatClampNeg (FP.dsub (gw 1) (gt 1))) (2 : Int32).toNatClampNeg (FP.dsub (gw 2) (gt 2))) (3 : Int32).toNatClampNeg (FP.dsub (gw 3) (gt 3))) (4 : Int32).toNatClampNeg (FP.dsub (gw 4) (gt 4))) (5 : Int32).toNatClampNeg)), (.int (5 : Int32)), (.ref aw)])) (fun _ k => getAD X14 hx hZ e14 V14 (j := (5 : Int32)) (by decide) (gf := (mkF m 30 #[.val (.ref o0), .val (.ref o1), .val (.int p2), .val (.int p3), .val (.ref aw), .val (.ref at_), .val (.int (5 : Int32))] [(.int (5 : Int32)), (.ref aw), (.int (5 : Int32)), (.ref aw)])) rfl rfl (hb hby d8_30) k) ?_
  rw [show ((upd (upd (upd (upd (upd gw (0 : Int32).toNatClampNeg (FP.dsub (gw 0) (gt 0))) (1 : Int32).toNatClampNeg (FP.dsub (gw 1) (gt 1))) (2 : Int32).toNatClampNeg (FP.dsub (gw 2) (gt 2))) (3 : Int32).toNatClampNeg (FP.dsub (gw 3) (gt 3))) (4 : Int32).toNatClampNeg (FP.dsub (gw 4) (gt 4))) (5 : Int32).toNatClampNeg) = (gw 5) from rfl]
  refine Go.step (g' := (mkF m 33 #[.val (.ref o0), .val (.ref o1), .val (.int p2), .val (.int p3), .val (.ref aw), .val (.ref at_), .val (.int (5 : Int32))] [(.ref at_), (.double (gw 5)), (.int (5 : Int32)), (.ref aw)])) (fun _ k => XS.aload X14.here hx rfl (hb hby d8_31) rfl rfl  k) ?_
  refine Go.step (g' := (mkF m 35 #[.val (.ref o0), .val (.ref o1), .val (.int p2), .val (.int p3), .val (.ref aw), .val (.ref at_), .val (.int (5 : Int32))] [(.int (5 : Int32)), (.ref at_), (.double (gw 5)), (.int (5 : Int32)), (.ref aw)])) (fun _ k => XS.iload X14.here hx rfl (hb hby d8_33) rfl  k) ?_
  refine Go.step (g' := (mkF m 36 #[.val (.ref o0), .val (.ref o1), .val (.int p2), .val (.int p3), .val (.ref aw), .val (.ref at_), .val (.int (5 : Int32))] [(.double (gt (5 : Int32).toNatClampNeg)), (.double (gw 5)), (.int (5 : Int32)), (.ref aw)])) (fun _ k => getAD X14 hx hZ e14 ((Q10.other W12 (Ne.symm n3)).other W14 (Ne.symm n3)) (j := (5 : Int32)) (by decide) (gf := (mkF m 35 #[.val (.ref o0), .val (.ref o1), .val (.int p2), .val (.int p3), .val (.ref aw), .val (.ref at_), .val (.int (5 : Int32))] [(.int (5 : Int32)), (.ref at_), (.double (gw 5)), (.int (5 : Int32)), (.ref aw)])) rfl rfl (hb hby d8_35) k) ?_
  rw [show (gt (5 : Int32).toNatClampNeg) = (gt 5) from rfl]
  refine Go.step (g' := (mkF m 37 #[.val (.ref o0), .val (.ref o1), .val (.int p2), .val (.int p3), .val (.ref aw), .val (.ref at_), .val (.int (5 : Int32))] [(.double (FP.dsub (gw 5) (gt 5))), (.int (5 : Int32)), (.ref aw)])) (fun _ k => XS.dsubS X14.here hx rfl (hb hby d8_36) rfl (hnan 5) rfl k) ?_
  obtain ⟨T16, h16, lc16, X16, e16, W16, N16, V16, st16⟩ := putAD X14 hx hZ e14 V14 (j := (5 : Int32)) (by decide) N14 g_aw (gf := (mkF m 37 #[.val (.ref o0), .val (.ref o1), .val (.int p2), .val (.int p3), .val (.ref aw), .val (.ref at_), .val (.int (5 : Int32))] [(.double (FP.dsub (gw 5) (gt 5))), (.int (5 : Int32)), (.ref aw)])) rfl rfl (hb hby d8_37)
  refine Go.step (g' := (mkF m 38 #[.val (.ref o0), .val (.ref o1), .val (.int p2), .val (.int p3), .val (.ref aw), .val (.ref at_), .val (.int (5 : Int32))] [])) st16 ?_
  have Q17 := (((Q8.other W12 (Or.inl n1)).other W14 (Or.inl n1)).other W16 (Or.inl n1))
  have Q18 := (((Q9.other W12 (Or.inl n2)).other W14 (Or.inl n2)).other W16 (Or.inl n2))
  have Q19 := (((Q10.other W12 (Ne.symm n3)).other W14 (Ne.symm n3)).other W16 (Ne.symm n3))
  have Q20 := (Nat.le_trans (Nat.le_trans Q13 (Keep.of_wr W14).1) (Keep.of_wr W16).1)
  refine Go.step (g' := (mkF m 41 #[.val (.ref o0), .val (.ref o1), .val (.int p2), .val (.int p3), .val (.ref aw), .val (.ref at_), .val (.int ((5 : Int32) + (1 : Int32)))] [])) (fun _ k => XS.iinc X16.here hx rfl (hb hby d8_38) rfl (l' := #[.val (.ref o0), .val (.ref o1), .val (.int p2), .val (.int p3), .val (.ref aw), .val (.ref at_), .val (.int ((5 : Int32) + (1 : Int32)))]) rfl k) ?_
  rw [show ((5 : Int32) + (1 : Int32)) = (6 : Int32) from by decide]
  refine Go.step (g' := (mkF m 17 #[.val (.ref o0), .val (.ref o1), .val (.int p2), .val (.int p3), .val (.ref aw), .val (.ref at_), .val (.int (6 : Int32))] [])) (fun _ k => XS.goto X16.here hx rfl (pc0 := 41) (pc' := 17) rfl (hb hby d8_41) (by decide) (by decide) k) ?_
  skip
  refine Go.step (g' := (mkF m 19 #[.val (.ref o0), .val (.ref o1), .val (.int p2), .val (.int p3), .val (.ref aw), .val (.ref at_), .val (.int (6 : Int32))] [(.int (6 : Int32))])) (fun _ k => XS.iload X16.here hx rfl (hb hby d8_17) rfl  k) ?_
  refine Go.step (g' := (mkF m 20 #[.val (.ref o0), .val (.ref o1), .val (.int p2), .val (.int p3), .val (.ref aw), .val (.ref at_), .val (.int (6 : Int32))] [(.int (2 : Int32)), (.int (6 : Int32))])) (fun _ k => XS.iconst X16.here hx rfl (hb hby d8_19) k) ?_
  refine Go.step (g' := (mkF m 21 #[.val (.ref o0), .val (.ref o1), .val (.int p2), .val (.int p3), .val (.ref aw), .val (.ref at_), .val (.int (6 : Int32))] [(.int p3), (.int (2 : Int32)), (.int (6 : Int32))])) (fun _ k => XS.iloadN X16.here hx rfl (hb hby d8_20) rfl  k) ?_
  refine Go.step (g' := (mkF m 22 #[.val (.ref o0), .val (.ref o1), .val (.int p2), .val (.int p3), .val (.ref aw), .val (.ref at_), .val (.int (6 : Int32))] [(.int ((2 : Int32) * p3)), (.int (6 : Int32))])) (fun _ k => XS.imul X16.here hx rfl (hb hby d8_21) rfl k) ?_
  rw [show ((2 : Int32) * p3) = (8 : Int32) from by rw [hl]; decide]
  refine Go.step (g' := (mkF m 25 #[.val (.ref o0), .val (.ref o1), .val (.int p2), .val (.int p3), .val (.ref aw), .val (.ref at_), .val (.int (6 : Int32))] [])) (fun _ k => XS.icmpNo X16.here hx rfl (hb hby d8_22) rfl (tlt (by decide : (6 : Int32) < (8 : Int32))).2.1 k) ?_
  skip
  refine Go.step (g' := (mkF m 27 #[.val (.ref o0), .val (.ref o1), .val (.int p2), .val (.int p3), .val (.ref aw), .val (.ref at_), .val (.int (6 : Int32))] [(.ref aw)])) (fun _ k => XS.aload X16.here hx rfl (hb hby d8_25) rfl rfl  k) ?_
  refine Go.step (g' := (mkF m 29 #[.val (.ref o0), .val (.ref o1), .val (.int p2), .val (.int p3), .val (.ref aw), .val (.ref at_), .val (.int (6 : Int32))] [(.int (6 : Int32)), (.ref aw)])) (fun _ k => XS.iload X16.here hx rfl (hb hby d8_27) rfl  k) ?_
  refine Go.step (g' := (mkF m 30 #[.val (.ref o0), .val (.ref o1), .val (.int p2), .val (.int p3), .val (.ref aw), .val (.ref at_), .val (.int (6 : Int32))] [(.int (6 : Int32)), (.ref aw), (.int (6 : Int32)), (.ref aw)])) (fun _ k => Jvm.Free.XT.dup2 X16.here hx rfl (hb hby d8_29) rfl rfl rfl k) ?_
  refine Go.step (g' := (mkF m 31 #[.val (.ref o0), .val (.ref o1), .val (.int p2), .val (.int p3), .val (.ref aw), .val (.ref at_), .val (.int (6 : Int32))] [(.double ((upd (upd (upd (upd (upd (upd gw (0 : Int32).toNatClampNeg (FP.dsub (gw 0) (gt 0))) (1 : Int32).toNatClampNeg (FP.dsub (gw 1) (gt 1))) (2 : Int32).toNatClampNeg (FP.dsub (gw 2) (gt 2))) (3 : Int32).toNatClampNeg (FP.dsub (gw 3) (gt 3))) (4 : Int32).toNatClampNeg (FP.dsub (gw 4) (gt 4))) (5 : Int32).toNatClampNeg (FP.dsub (gw 5) (gt 5))) (6 : Int32).toNatClampNeg)), (.int (6 : Int32)), (.ref aw)])) (fun _ k => getAD X16 hx hZ e16 V16 (j := (6 : Int32)) (by decide) (gf := (mkF m 30 #[.val (.ref o0), .val (.ref o1), .val (.int p2), .val (.int p3), .val (.ref aw), .val (.ref at_), .val (.int (6 : Int32))] [(.int (6 : Int32)), (.ref aw), (.int (6 : Int32)), (.ref aw)])) rfl rfl (hb hby d8_30) k) ?_
  rw [show ((upd (upd (upd (upd (upd (upd gw (0 : Int32).toNatClampNeg (FP.dsub (gw 0) (gt 0))) (1 : Int32).toNatClampNeg (FP.dsub (gw 1) (gt 1))) (2 : Int32).toNatClampNeg (FP.dsub (gw 2) (gt 2))) (3 : Int32).toNatClampNeg (FP.dsub (gw 3) (gt 3))) (4 : Int32).toNatClampNeg (FP.dsub (gw 4) (gt 4))) (5 : Int32).toNatClampNeg (FP.dsub (gw 5) (gt 5))) (6 : Int32).toNatClampNeg) = (gw 6) from rfl]
  refine Go.step (g' := (mkF m 33 #[.val (.ref o0), .val (.ref o1), .val (.int p2), .val (.int p3), .val (.ref aw), .val (.ref at_), .val (.int (6 : Int32))] [(.ref at_), (.double (gw 6)), (.int (6 : Int32)), (.ref aw)])) (fun _ k => XS.aload X16.here hx rfl (hb hby d8_31) rfl rfl  k) ?_
  refine Go.step (g' := (mkF m 35 #[.val (.ref o0), .val (.ref o1), .val (.int p2), .val (.int p3), .val (.ref aw), .val (.ref at_), .val (.int (6 : Int32))] [(.int (6 : Int32)), (.ref at_), (.double (gw 6)), (.int (6 : Int32)), (.ref aw)])) (fun _ k => XS.iload X16.here hx rfl (hb hby d8_33) rfl  k) ?_
  refine Go.step (g' := (mkF m 36 #[.val (.ref o0), .val (.ref o1), .val (.int p2), .val (.int p3), .val (.ref aw), .val (.ref at_), .val (.int (6 : Int32))] [(.double (gt (6 : Int32).toNatClampNeg)), (.double (gw 6)), (.int (6 : Int32)), (.ref aw)])) (fun _ k => getAD X16 hx hZ e16 Q19 (j := (6 : Int32)) (by decide) (gf := (mkF m 35 #[.val (.ref o0), .val (.ref o1), .val (.int p2), .val (.int p3), .val (.ref aw), .val (.ref at_), .val (.int (6 : Int32))] [(.int (6 : Int32)), (.ref at_), (.double (gw 6)), (.int (6 : Int32)), (.ref aw)])) rfl rfl (hb hby d8_35) k) ?_
  rw [show (gt (6 : Int32).toNatClampNeg) = (gt 6) from rfl]
  refine Go.step (g' := (mkF m 37 #[.val (.ref o0), .val (.ref o1), .val (.int p2), .val (.int p3), .val (.ref aw), .val (.ref at_), .val (.int (6 : Int32))] [(.double (FP.dsub (gw 6) (gt 6))), (.int (6 : Int32)), (.ref aw)])) (fun _ k => XS.dsubS X16.here hx rfl (hb hby d8_36) rfl (hnan 6) rfl k) ?_
  obtain ⟨T21, h21, lc21, X21, e21, W21, N21, V21, st21⟩ := putAD X16 hx hZ e16 V16 (j := (6 : Int32)) (by decide) N16 g_aw (gf := (mkF m 37 #[.val (.ref o0), .val (.ref o1), .val (.int p2), .val (.int p3), .val (.ref aw), .val (.ref at_), .val (.int (6 : Int32))] [(.double (FP.dsub (gw 6) (gt 6))), (.int (6 : Int32)), (.ref aw)])) rfl rfl (hb hby d8_37)
  refine Go.step (g' := (mkF m 38 #[.val (.ref o0), .val (.ref o1), .val (.int p2), .val (.int p3), .val (.ref aw), .val (.ref at_), .val (.int (6 : Int32))] [])) st21 ?_
  have Q22 := ((Q15.wr W16 (Or.inl (List.mem_of_getElem? (i := 0) rfl))).wr W21 (Or.inl (List.mem_of_getElem? (i := 0) rfl)))
  refine Go.step (g' := (mkF m 41 #[.val (.ref o0), .val (.ref o1), .val (.int p2), .val (.int p3), .val (.ref aw), .val (.ref at_), .val (.int ((6 : Int32) + (1 : Int32)))] [])) (fun _ k => XS.iinc X21.here hx rfl (hb hby d8_38) rfl (l' := #[.val (.ref o0), .val (.ref o1), .val (.int p2), .val (.int p3), .val (.ref aw), .val (.ref at_), .val (.int ((6 : Int32) + (1 : Int32)))]) rfl k) ?_
  rw [show ((6 : Int32) + (1 : Int32)) = (7 : Int32) from by decide]
  refine Go.step (g' := (mkF m 17 #[.val (.ref o0), .val (.ref o1), .val (.int p2), .val (.int p3), .val (.ref aw), .val (.ref at_), .val (.int (7 : Int32))] [])) (fun _ k => XS.goto X21.here hx rfl (pc0 := 41) (pc' := 17) rfl (hb hby d8_41) (by decide) (by decide) k) ?_
  skip
  refine Go.step (g' := (mkF m 19 #[.val (.ref o0), .val (.ref o1), .val (.int p2), .val (.int p3), .val (.ref aw), .val (.ref at_), .val (.int (7 : Int32))] [(.int (7 : Int32))])) (fun _ k => XS.iload X21.here hx rfl (hb hby d8_17) rfl  k) ?_
  refine Go.step (g' := (mkF m 20 #[.val (.ref o0), .val (.ref o1), .val (.int p2), .val (.int p3), .val (.ref aw), .val (.ref at_), .val (.int (7 : Int32))] [(.int (2 : Int32)), (.int (7 : Int32))])) (fun _ k => XS.iconst X21.here hx rfl (hb hby d8_19) k) ?_
  refine Go.step (g' := (mkF m 21 #[.val (.ref o0), .val (.ref o1), .val (.int p2), .val (.int p3), .val (.ref aw), .val (.ref at_), .val (.int (7 : Int32))] [(.int p3), (.int (2 : Int32)), (.int (7 : Int32))])) (fun _ k => XS.iloadN X21.here hx rfl (hb hby d8_20) rfl  k) ?_
  refine Go.step (g' := (mkF m 22 #[.val (.ref o0), .val (.ref o1), .val (.int p2), .val (.int p3), .val (.ref aw), .val (.ref at_), .val (.int (7 : Int32))] [(.int ((2 : Int32) * p3)), (.int (7 : Int32))])) (fun _ k => XS.imul X21.here hx rfl (hb hby d8_21) rfl k) ?_
  rw [show ((2 : Int32) * p3) = (8 : Int32) from by rw [hl]; decide]
  refine Go.step (g' := (mkF m 25 #[.val (.ref o0), .val (.ref o1), .val (.int p2), .val (.int p3), .val (.ref aw), .val (.ref at_), .val (.int (7 : Int32))] [])) (fun _ k => XS.icmpNo X21.here hx rfl (hb hby d8_22) rfl (tlt (by decide : (7 : Int32) < (8 : Int32))).2.1 k) ?_
  skip
  refine Go.step (g' := (mkF m 27 #[.val (.ref o0), .val (.ref o1), .val (.int p2), .val (.int p3), .val (.ref aw), .val (.ref at_), .val (.int (7 : Int32))] [(.ref aw)])) (fun _ k => XS.aload X21.here hx rfl (hb hby d8_25) rfl rfl  k) ?_
  refine Go.step (g' := (mkF m 29 #[.val (.ref o0), .val (.ref o1), .val (.int p2), .val (.int p3), .val (.ref aw), .val (.ref at_), .val (.int (7 : Int32))] [(.int (7 : Int32)), (.ref aw)])) (fun _ k => XS.iload X21.here hx rfl (hb hby d8_27) rfl  k) ?_
  refine Go.step (g' := (mkF m 30 #[.val (.ref o0), .val (.ref o1), .val (.int p2), .val (.int p3), .val (.ref aw), .val (.ref at_), .val (.int (7 : Int32))] [(.int (7 : Int32)), (.ref aw), (.int (7 : Int32)), (.ref aw)])) (fun _ k => Jvm.Free.XT.dup2 X21.here hx rfl (hb hby d8_29) rfl rfl rfl k) ?_
  refine Go.step (g' := (mkF m 31 #[.val (.ref o0), .val (.ref o1), .val (.int p2), .val (.int p3), .val (.ref aw), .val (.ref at_), .val (.int (7 : Int32))] [(.double ((upd (upd (upd (upd (upd (upd (upd gw (0 : Int32).toNatClampNeg (FP.dsub (gw 0) (gt 0))) (1 : Int32).toNatClampNeg (FP.dsub (gw 1) (gt 1))) (2 : Int32).toNatClampNeg (FP.dsub (gw 2) (gt 2))) (3 : Int32).toNatClampNeg (FP.dsub (gw 3) (gt 3))) (4 : Int32).toNatClampNeg (FP.dsub (gw 4) (gt 4))) (5 : Int32).toNatClampNeg (FP.dsub (gw 5) (gt 5))) (6 : Int32).toNatClampNeg (FP.dsub (gw 6) (gt 6))) (7 : Int32).toNatClampNeg)), (.int (7 : Int32)), (.ref aw)])) (fun _ k => getAD X21 hx hZ e21 V21 (j := (7 : Int32)) (by decide) (gf := (mkF m 30 #[.val (.ref o0), .val (.ref o1), .val (.int p2), .val (.int p3), .val (.ref aw), .val (.ref at_), .val (.int (7 : Int32))] [(.int (7 : Int32)), (.ref aw), (.int (7 : Int32)), (.ref aw)])) rfl rfl (hb hby d8_30) k) ?_
  rw [show ((upd (upd (upd (upd (upd (upd (upd gw (0 : Int32).toNatClampNeg (FP.dsub (gw 0) (gt 0))) (1 : Int32).toNatClampNeg (FP.dsub (gw 1) (gt 1))) (2 : Int32).toNatClampNeg (FP.dsub (gw 2) (gt 2))) (3 : Int32).toNatClampNeg (FP.dsub (gw 3) (gt 3))) (4 : Int32).toNatClampNeg (FP.dsub (gw 4) (gt 4))) (5 : Int32).toNatClampNeg (FP.dsub (gw 5) (gt 5))) (6 : Int32).toNatClampNeg (FP.dsub (gw 6) (gt 6))) (7 : Int32).toNatClampNeg) = (gw 7) from rfl]
  refine Go.step (g' := (mkF m 33 #[.val (.ref o0), .val (.ref o1), .val (.int p2), .val (.int p3), .val (.ref aw), .val (.ref at_), .val (.int (7 : Int32))] [(.ref at_), (.double (gw 7)), (.int (7 : Int32)), (.ref aw)])) (fun _ k => XS.aload X21.here hx rfl (hb hby d8_31) rfl rfl  k) ?_
  refine Go.step (g' := (mkF m 35 #[.val (.ref o0), .val (.ref o1), .val (.int p2), .val (.int p3), .val (.ref aw), .val (.ref at_), .val (.int (7 : Int32))] [(.int (7 : Int32)), (.ref at_), (.double (gw 7)), (.int (7 : Int32)), (.ref aw)])) (fun _ k => XS.iload X21.here hx rfl (hb hby d8_33) rfl  k) ?_
  refine Go.step (g' := (mkF m 36 #[.val (.ref o0), .val (.ref o1), .val (.int p2), .val (.int p3), .val (.ref aw), .val (.ref at_), .val (.int (7 : Int32))] [(.double (gt (7 : Int32).toNatClampNeg)), (.double (gw 7)), (.int (7 : Int32)), (.ref aw)])) (fun _ k => getAD X21 hx hZ e21 (Q19.other W21 (Ne.symm n3)) (j := (7 : Int32)) (by decide) (gf := (mkF m 35 #[.val (.ref o0), .val (.ref o1), .val (.int p2), .val (.int p3), .val (.ref aw), .val (.ref at_), .val (.int (7 : Int32))] [(.int (7 : Int32)), (.ref at_), (.double (gw 7)), (.int (7 : Int32)), (.ref aw)])) rfl rfl (hb hby d8_35) k) ?_
  rw [show (gt (7 : Int32).toNatClampNeg) = (gt 7) from rfl]
  refine Go.step (g' := (mkF m 37 #[.val (.ref o0), .val (.ref o1), .val (.int p2), .val (.int p3), .val (.ref aw), .val (.ref at_), .val (.int (7 : Int32))] [(.double (FP.dsub (gw 7) (gt 7))), (.int (7 : Int32)), (.ref aw)])) (fun _ k => XS.dsubS X21.here hx rfl (hb hby d8_36) rfl (hnan 7) rfl k) ?_
  obtain ⟨T23, h23, lc23, X23, e23, W23, N23, V23, st23⟩ := putAD X21 hx hZ e21 V21 (j := (7 : Int32)) (by decide) N21 g_aw (gf := (mkF m 37 #[.val (.ref o0), .val (.ref o1), .val (.int p2), .val (.int p3), .val (.ref aw), .val (.ref at_), .val (.int (7 : Int32))] [(.double (FP.dsub (gw 7) (gt 7))), (.int (7 : Int32)), (.ref aw)])) rfl rfl (hb hby d8_37)
  refine Go.step (g' := (mkF m 38 #[.val (.ref o0), .val (.ref o1), .val (.int p2), .val (.int p3), .val (.ref aw), .val (.ref at_), .val (.int (7 : Int32))] [])) st23 ?_
  have Q24 := (Nat.le_trans (Nat.le_trans Q20 (Keep.of_wr W21).1) (Keep.of_wr W23).1)
  refine Go.step (g' := (mkF m 41 #[.val (.ref o0), .val (.ref o1), .val (.int p2), .val (.int p3), .val (.ref aw), .val (.ref at_), .val (.int ((7 : Int32) + (1 : Int32)))] [])) (fun _ k => XS.iinc X23.here hx rfl (hb hby d8_38) rfl (l' := #[.val (.ref o0), .val (.ref o1), .val (.int p2), .val (.int p3), .val (.ref aw), .val (.ref at_), .val (.int ((7 : Int32) + (1 : Int32)))]) rfl k) ?_
  rw [show ((7 : Int32) + (1 : Int32)) = (8 : Int32) from by decide]
  refine Go.step (g' := (mkF m 17 #[.val (.ref o0), .val (.ref o1), .val (.int p2), .val (.int p3), .val (.ref aw), .val (.ref at_), .val (.int (8 : Int32))] [])) (fun _ k => XS.goto X23.here hx rfl (pc0 := 41) (pc' := 17) rfl (hb hby d8_41) (by decide) (by decide) k) ?_
  skip
  refine Go.step (g' := (mkF m 19 #[.val (.ref o0), .val (.ref o1), .val (.int p2), .val (.int p3), .val (.ref aw), .val (.ref at_), .val (.int (8 : Int32))] [(.int (8 : Int32))])) (fun _ k => XS.iload X23.here hx rfl (hb hby d8_17) rfl  k) ?_
  refine Go.step (g' := (mkF m 20 #[.val (.ref o0), .val (.ref o1), .val (.int p2), .val (.int p3), .val (.ref aw), .val (.ref at_), .val (.int (8 : Int32))] [(.int (2 : Int32)), (.int (8 : Int32))])) (fun _ k => XS.iconst X23.here hx rfl (hb hby d8_19) k) ?_
  refine Go.step (g' := (mkF m 21 #[.val (.ref o0), .val (.ref o1), .val (.int p2), .val (.int p3), .val (.ref aw), .val (.ref at_), .val (.int (8 : Int32))] [(.int p3), (.int (2 : Int32)), (.int (8 : Int32))])) (fun _ k => XS.iloadN X23.here hx rfl (hb hby d8_20) rfl  k) ?_
  refine Go.step (g' := (mkF m 22 #[.val (.ref o0), .val (.ref o1), .val (.int p2), .val (.int p3), .val (.ref aw), .val (.ref at_), .val (.int (8 : Int32))] [(.int ((2 : Int32) * p3)), (.int (8 : Int32))])) (fun _ k => XS.imul X23.here hx rfl (hb hby d8_21) rfl k) ?_
  rw [show ((2 : Int32) * p3) = (8 : Int32) from by rw [hl]; decide]
  refine Go.step (g' := (mkF m 44 #[.val (.ref o0), .val (.ref o1), .val (.int p2), .val (.int p3), .val (.ref aw), .val (.ref at_), .val (.int (8 : Int32))] [])) (fun _ k => XS.icmpYes X23.here hx rfl (pc0 := 22) (pc' := 44) rfl (hb hby d8_22) rfl (flt (by decide : ¬ ((8 : Int32) < (8 : Int32)))).2.1 (by decide) (by decide) k) ?_
  skip
  exact Go.ret0 X23 hx hlk Bd.returns (hb hby d8_44) (by decide) (by decide) (by rw [e23]; exact ⟨rfl, N23, (Q22.wr W23 (Or.inl (List.mem_of_getElem? (i := 0) rfl))), V23.cong (fun k hk => by rw [hf, hl]; match k, hk with | 0, _ => rfl | 1, _ => rfl | 2, _ => rfl | 3, _ => rfl | 4, _ => rfl | 5, _ => rfl | 6, _ => rfl | 7, _ => rfl)⟩)

set_option maxRecDepth 65536 in
set_option maxHeartbeats 40000000 in
theorem rm8w11 (l : Launch) (Z : State) (a0 : Array Value) (hw : ∀ d ∈ tables_1, d.before a0 Z = true) (ws : List Jvm.Cond) (o0 : Addr) (o1 : Addr) (p2 : Int32) (p3 : Int32) (aw : Addr) (at_ : Addr) (gw : Nat → UInt64) (gt : Nat → UInt64) (h0 : Heap) (n0 : Nat) (Z0 : n0 ≤ h0.size) (F0 : Fld Z h0 o0 "com/example/rhadamanthus/rhadamanthus/learn/Histogram" "cells" "[D" (.ref aw)) (F1 : Fld Z h0 o1 "com/example/rhadamanthus/rhadamanthus/learn/Histogram" "cells" "[D" (.ref at_)) (A_w : IA Z h0 aw .double 8 (fun k => .double (gw k))) (A_t : IA Z h0 at_ .double 8 (fun k => .double (gt k))) (n1 : o0 ≠ aw) (n2 : o1 ≠ aw) (n3 : aw ≠ at_) (g_aw : n0 ≤ aw) (hnan : ∀ k, Jvm.Free.Fl.NoNaN64 (FP.dsub (gw k) (gt k))) (hf : p2 = (1 : Int32)) (hl : p3 = (1 : Int32)) :
    MetFree l (⟨"com/example/rhadamanthus/rhadamanthus/learn/Histogram", "subtractColumns", "(Lcom/example/rhadamanthus/rhadamanthus/learn/Histogram;II)V"⟩ : MethodName) (head1 (Jvm.Cond.code (⟨"com/example/rhadamanthus/rhadamanthus/learn/Histogram", "subtractColumns", "(Lcom/example/rhadamanthus/rhadamanthus/learn/Histogram;II)V"⟩ : MethodName) prog_64_method_10_code 7 none :: ws) ({ frames := 0, cells := 0, slots := 0, locals := 0 } : Room)) (fun a U => a = #[(.ref o0), (.ref o1), (.int p2), (.int p3)] ∧ Z.Warmed39 U.vm ∧ U.heap = h0) (fun _ _ _ _ _ => True) (fun _ U o U' => ∃ v L, o = .returned v ∧ (QA Z aw (fun k => if 2 * p2.toNatClampNeg ≤ k ∧ k < 2 * p3.toNatClampNeg then FP.dsub (gw k) (gt k) else gw k) h0 n0) v U'.heap L ∧ FrameEnd U o U' L ({ frames := 0, cells := 0, slots := 0, locals := 0 } : Room).cells ({ frames := 0, cells := 0, slots := 0, locals := 0 } : Room).slots) := by
  refine MetFree.of_bodySF (plainFor_of_name pn_8) hisR ?_
  intro p e s m args below meth c s₁ Bd hml0 hP hK
  obtain ⟨rfl, hZ, hh⟩ := hP
  have hx := Bd.exec
  have hby := Bd.bytes
  have hlk : meth.locks = false := BodyLoose.notSynchronized Bd
  have hml : c.maxLocals = 7 := hml0
  have hown : s.vm.findClass "com/example/rhadamanthus/rhadamanthus/learn/Histogram" = some m.cls := findClass_of_methodNamed Bd.named
  have hnm := (name_of_methodNamed Bd.named Bd.method).1
  have X0 : Stand p l e ({ frames := 0, cells := 0, slots := 0, locals := 0 } : Room) s m #[(.ref o0), (.ref o1), (.int p2), (.int p3)] below meth c s₁ ([] : List Loc) 0 0 := Stand.of_body Bd
  have e0 : s₁.heap = h0 := by rw [← hh, Bd.state]; rfl
  show Go p e below s 0 0 (QA Z aw (fun k => if 2 * p2.toNatClampNeg ≤ k ∧ k < 2 * p3.toNatClampNeg then FP.dsub (gw k) (gt k) else gw k) h0 n0) s₁ (entryFrame m #[(.ref o0), (.ref o1), (.int p2), (.int p3)] 7)
  rw [ef_8 m o0 o1 p2 p3]
  have N0 := Fr.nil n0
  refine Go.step (g' := (mkF m 1 #[.val (.ref o0), .val (.ref o1), .val (.int p2), .val (.int p3), .unset, .unset, .unset] [(.ref o0)])) (fun _ k => XS.aloadN X0.here hx rfl (hb hby d8_0) rfl rfl  k) ?_
  obtain ⟨T1, X1, e1, st1⟩ := getF X0 hx hZ hown (host := "") (Or.inl (hw _ (List.mem_of_getElem? (i := 10) rfl))) Via.refl e0 F0 (g := (mkF m 1 #[.val (.ref o0), .val (.ref o1), .val (.int p2), .val (.int p3), .unset, .unset, .unset] [(.ref o0)])) rfl rfl (hb hby d8_1)
  refine Go.step (g' := (mkF m 4 #[.val (.ref o0), .val (.ref o1), .val (.int p2), .val (.int p3), .unset, .unset, .unset] [(.ref aw)])) st1 ?_
  refine Go.step (g' := (mkF m 6 #[.val (.ref o0), .val (.ref o1), .val (.int p2), .val (.int p3), .val (.ref aw), .unset, .unset] [])) (fun _ k => XS.astore X1.here hx rfl (hb hby d8_4) rfl rfl (l' := #[.val (.ref o0), .val (.ref o1), .val (.int p2), .val (.int p3), .val (.ref aw), .unset, .unset]) rfl k) ?_
  refine Go.step (g' := (mkF m 7 #[.val (.ref o0), .val (.ref o1), .val (.int p2), .val (.int p3), .val (.ref aw), .unset, .unset] [(.ref o1)])) (fun _ k => XS.aloadN X1.here hx rfl (hb hby d8_6) rfl rfl  k) ?_
  obtain ⟨T2, X2, e2, st2⟩ := getF X1 hx hZ hown (host := "") (Or.inl (hw _ (List.mem_of_getElem? (i := 10) rfl))) Via.refl e1 F1 (g := (mkF m 7 #[.val (.ref o0), .val (.ref o1), .val (.int p2), .val (.int p3), .val (.ref aw), .unset, .unset] [(.ref o1)])) rfl rfl (hb hby d8_7)
  refine Go.step (g' := (mkF m 10 #[.val (.ref o0), .val (.ref o1), .val (.int p2), .val (.int p3), .val (.ref aw), .unset, .unset] [(.ref at_)])) st2 ?_
  refine Go.step (g' := (mkF m 12 #[.val (.ref o0), .val (.ref o1), .val (.int p2), .val (.int p3), .val (.ref aw), .val (.ref at_), .unset] [])) (fun _ k => XS.astore X2.here hx rfl (hb hby d8_10) rfl rfl (l' := #[.val (.ref o0), .val (.ref o1), .val (.int p2), .val (.int p3), .val (.ref aw), .val (.ref at_), .unset]) rfl k) ?_
  refine Go.step (g' := (mkF m 13 #[.val (.ref o0), .val (.ref o1), .val (.int p2), .val (.int p3), .val (.ref aw), .val (.ref at_), .unset] [(.int (2 : Int32))])) (fun _ k => XS.iconst X2.here hx rfl (hb hby d8_12) k) ?_
  refine Go.step (g' := (mkF m 14 #[.val (.ref o0), .val (.ref o1), .val (.int p2), .val (.int p3), .val (.ref aw), .val (.ref at_), .unset] [(.int p2), (.int (2 : Int32))])) (fun _ k => XS.iloadN X2.here hx rfl (hb hby d8_13) rfl  k) ?_
  refine Go.step (g' := (mkF m 15 #[.val (.ref o0), .val (.ref o1), .val (.int p2), .val (.int p3), .val (.ref aw), .val (.ref at_), .unset] [(.int ((2 : Int32) * p2))])) (fun _ k => XS.imul X2.here hx rfl (hb hby d8_14) rfl k) ?_
  rw [show ((2 : Int32) * p2) = (2 : Int32) from by rw [hf]; decide]
  refine Go.step (g' := (mkF m 17 #[.val (.ref o0), .val (.ref o1), .val (.int p2), .val (.int p3), .val (.ref aw), .val (.ref at_), .val (.int (2 : Int32))] [])) (fun _ k => XS.istore X2.here hx rfl (hb hby d8_15) rfl (l' := #[.val (.ref o0), .val (.ref o1), .val (.int p2), .val (.int p3), .val (.ref aw), .val (.ref at_), .val (.int (2 : Int32))]) rfl k) ?_
  skip
  refine Go.step (g' := (mkF m 19 #[.val (.ref o0), .val (.ref o1), .val (.int p2), .val (.int p3), .val (.ref aw), .val (.ref at_), .val (.int (2 : Int32))] [(.int (2 : Int32))])) (fun _ k => XS.iload X2.here hx rfl (hb hby d8_17) rfl  k) ?_
  refine Go.step (g' := (mkF m 20 #[.val (.ref o0), .val (.ref o1), .val (.int p2), .val (.int p3), .val (.ref aw), .val (.ref at_), .val (.int (2 : Int32))] [(.int (2 : Int32)), (.int (2 : Int32))])) (fun _ k => XS.iconst X2.here hx rfl (hb hby d8_19) k) ?_
  refine Go.step (g' := (mkF m 21 #[.val (.ref o0), .val (.ref o1), .val (.int p2), .val (.int p3), .val (.ref aw), .val (.ref at_), .val (.int (2 : Int32))] [(.int p3), (.int (2 : Int32)), (.int (2 : Int32))])) (fun _ k => XS.iloadN X2.here hx rfl (hb hby d8_20) rfl  k) ?_
  refine Go.step (g' := (mkF m 22 #[.val (.ref o0), .val (.ref o1), .val (.int p2), .val (.int p3), .val (.ref aw), .val (.ref at_), .val (.int (2 : Int32))] [(.int ((2 : Int32) * p3)), (.int (2 : Int32))])) (fun _ k => XS.imul X2.here hx rfl (hb hby d8_21) rfl k) ?_
  rw [show ((2 : Int32) * p3) = (2 : Int32) from by rw [hl]; decide]
  refine Go.step (g' := (mkF m 44 #[.val (.ref o0), .val (.ref o1), .val (.int p2), .val (.int p3), .val (.ref aw), .val (.ref at_), .val (.int (2 : Int32))] [])) (fun _ k => XS.icmpYes X2.here hx rfl (pc0 := 22) (pc' := 44) rfl (hb hby d8_22) rfl (flt (by decide : ¬ ((2 : Int32) < (2 : Int32)))).2.1 (by decide) (by decide) k) ?_
  skip
  exact Go.ret0 X2 hx hlk Bd.returns (hb hby d8_44) (by decide) (by decide) (by rw [e2]; exact ⟨rfl, N0, (Keep.refl h0 [aw]), A_w.cong (fun k hk => by rw [hf, hl]; match k, hk with | 0, _ => rfl | 1, _ => rfl | 2, _ => rfl | 3, _ => rfl | 4, _ => rfl | 5, _ => rfl | 6, _ => rfl | 7, _ => rfl)⟩)

set_option maxRecDepth 65536 in
set_option maxHeartbeats 40000000 in
theorem rm8w12 (l : Launch) (Z : State) (a0 : Array Value) (hw : ∀ d ∈ tables_1, d.before a0 Z = true) (ws : List Jvm.Cond) (o0 : Addr) (o1 : Addr) (p2 : Int32) (p3 : Int32) (aw : Addr) (at_ : Addr) (gw : Nat → UInt64) (gt : Nat → UInt64) (h0 : Heap) (n0 : Nat) (Z0 : n0 ≤ h0.size) (F0 : Fld Z h0 o0 "com/example/rhadamanthus/rhadamanthus/learn/Histogram" "cells" "[D" (.ref aw)) (F1 : Fld Z h0 o1 "com/example/rhadamanthus/rhadamanthus/learn/Histogram" "cells" "[D" (.ref at_)) (A_w : IA Z h0 aw .double 8 (fun k => .double (gw k))) (A_t : IA Z h0 at_ .double 8 (fun k => .double (gt k))) (n1 : o0 ≠ aw) (n2 : o1 ≠ aw) (n3 : aw ≠ at_) (g_aw : n0 ≤ aw) (hnan : ∀ k, Jvm.Free.Fl.NoNaN64 (FP.dsub (gw k) (gt k))) (hf : p2 = (1 : Int32)) (hl : p3 = (2 : Int32)) :
    MetFree l (⟨"com/example/rhadamanthus/rhadamanthus/learn/Histogram", "subtractColumns", "(Lcom/example/rhadamanthus/rhadamanthus/learn/Histogram;II)V"⟩ : MethodName) (head1 (Jvm.Cond.code (⟨"com/example/rhadamanthus/rhadamanthus/learn/Histogram", "subtractColumns", "(Lcom/example/rhadamanthus/rhadamanthus/learn/Histogram;II)V"⟩ : MethodName) prog_64_method_10_code 7 none :: ws) ({ frames := 0, cells := 0, slots := 0, locals := 0 } : Room)) (fun a U => a = #[(.ref o0), (.ref o1), (.int p2), (.int p3)] ∧ Z.Warmed39 U.vm ∧ U.heap = h0) (fun _ _ _ _ _ => True) (fun _ U o U' => ∃ v L, o = .returned v ∧ (QA Z aw (fun k => if 2 * p2.toNatClampNeg ≤ k ∧ k < 2 * p3.toNatClampNeg then FP.dsub (gw k) (gt k) else gw k) h0 n0) v U'.heap L ∧ FrameEnd U o U' L ({ frames := 0, cells := 0, slots := 0, locals := 0 } : Room).cells ({ frames := 0, cells := 0, slots := 0, locals := 0 } : Room).slots) := by
  refine MetFree.of_bodySF (plainFor_of_name pn_8) hisR ?_
  intro p e s m args below meth c s₁ Bd hml0 hP hK
  obtain ⟨rfl, hZ, hh⟩ := hP
  have hx := Bd.exec
  have hby := Bd.bytes
  have hlk : meth.locks = false := BodyLoose.notSynchronized Bd
  have hml : c.maxLocals = 7 := hml0
  have hown : s.vm.findClass "com/example/rhadamanthus/rhadamanthus/learn/Histogram" = some m.cls := findClass_of_methodNamed Bd.named
  have hnm := (name_of_methodNamed Bd.named Bd.method).1
  have X0 : Stand p l e ({ frames := 0, cells := 0, slots := 0, locals := 0 } : Room) s m #[(.ref o0), (.ref o1), (.int p2), (.int p3)] below meth c s₁ ([] : List Loc) 0 0 := Stand.of_body Bd
  have e0 : s₁.heap = h0 := by rw [← hh, Bd.state]; rfl
  show Go p e below s 0 0 (QA Z aw (fun k => if 2 * p2.toNatClampNeg ≤ k ∧ k < 2 * p3.toNatClampNeg then FP.dsub (gw k) (gt k) else gw k) h0 n0) s₁ (entryFrame m #[(.ref o0), (.ref o1), (.int p2), (.int p3)] 7)
  rw [ef_8 m o0 o1 p2 p3]
  have N0 := Fr.nil n0
  refine Go.step (g' := (mkF m 1 #[.val (.ref o0), .val (.ref o1), .val (.int p2), .val (.int p3), .unset, .unset, .unset] [(.ref o0)])) (fun _ k => XS.aloadN X0.here hx rfl (hb hby d8_0) rfl rfl  k) ?_
  obtain ⟨T1, X1, e1, st1⟩ := getF X0 hx hZ hown (host := "") (Or.inl (hw _ (List.mem_of_getElem? (i := 10) rfl))) Via.refl e0 F0 (g := (mkF m 1 #[.val (.ref o0), .val (.ref o1), .val (.int p2), .val (.int p3), .unset, .unset, .unset] [(.ref o0)])) rfl rfl (hb hby d8_1)
  refine Go.step (g' := (mkF m 4 #[.val (.ref o0), .val (.ref o1), .val (.int p2), .val (.int p3), .unset, .unset, .unset] [(.ref aw)])) st1 ?_
  refine Go.step (g' := (mkF m 6 #[.val (.ref o0), .val (.ref o1), .val (.int p2), .val (.int p3), .val (.ref aw), .unset, .unset] [])) (fun _ k => XS.astore X1.here hx rfl (hb hby d8_4) rfl rfl (l' := #[.val (.ref o0), .val (.ref o1), .val (.int p2), .val (.int p3), .val (.ref aw), .unset, .unset]) rfl k) ?_
  refine Go.step (g' := (mkF m 7 #[.val (.ref o0), .val (.ref o1), .val (.int p2), .val (.int p3), .val (.ref aw), .unset, .unset] [(.ref o1)])) (fun _ k => XS.aloadN X1.here hx rfl (hb hby d8_6) rfl rfl  k) ?_
  obtain ⟨T2, X2, e2, st2⟩ := getF X1 hx hZ hown (host := "") (Or.inl (hw _ (List.mem_of_getElem? (i := 10) rfl))) Via.refl e1 F1 (g := (mkF m 7 #[.val (.ref o0), .val (.ref o1), .val (.int p2), .val (.int p3), .val (.ref aw), .unset, .unset] [(.ref o1)])) rfl rfl (hb hby d8_7)
  refine Go.step (g' := (mkF m 10 #[.val (.ref o0), .val (.ref o1), .val (.int p2), .val (.int p3), .val (.ref aw), .unset, .unset] [(.ref at_)])) st2 ?_
  refine Go.step (g' := (mkF m 12 #[.val (.ref o0), .val (.ref o1), .val (.int p2), .val (.int p3), .val (.ref aw), .val (.ref at_), .unset] [])) (fun _ k => XS.astore X2.here hx rfl (hb hby d8_10) rfl rfl (l' := #[.val (.ref o0), .val (.ref o1), .val (.int p2), .val (.int p3), .val (.ref aw), .val (.ref at_), .unset]) rfl k) ?_
  refine Go.step (g' := (mkF m 13 #[.val (.ref o0), .val (.ref o1), .val (.int p2), .val (.int p3), .val (.ref aw), .val (.ref at_), .unset] [(.int (2 : Int32))])) (fun _ k => XS.iconst X2.here hx rfl (hb hby d8_12) k) ?_
  refine Go.step (g' := (mkF m 14 #[.val (.ref o0), .val (.ref o1), .val (.int p2), .val (.int p3), .val (.ref aw), .val (.ref at_), .unset] [(.int p2), (.int (2 : Int32))])) (fun _ k => XS.iloadN X2.here hx rfl (hb hby d8_13) rfl  k) ?_
  refine Go.step (g' := (mkF m 15 #[.val (.ref o0), .val (.ref o1), .val (.int p2), .val (.int p3), .val (.ref aw), .val (.ref at_), .unset] [(.int ((2 : Int32) * p2))])) (fun _ k => XS.imul X2.here hx rfl (hb hby d8_14) rfl k) ?_
  rw [show ((2 : Int32) * p2) = (2 : Int32) from by rw [hf]; decide]
  refine Go.step (g' := (mkF m 17 #[.val (.ref o0), .val (.ref o1), .val (.int p2), .val (.int p3), .val (.ref aw), .val (.ref at_), .val (.int (2 : Int32))] [])) (fun _ k => XS.istore X2.here hx rfl (hb hby d8_15) rfl (l' := #[.val (.ref o0), .val (.ref o1), .val (.int p2), .val (.int p3), .val (.ref aw), .val (.ref at_), .val (.int (2 : Int32))]) rfl k) ?_
  skip
  refine Go.step (g' := (mkF m 19 #[.val (.ref o0), .val (.ref o1), .val (.int p2), .val (.int p3), .val (.ref aw), .val (.ref at_), .val (.int (2 : Int32))] [(.int (2 : Int32))])) (fun _ k => XS.iload X2.here hx rfl (hb hby d8_17) rfl  k) ?_
  refine Go.step (g' := (mkF m 20 #[.val (.ref o0), .val (.ref o1), .val (.int p2), .val (.int p3), .val (.ref aw), .val (.ref at_), .val (.int (2 : Int32))] [(.int (2 : Int32)), (.int (2 : Int32))])) (fun _ k => XS.iconst X2.here hx rfl (hb hby d8_19) k) ?_
  refine Go.step (g' := (mkF m 21 #[.val (.ref o0), .val (.ref o1), .val (.int p2), .val (.int p3), .val (.ref aw), .val (.ref at_), .val (.int (2 : Int32))] [(.int p3), (.int (2 : Int32)), (.int (2 : Int32))])) (fun _ k => XS.iloadN X2.here hx rfl (hb hby d8_20) rfl  k) ?_
  refine Go.step (g' := (mkF m 22 #[.val (.ref o0), .val (.ref o1), .val (.int p2), .val (.int p3), .val (.ref aw), .val (.ref at_), .val (.int (2 : Int32))] [(.int ((2 : Int32) * p3)), (.int (2 : Int32))])) (fun _ k => XS.imul X2.here hx rfl (hb hby d8_21) rfl k) ?_
  rw [show ((2 : Int32) * p3) = (4 : Int32) from by rw [hl]; decide]
  refine Go.step (g' := (mkF m 25 #[.val (.ref o0), .val (.ref o1), .val (.int p2), .val (.int p3), .val (.ref aw), .val (.ref at_), .val (.int (2 : Int32))] [])) (fun _ k => XS.icmpNo X2.here hx rfl (hb hby d8_22) rfl (tlt (by decide : (2 : Int32) < (4 : Int32))).2.1 k) ?_
  skip
  refine Go.step (g' := (mkF m 27 #[.val (.ref o0), .val (.ref o1), .val (.int p2), .val (.int p3), .val (.ref aw), .val (.ref at_), .val (.int (2 : Int32))] [(.ref aw)])) (fun _ k => XS.aload X2.here hx rfl (hb hby d8_25) rfl rfl  k) ?_
  refine Go.step (g' := (mkF m 29 #[.val (.ref o0), .val (.ref o1), .val (.int p2), .val (.int p3), .val (.ref aw), .val (.ref at_), .val (.int (2 : Int32))] [(.int (2 : Int32)), (.ref aw)])) (fun _ k => XS.iload X2.here hx rfl (hb hby d8_27) rfl  k) ?_
  refine Go.step (g' := (mkF m 30 #[.val (.ref o0), .val (.ref o1), .val (.int p2), .val (.int p3), .val (.ref aw), .val (.ref at_), .val (.int (2 : Int32))] [(.int (2 : Int32)), (.ref aw), (.int (2 : Int32)), (.ref aw)])) (fun _ k => Jvm.Free.XT.dup2 X2.here hx rfl (hb hby d8_29) rfl rfl rfl k) ?_
  refine Go.step (g' := (mkF m 31 #[.val (.ref o0), .val (.ref o1), .val (.int p2), .val (.int p3), .val (.ref aw), .val (.ref at_), .val (.int (2 : Int32))] [(.double (gw (2 : Int32).toNatClampNeg)), (.int (2 : Int32)), (.ref aw)])) (fun _ k => getAD X2 hx hZ e2 A_w (j := (2 : Int32)) (by decide) (gf := (mkF m 30 #[.val (.ref o0), .val (.ref o1), .val (.int p2), .val (.int p3), .val (.ref aw), .val (.ref at_), .val (.int (2 : Int32))] [(.int (2 : Int32)), (.ref aw), (.int (2 : Int32)), (.ref aw)])) rfl rfl (hb hby d8_30) k) ?_
  rw [show (gw (2 : Int32).toNatClampNeg) = (gw 2) from rfl]
  refine Go.step (g' := (mkF m 33 #[.val (.ref o0), .val (.ref o1), .val (.int p2), .val (.int p3), .val (.ref aw), .val (.ref at_), .val (.int (2 : Int32))] [(.ref at_), (.double (gw 2)), (.int (2 : Int32)), (.ref aw)])) (fun _ k => XS.aload X2.here hx rfl (hb hby d8_31) rfl rfl  k) ?_
  refine Go.step (g' := (mkF m 35 #[.val (.ref o0), .val (.ref o1), .val (.int p2), .val (.int p3), .val (.ref aw), .val (.ref at_), .val (.int (2 : Int32))] [(.int (2 : Int32)), (.ref at_), (.double (gw 2)), (.int (2 : Int32)), (.ref aw)])) (fun _ k => XS.iload X2.here hx rfl (hb hby d8_33) rfl  k) ?_
  refine Go.step (g' := (mkF m 36 #[.val (.ref o0), .val (.ref o1), .val (.int p2), .val (.int p3), .val (.ref aw), .val (.ref at_), .val (.int (2 : Int32))] [(.double (gt (2 : Int32).toNatClampNeg)), (.double (gw 2)), (.int (2 : Int32)), (.ref aw)])) (fun _ k => getAD X2 hx hZ e2 A_t (j := (2 : Int32)) (by decide) (gf := (mkF m 35 #[.val (.ref o0), .val (.ref o1), .val (.int p2), .val (.int p3), .val (.ref aw), .val (.ref at_), .val (.int (2 : Int32))] [(.int (2 : Int32)), (.ref at_), (.double (gw 2)), (.int (2 : Int32)), (.ref aw)])) rfl rfl (hb hby d8_35) k) ?_
  rw [show (gt (2 : Int32).toNatClampNeg) = (gt 2) from rfl]
  refine Go.step (g' := (mkF m 37 #[.val (.ref o0), .val (.ref o1), .val (.int p2), .val (.int p3), .val (.ref aw), .val (.ref at_), .val (.int (2 : Int32))] [(.double (FP.dsub (gw 2) (gt 2))), (.int (2 : Int32)), (.ref aw)])) (fun _ k => XS.dsubS X2.here hx rfl (hb hby d8_36) rfl (hnan 2) rfl k) ?_
  obtain ⟨T3, h3, lc3, X3, e3, W3, N3, V3, st3⟩ := putAD X2 hx hZ e2 A_w (j := (2 : Int32)) (by decide) N0 g_aw (gf := (mkF m 37 #[.val (.ref o0), .val (.ref o1), .val (.int p2), .val (.int p3), .val (.ref aw), .val (.ref at_), .val (.int (2 : Int32))] [(.double (FP.dsub (gw 2) (gt 2))), (.int (2 : Int32)), (.ref aw)])) rfl rfl (hb hby d8_37)
  refine Go.step (g' := (mkF m 38 #[.val (.ref o0), .val (.ref o1), .val (.int p2), .val (.int p3), .val (.ref aw), .val (.ref at_), .val (.int (2 : Int32))] [])) st3 ?_
  have Q4 := ((Keep.refl h0 [aw]).wr W3 (Or.inl (List.mem_of_getElem? (i := 0) rfl)))
  refine Go.step (g' := (mkF m 41 #[.val (.ref o0), .val (.ref o1), .val (.int p2), .val (.int p3), .val (.ref aw), .val (.ref at_), .val (.int ((2 : Int32) + (1 : Int32)))] [])) (fun _ k => XS.iinc X3.here hx rfl (hb hby d8_38) rfl (l' := #[.val (.ref o0), .val (.ref o1), .val (.int p2), .val (.int p3), .val (.ref aw), .val (.ref at_), .val (.int ((2 : Int32) + (1 : Int32)))]) rfl k) ?_
  rw [show ((2 : Int32) + (1 : Int32)) = (3 : Int32) from by decide]
  refine Go.step (g' := (mkF m 17 #[.val (.ref o0), .val (.ref o1), .val (.int p2), .val (.int p3), .val (.ref aw), .val (.ref at_), .val (.int (3 : Int32))] [])) (fun _ k => XS.goto X3.here hx rfl (pc0 := 41) (pc' := 17) rfl (hb hby d8_41) (by decide) (by decide) k) ?_
  skip
  refine Go.step (g' := (mkF m 19 #[.val (.ref o0), .val (.ref o1), .val (.int p2), .val (.int p3), .val (.ref aw), .val (.ref at_), .val (.int (3 : Int32))] [(.int (3 : Int32))])) (fun _ k => XS.iload X3.here hx rfl (hb hby d8_17) rfl  k) ?_
  refine Go.step (g' := (mkF m 20 #[.val (.ref o0), .val (.ref o1), .val (.int p2), .val (.int p3), .val (.ref aw), .val (.ref at_), .val (.int (3 : Int32))] [(.int (2 : Int32)), (.int (3 : Int32))])) (fun _ k => XS.iconst X3.here hx rfl (hb hby d8_19) k) ?_
  refine Go.step (g' := (mkF m 21 #[.val (.ref o0), .val (.ref o1), .val (.int p2), .val (.int p3), .val (.ref aw), .val (.ref at_), .val (.int (3 : Int32))] [(.int p3), (.int (2 : Int32)), (.int (3 : Int32))])) (fun _ k => XS.iloadN X3.here hx rfl (hb hby d8_20) rfl  k) ?_
  refine Go.step (g' := (mkF m 22 #[.val (.ref o0), .val (.ref o1), .val (.int p2), .val (.int p3), .val (.ref aw), .val (.ref at_), .val (.int (3 : Int32))] [(.int ((2 : Int32) * p3)), (.int (3 : Int32))])) (fun _ k => XS.imul X3.here hx rfl (hb hby d8_21) rfl k) ?_
  rw [show ((2 : Int32) * p3) = (4 : Int32) from by rw [hl]; decide]
  refine Go.step (g' := (mkF m 25 #[.val (.ref o0), .val (.ref o1), .val (.int p2), .val (.int p3), .val (.ref aw), .val (.ref at_), .val (.int (3 : Int32))] [])) (fun _ k => XS.icmpNo X3.here hx rfl (hb hby d8_22) rfl (tlt (by decide : (3 : Int32) < (4 : Int32))).2.1 k) ?_
  skip
  refine Go.step (g' := (mkF m 27 #[.val (.ref o0), .val (.ref o1), .val (.int p2), .val (.int p3), .val (.ref aw), .val (.ref at_), .val (.int (3 : Int32))] [(.ref aw)])) (fun _ k => XS.aload X3.here hx rfl (hb hby d8_25) rfl rfl  k) ?_
  refine Go.step (g' := (mkF m 29 #[.val (.ref o0), .val (.ref o1), .val (.int p2), .val (.int p3), .val (.ref aw), .val (.ref at_), .val (.int (3 : Int32))] [(.int (3 : Int32)), (.ref aw)])) (fun _ k => XS.iload X3.here hx rfl (hb hby d8_27) rfl  k) ?_
  refine Go.step (g' := (mkF m 30 #[.val (.ref o0), .val (.ref o1), .val (.int p2), .val (.int p3), .val (.ref aw), .val (.ref at_), .val (.int (3 : Int32))] [(.int (3 : Int32)), (.ref aw), (.int (3 : Int32)), (.ref aw)])) (fun _ k => Jvm.Free.XT.dup2 X3.here hx rfl (hb hby d8_29) rfl rfl rfl k) ?_
  refine Go.step (g' := (mkF m 31 #[.val (.ref o0), .val (.ref o1), .val (.int p2), .val (.int p3), .val (.ref aw), .val (.ref at_), .val (.int (3 : Int32))] [(.double ((upd gw (2 : Int32).toNatClampNeg (FP.dsub (gw 2) (gt 2))) (3 : Int32).toNatClampNeg)), (.int (3 : Int32)), (.ref aw)])) (fun _ k => getAD X3 hx hZ e3 V3 (j := (3 : Int32)) (by decide) (gf := (mkF m 30 #[.val (.ref o0), .val (.ref o1), .val (.int p2), .val (.int p3), .val (.ref aw), .val (.ref at_), .val (.int (3 : Int32))] [(.int (3 : Int32)), (.ref aw), (.int (3 : Int32)), (.ref aw)])) rfl rfl (hb hby d8_30) k) ?_
  rw [show ((upd gw (2 : Int32).toNatClampNeg (FP.dsub (gw 2) (gt 2))) (3 : Int32).toNatClampNeg) = (gw 3) from rfl]
  refine Go.step (g' := (mkF m 33 #[.val (.ref o0), .val (.ref o1), .val (.int p2), .val (.int p3), .val (.ref aw), .val (.ref at_), .val (.int (3 : Int32))] [(.ref at_), (.double (gw 3)), (.int (3 : Int32)), (.ref aw)])) (fun _ k => XS.aload X3.here hx rfl (hb hby d8_31) rfl rfl  k) ?_
  refine Go.step (g' := (mkF m 35 #[.val (.ref o0), .val (.ref o1), .val (.int p2), .val (.int p3), .val (.ref aw), .val (.ref at_), .val (.int (3 : Int32))] [(.int (3 : Int32)), (.ref at_), (.double (gw 3)), (.int (3 : Int32)), (.ref aw)])) (fun _ k => XS.iload X3.here hx rfl (hb hby d8_33) rfl  k) ?_
  refine Go.step (g' := (mkF m 36 #[.val (.ref o0), .val (.ref o1), .val (.int p2), .val (.int p3), .val (.ref aw), .val (.ref at_), .val (.int (3 : Int32))] [(.double (gt (3 : Int32).toNatClampNeg)), (.double (gw 3)), (.int (3 : Int32)), (.ref aw)])) (fun _ k => getAD X3 hx hZ e3 (A_t.other W3 (Ne.symm n3)) (j := (3 : Int32)) (by decide) (gf := (mkF m 35 #[.val (.ref o0), .val (.ref o1), .val (.int p2), .val (.int p3), .val (.ref aw), .val (.ref at_), .val (.int (3 : Int32))] [(.int (3 : Int32)), (.ref at_), (.double (gw 3)), (.int (3 : Int32)), (.ref aw)])) rfl rfl (hb hby d8_35) k) ?_
  rw [show (gt (3 : Int32).toNatClampNeg) = (gt 3) from rfl]
  refine Go.step (g' := (mkF m 37 #[.val (.ref o0), .val (.ref o1), .val (.int p2), .val (.int p3), .val (.ref aw), .val (.ref at_), .val (.int (3 : Int32))] [(.double (FP.dsub (gw 3) (gt 3))), (.int (3 : Int32)), (.ref aw)])) (fun _ k => XS.dsubS X3.here hx rfl (hb hby d8_36) rfl (hnan 3) rfl k) ?_
  obtain ⟨T5, h5, lc5, X5, e5, W5, N5, V5, st5⟩ := putAD X3 hx hZ e3 V3 (j := (3 : Int32)) (by decide) N3 g_aw (gf := (mkF m 37 #[.val (.ref o0), .val (.ref o1), .val (.int p2), .val (.int p3), .val (.ref aw), .val (.ref at_), .val (.int (3 : Int32))] [(.double (FP.dsub (gw 3) (gt 3))), (.int (3 : Int32)), (.ref aw)])) rfl rfl (hb hby d8_37)
  refine Go.step (g' := (mkF m 38 #[.val (.ref o0), .val (.ref o1), .val (.int p2), .val (.int p3), .val (.ref aw), .val (.ref at_), .val (.int (3 : Int32))] [])) st5 ?_
  have Q6 := (Nat.le_trans (Nat.le_trans Z0 (Keep.of_wr W3).1) (Keep.of_wr W5).1)
  refine Go.step (g' := (mkF m 41 #[.val (.ref o0), .val (.ref o1), .val (.int p2), .val (.int p3), .val (.ref aw), .val (.ref at_), .val (.int ((3 : Int32) + (1 : Int32)))] [])) (fun _ k => XS.iinc X5.here hx rfl (hb hby d8_38) rfl (l' := #[.val (.ref o0), .val (.ref o1), .val (.int p2), .val (.int p3), .val (.ref aw), .val (.ref at_), .val (.int ((3 : Int32) + (1 : Int32)))]) rfl k) ?_
  rw [show ((3 : Int32) + (1 : Int32)) = (4 : Int32) from by decide]
  refine Go.step (g' := (mkF m 17 #[.val (.ref o0), .val (.ref o1), .val (.int p2), .val (.int p3), .val (.ref aw), .val (.ref at_), .val (.int (4 : Int32))] [])) (fun _ k => XS.goto X5.here hx rfl (pc0 := 41) (pc' := 17) rfl (hb hby d8_41) (by decide) (by decide) k) ?_
  skip
  refine Go.step (g' := (mkF m 19 #[.val (.ref o0), .val (.ref o1), .val (.int p2), .val (.int p3), .val (.ref aw), .val (.ref at_), .val (.int (4 : Int32))] [(.int (4 : Int32))])) (fun _ k => XS.iload X5.here hx rfl (hb hby d8_17) rfl  k) ?_
  refine Go.step (g' := (mkF m 20 #[.val (.ref o0), .val (.ref o1), .val (.int p2), .val (.int p3), .val (.ref aw), .val (.ref at_), .val (.int (4 : Int32))] [(.int (2 : Int32)), (.int (4 : Int32))])) (fun _ k => XS.iconst X5.here hx rfl (hb hby d8_19) k) ?_
  refine Go.step (g' := (mkF m 21 #[.val (.ref o0), .val (.ref o1), .val (.int p2), .val (.int p3), .val (.ref aw), .val (.ref at_), .val (.int (4 : Int32))] [(.int p3), (.int (2 : Int32)), (.int (4 : Int32))])) (fun _ k => XS.iloadN X5.here hx rfl (hb hby d8_20) rfl  k) ?_
  refine Go.step (g' := (mkF m 22 #[.val (.ref o0), .val (.ref o1), .val (.int p2), .val (.int p3), .val (.ref aw), .val (.ref at_), .val (.int (4 : Int32))] [(.int ((2 : Int32) * p3)), (.int (4 : Int32))])) (fun _ k => XS.imul X5.here hx rfl (hb hby d8_21) rfl k) ?_
  rw [show ((2 : Int32) * p3) = (4 : Int32) from by rw [hl]; decide]
  refine Go.step (g' := (mkF m 44 #[.val (.ref o0), .val (.ref o1), .val (.int p2), .val (.int p3), .val (.ref aw), .val (.ref at_), .val (.int (4 : Int32))] [])) (fun _ k => XS.icmpYes X5.here hx rfl (pc0 := 22) (pc' := 44) rfl (hb hby d8_22) rfl (flt (by decide : ¬ ((4 : Int32) < (4 : Int32)))).2.1 (by decide) (by decide) k) ?_
  skip
  exact Go.ret0 X5 hx hlk Bd.returns (hb hby d8_44) (by decide) (by decide) (by rw [e5]; exact ⟨rfl, N5, (Q4.wr W5 (Or.inl (List.mem_of_getElem? (i := 0) rfl))), V5.cong (fun k hk => by rw [hf, hl]; match k, hk with | 0, _ => rfl | 1, _ => rfl | 2, _ => rfl | 3, _ => rfl | 4, _ => rfl | 5, _ => rfl | 6, _ => rfl | 7, _ => rfl)⟩)

set_option maxRecDepth 65536 in
set_option maxHeartbeats 40000000 in
theorem rm8w13 (l : Launch) (Z : State) (a0 : Array Value) (hw : ∀ d ∈ tables_1, d.before a0 Z = true) (ws : List Jvm.Cond) (o0 : Addr) (o1 : Addr) (p2 : Int32) (p3 : Int32) (aw : Addr) (at_ : Addr) (gw : Nat → UInt64) (gt : Nat → UInt64) (h0 : Heap) (n0 : Nat) (Z0 : n0 ≤ h0.size) (F0 : Fld Z h0 o0 "com/example/rhadamanthus/rhadamanthus/learn/Histogram" "cells" "[D" (.ref aw)) (F1 : Fld Z h0 o1 "com/example/rhadamanthus/rhadamanthus/learn/Histogram" "cells" "[D" (.ref at_)) (A_w : IA Z h0 aw .double 8 (fun k => .double (gw k))) (A_t : IA Z h0 at_ .double 8 (fun k => .double (gt k))) (n1 : o0 ≠ aw) (n2 : o1 ≠ aw) (n3 : aw ≠ at_) (g_aw : n0 ≤ aw) (hnan : ∀ k, Jvm.Free.Fl.NoNaN64 (FP.dsub (gw k) (gt k))) (hf : p2 = (1 : Int32)) (hl : p3 = (3 : Int32)) :
    MetFree l (⟨"com/example/rhadamanthus/rhadamanthus/learn/Histogram", "subtractColumns", "(Lcom/example/rhadamanthus/rhadamanthus/learn/Histogram;II)V"⟩ : MethodName) (head1 (Jvm.Cond.code (⟨"com/example/rhadamanthus/rhadamanthus/learn/Histogram", "subtractColumns", "(Lcom/example/rhadamanthus/rhadamanthus/learn/Histogram;II)V"⟩ : MethodName) prog_64_method_10_code 7 none :: ws) ({ frames := 0, cells := 0, slots := 0, locals := 0 } : Room)) (fun a U => a = #[(.ref o0), (.ref o1), (.int p2), (.int p3)] ∧ Z.Warmed39 U.vm ∧ U.heap = h0) (fun _ _ _ _ _ => True) (fun _ U o U' => ∃ v L, o = .returned v ∧ (QA Z aw (fun k => if 2 * p2.toNatClampNeg ≤ k ∧ k < 2 * p3.toNatClampNeg then FP.dsub (gw k) (gt k) else gw k) h0 n0) v U'.heap L ∧ FrameEnd U o U' L ({ frames := 0, cells := 0, slots := 0, locals := 0 } : Room).cells ({ frames := 0, cells := 0, slots := 0, locals := 0 } : Room).slots) := by
  refine MetFree.of_bodySF (plainFor_of_name pn_8) hisR ?_
  intro p e s m args below meth c s₁ Bd hml0 hP hK
  obtain ⟨rfl, hZ, hh⟩ := hP
  have hx := Bd.exec
  have hby := Bd.bytes
  have hlk : meth.locks = false := BodyLoose.notSynchronized Bd
  have hml : c.maxLocals = 7 := hml0
  have hown : s.vm.findClass "com/example/rhadamanthus/rhadamanthus/learn/Histogram" = some m.cls := findClass_of_methodNamed Bd.named
  have hnm := (name_of_methodNamed Bd.named Bd.method).1
  have X0 : Stand p l e ({ frames := 0, cells := 0, slots := 0, locals := 0 } : Room) s m #[(.ref o0), (.ref o1), (.int p2), (.int p3)] below meth c s₁ ([] : List Loc) 0 0 := Stand.of_body Bd
  have e0 : s₁.heap = h0 := by rw [← hh, Bd.state]; rfl
  show Go p e below s 0 0 (QA Z aw (fun k => if 2 * p2.toNatClampNeg ≤ k ∧ k < 2 * p3.toNatClampNeg then FP.dsub (gw k) (gt k) else gw k) h0 n0) s₁ (entryFrame m #[(.ref o0), (.ref o1), (.int p2), (.int p3)] 7)
  rw [ef_8 m o0 o1 p2 p3]
  have N0 := Fr.nil n0
  refine Go.step (g' := (mkF m 1 #[.val (.ref o0), .val (.ref o1), .val (.int p2), .val (.int p3), .unset, .unset, .unset] [(.ref o0)])) (fun _ k => XS.aloadN X0.here hx rfl (hb hby d8_0) rfl rfl  k) ?_
  obtain ⟨T1, X1, e1, st1⟩ := getF X0 hx hZ hown (host := "") (Or.inl (hw _ (List.mem_of_getElem? (i := 10) rfl))) Via.refl e0 F0 (g := (mkF m 1 #[.val (.ref o0), .val (.ref o1), .val (.int p2), .val (.int p3), .unset, .unset, .unset] [(.ref o0)])) rfl rfl (hb hby d8_1)
  refine Go.step (g' := (mkF m 4 #[.val (.ref o0), .val (.ref o1), .val (.int p2), .val (.int p3), .unset, .unset, .unset] [(.ref aw)])) st1 ?_
  refine Go.step (g' := (mkF m 6 #[.val (.ref o0), .val (.ref o1), .val (.int p2), .val (.int p3), .val (.ref aw), .unset, .unset] [])) (fun _ k => XS.astore X1.here hx rfl (hb hby d8_4) rfl rfl (l' := #[.val (.ref o0), .val (.ref o1), .val (.int p2), .val (.int p3), .val (.ref aw), .unset, .unset]) rfl k) ?_
  refine Go.step (g' := (mkF m 7 #[.val (.ref o0), .val (.ref o1), .val (.int p2), .val (.int p3), .val (.ref aw), .unset, .unset] [(.ref o1)])) (fun _ k => XS.aloadN X1.here hx rfl (hb hby d8_6) rfl rfl  k) ?_
  obtain ⟨T2, X2, e2, st2⟩ := getF X1 hx hZ hown (host := "") (Or.inl (hw _ (List.mem_of_getElem? (i := 10) rfl))) Via.refl e1 F1 (g := (mkF m 7 #[.val (.ref o0), .val (.ref o1), .val (.int p2), .val (.int p3), .val (.ref aw), .unset, .unset] [(.ref o1)])) rfl rfl (hb hby d8_7)
  refine Go.step (g' := (mkF m 10 #[.val (.ref o0), .val (.ref o1), .val (.int p2), .val (.int p3), .val (.ref aw), .unset, .unset] [(.ref at_)])) st2 ?_
  refine Go.step (g' := (mkF m 12 #[.val (.ref o0), .val (.ref o1), .val (.int p2), .val (.int p3), .val (.ref aw), .val (.ref at_), .unset] [])) (fun _ k => XS.astore X2.here hx rfl (hb hby d8_10) rfl rfl (l' := #[.val (.ref o0), .val (.ref o1), .val (.int p2), .val (.int p3), .val (.ref aw), .val (.ref at_), .unset]) rfl k) ?_
  refine Go.step (g' := (mkF m 13 #[.val (.ref o0), .val (.ref o1), .val (.int p2), .val (.int p3), .val (.ref aw), .val (.ref at_), .unset] [(.int (2 : Int32))])) (fun _ k => XS.iconst X2.here hx rfl (hb hby d8_12) k) ?_
  refine Go.step (g' := (mkF m 14 #[.val (.ref o0), .val (.ref o1), .val (.int p2), .val (.int p3), .val (.ref aw), .val (.ref at_), .unset] [(.int p2), (.int (2 : Int32))])) (fun _ k => XS.iloadN X2.here hx rfl (hb hby d8_13) rfl  k) ?_
  refine Go.step (g' := (mkF m 15 #[.val (.ref o0), .val (.ref o1), .val (.int p2), .val (.int p3), .val (.ref aw), .val (.ref at_), .unset] [(.int ((2 : Int32) * p2))])) (fun _ k => XS.imul X2.here hx rfl (hb hby d8_14) rfl k) ?_
  rw [show ((2 : Int32) * p2) = (2 : Int32) from by rw [hf]; decide]
  refine Go.step (g' := (mkF m 17 #[.val (.ref o0), .val (.ref o1), .val (.int p2), .val (.int p3), .val (.ref aw), .val (.ref at_), .val (.int (2 : Int32))] [])) (fun _ k => XS.istore X2.here hx rfl (hb hby d8_15) rfl (l' := #[.val (.ref o0), .val (.ref o1), .val (.int p2), .val (.int p3), .val (.ref aw), .val (.ref at_), .val (.int (2 : Int32))]) rfl k) ?_
  skip
  refine Go.step (g' := (mkF m 19 #[.val (.ref o0), .val (.ref o1), .val (.int p2), .val (.int p3), .val (.ref aw), .val (.ref at_), .val (.int (2 : Int32))] [(.int (2 : Int32))])) (fun _ k => XS.iload X2.here hx rfl (hb hby d8_17) rfl  k) ?_
  refine Go.step (g' := (mkF m 20 #[.val (.ref o0), .val (.ref o1), .val (.int p2), .val (.int p3), .val (.ref aw), .val (.ref at_), .val (.int (2 : Int32))] [(.int (2 : Int32)), (.int (2 : Int32))])) (fun _ k => XS.iconst X2.here hx rfl (hb hby d8_19) k) ?_
  refine Go.step (g' := (mkF m 21 #[.val (.ref o0), .val (.ref o1), .val (.int p2), .val (.int p3), .val (.ref aw), .val (.ref at_), .val (.int (2 : Int32))] [(.int p3), (.int (2 : Int32)), (.int (2 : Int32))])) (fun _ k => XS.iloadN X2.here hx rfl (hb hby d8_20) rfl  k) ?_
  refine Go.step (g' := (mkF m 22 #[.val (.ref o0), .val (.ref o1), .val (.int p2), .val (.int p3), .val (.ref aw), .val (.ref at_), .val (.int (2 : Int32))] [(.int ((2 : Int32) * p3)), (.int (2 : Int32))])) (fun _ k => XS.imul X2.here hx rfl (hb hby d8_21) rfl k) ?_
  rw [show ((2 : Int32) * p3) = (6 : Int32) from by rw [hl]; decide]
  refine Go.step (g' := (mkF m 25 #[.val (.ref o0), .val (.ref o1), .val (.int p2), .val (.int p3), .val (.ref aw), .val (.ref at_), .val (.int (2 : Int32))] [])) (fun _ k => XS.icmpNo X2.here hx rfl (hb hby d8_22) rfl (tlt (by decide : (2 : Int32) < (6 : Int32))).2.1 k) ?_
  skip
  refine Go.step (g' := (mkF m 27 #[.val (.ref o0), .val (.ref o1), .val (.int p2), .val (.int p3), .val (.ref aw), .val (.ref at_), .val (.int (2 : Int32))] [(.ref aw)])) (fun _ k => XS.aload X2.here hx rfl (hb hby d8_25) rfl rfl  k) ?_
  refine Go.step (g' := (mkF m 29 #[.val (.ref o0), .val (.ref o1), .val (.int p2), .val (.int p3), .val (.ref aw), .val (.ref at_), .val (.int (2 : Int32))] [(.int (2 : Int32)), (.ref aw)])) (fun _ k => XS.iload X2.here hx rfl (hb hby d8_27) rfl  k) ?_
  refine Go.step (g' := (mkF m 30 #[.val (.ref o0), .val (.ref o1), .val (.int p2), .val (.int p3), .val (.ref aw), .val (.ref at_), .val (.int (2 : Int32))] [(.int (2 : Int32)), (.ref aw), (.int (2 : Int32)), (.ref aw)])) (fun _ k => Jvm.Free.XT.dup2 X2.here hx rfl (hb hby d8_29) rfl rfl rfl k) ?_
  refine Go.step (g' := (mkF m 31 #[.val (.ref o0), .val (.ref o1), .val (.int p2), .val (.int p3), .val (.ref aw), .val (.ref at_), .val (.int (2 : Int32))] [(.double (gw (2 : Int32).toNatClampNeg)), (.int (2 : Int32)), (.ref aw)])) (fun _ k => getAD X2 hx hZ e2 A_w (j := (2 : Int32)) (by decide) (gf := (mkF m 30 #[.val (.ref o0), .val (.ref o1), .val (.int p2), .val (.int p3), .val (.ref aw), .val (.ref at_), .val (.int (2 : Int32))] [(.int (2 : Int32)), (.ref aw), (.int (2 : Int32)), (.ref aw)])) rfl rfl (hb hby d8_30) k) ?_
  rw [show (gw (2 : Int32).toNatClampNeg) = (gw 2) from rfl]
  refine Go.step (g' := (mkF m 33 #[.val (.ref o0), .val (.ref o1), .val (.int p2), .val (.int p3), .val (.ref aw), .val (.ref at_), .val (.int (2 : Int32))] [(.ref at_), (.double (gw 2)), (.int (2 : Int32)), (.ref aw)])) (fun _ k => XS.aload X2.here hx rfl (hb hby d8_31) rfl rfl  k) ?_
  refine Go.step (g' := (mkF m 35 #[.val (.ref o0), .val (.ref o1), .val (.int p2), .val (.int p3), .val (.ref aw), .val (.ref at_), .val (.int (2 : Int32))] [(.int (2 : Int32)), (.ref at_), (.double (gw 2)), (.int (2 : Int32)), (.ref aw)])) (fun _ k => XS.iload X2.here hx rfl (hb hby d8_33) rfl  k) ?_
  refine Go.step (g' := (mkF m 36 #[.val (.ref o0), .val (.ref o1), .val (.int p2), .val (.int p3), .val (.ref aw), .val (.ref at_), .val (.int (2 : Int32))] [(.double (gt (2 : Int32).toNatClampNeg)), (.double (gw 2)), (.int (2 : Int32)), (.ref aw)])) (fun _ k => getAD X2 hx hZ e2 A_t (j := (2 : Int32)) (by decide) (gf := (mkF m 35 #[.val (.ref o0), .val (.ref o1), .val (.int p2), .val (.int p3), .val (.ref aw), .val (.ref at_), .val (.int (2 : Int32))] [(.int (2 : Int32)), (.ref at_), (.double (gw 2)), (.int (2 : Int32)), (.ref aw)])) rfl rfl (hb hby d8_35) k) ?_
  rw [show (gt (2 : Int32).toNatClampNeg) = (gt 2) from rfl]
  refine Go.step (g' := (mkF m 37 #[.val (.ref o0), .val (.ref o1), .val (.int p2), .val (.int p3), .val (.ref aw), .val (.ref at_), .val (.int (2 : Int32))] [(.double (FP.dsub (gw 2) (gt 2))), (.int (2 : Int32)), (.ref aw)])) (fun _ k => XS.dsubS X2.here hx rfl (hb hby d8_36) rfl (hnan 2) rfl k) ?_
  obtain ⟨T3, h3, lc3, X3, e3, W3, N3, V3, st3⟩ := putAD X2 hx hZ e2 A_w (j := (2 : Int32)) (by decide) N0 g_aw (gf := (mkF m 37 #[.val (.ref o0), .val (.ref o1), .val (.int p2), .val (.int p3), .val (.ref aw), .val (.ref at_), .val (.int (2 : Int32))] [(.double (FP.dsub (gw 2) (gt 2))), (.int (2 : Int32)), (.ref aw)])) rfl rfl (hb hby d8_37)
  refine Go.step (g' := (mkF m 38 #[.val (.ref o0), .val (.ref o1), .val (.int p2), .val (.int p3), .val (.ref aw), .val (.ref at_), .val (.int (2 : Int32))] [])) st3 ?_
  have Q4 := ((Keep.refl h0 [aw]).wr W3 (Or.inl (List.mem_of_getElem? (i := 0) rfl)))
  refine Go.step (g' := (mkF m 41 #[.val (.ref o0), .val (.ref o1), .val (.int p2), .val (.int p3), .val (.ref aw), .val (.ref at_), .val (.int ((2 : Int32) + (1 : Int32)))] [])) (fun _ k => XS.iinc X3.here hx rfl (hb hby d8_38) rfl (l' := #[.val (.ref o0), .val (.ref o1), .val (.int p2), .val (.int p3), .val (.ref aw), .val (.ref at_), .val (.int ((2 : Int32) + (1 : Int32)))]) rfl k) ?_
  rw [show ((2 : Int32) + (1 : Int32)) = (3 : Int32) from by decide]
  refine Go.step (g' := (mkF m 17 #[.val (.ref o0), .val (.ref o1), .val (.int p2), .val (.int p3), .val (.ref aw), .val (.ref at_), .val (.int (3 : Int32))] [])) (fun _ k => XS.goto X3.here hx rfl (pc0 := 41) (pc' := 17) rfl (hb hby d8_41) (by decide) (by decide) k) ?_
  skip
  refine Go.step (g' := (mkF m 19 #[.val (.ref o0), .val (.ref o1), .val (.int p2), .val (.int p3), .val (.ref aw), .val (.ref at_), .val (.int (3 : Int32))] [(.int (3 : Int32))])) (fun _ k => XS.iload X3.here hx rfl (hb hby d8_17) rfl  k) ?_
  refine Go.step (g' := (mkF m 20 #[.val (.ref o0), .val (.ref o1), .val (.int p2), .val (.int p3), .val (.ref aw), .val (.ref at_), .val (.int (3 : Int32))] [(.int (2 : Int32)), (.int (3 : Int32))])) (fun _ k => XS.iconst X3.here hx rfl (hb hby d8_19) k) ?_
  refine Go.step (g' := (mkF m 21 #[.val (.ref o0), .val (.ref o1), .val (.int p2), .val (.int p3), .val (.ref aw), .val (.ref at_), .val (.int (3 : Int32))] [(.int p3), (.int (2 : Int32)), (.int (3 : Int32))])) (fun _ k => XS.iloadN X3.here hx rfl (hb hby d8_20) rfl  k) ?_
  refine Go.step (g' := (mkF m 22 #[.val (.ref o0), .val (.ref o1), .val (.int p2), .val (.int p3), .val (.ref aw), .val (.ref at_), .val (.int (3 : Int32))] [(.int ((2 : Int32) * p3)), (.int (3 : Int32))])) (fun _ k => XS.imul X3.here hx rfl (hb hby d8_21) rfl k) ?_
  rw [show ((2 : Int32) * p3) = (6 : Int32) from by rw [hl]; decide]
  refine Go.step (g' := (mkF m 25 #[.val (.ref o0), .val (.ref o1), .val (.int p2), .val (.int p3), .val (.ref aw), .val (.ref at_), .val (.int (3 : Int32))] [])) (fun _ k => XS.icmpNo X3.here hx rfl (hb hby d8_22) rfl (tlt (by decide : (3 : Int32) < (6 : Int32))).2.1 k) ?_
  skip
  refine Go.step (g' := (mkF m 27 #[.val (.ref o0), .val (.ref o1), .val (.int p2), .val (.int p3), .val (.ref aw), .val (.ref at_), .val (.int (3 : Int32))] [(.ref aw)])) (fun _ k => XS.aload X3.here hx rfl (hb hby d8_25) rfl rfl  k) ?_
  refine Go.step (g' := (mkF m 29 #[.val (.ref o0), .val (.ref o1), .val (.int p2), .val (.int p3), .val (.ref aw), .val (.ref at_), .val (.int (3 : Int32))] [(.int (3 : Int32)), (.ref aw)])) (fun _ k => XS.iload X3.here hx rfl (hb hby d8_27) rfl  k) ?_
  refine Go.step (g' := (mkF m 30 #[.val (.ref o0), .val (.ref o1), .val (.int p2), .val (.int p3), .val (.ref aw), .val (.ref at_), .val (.int (3 : Int32))] [(.int (3 : Int32)), (.ref aw), (.int (3 : Int32)), (.ref aw)])) (fun _ k => Jvm.Free.XT.dup2 X3.here hx rfl (hb hby d8_29) rfl rfl rfl k) ?_
  refine Go.step (g' := (mkF m 31 #[.val (.ref o0), .val (.ref o1), .val (.int p2), .val (.int p3), .val (.ref aw), .val (.ref at_), .val (.int (3 : Int32))] [(.double ((upd gw (2 : Int32).toNatClampNeg (FP.dsub (gw 2) (gt 2))) (3 : Int32).toNatClampNeg)), (.int (3 : Int32)), (.ref aw)])) (fun _ k => getAD X3 hx hZ e3 V3 (j := (3 : Int32)) (by decide) (gf := (mkF m 30 #[.val (.ref o0), .val (.ref o1), .val (.int p2), .val (.int p3), .val (.ref aw), .val (.ref at_), .val (.int (3 : Int32))] [(.int (3 : Int32)), (.ref aw), (.int (3 : Int32)), (.ref aw)])) rfl rfl (hb hby d8_30) k) ?_
  rw [show ((upd gw (2 : Int32).toNatClampNeg (FP.dsub (gw 2) (gt 2))) (3 : Int32).toNatClampNeg) = (gw 3) from rfl]
  refine Go.step (g' := (mkF m 33 #[.val (.ref o0), .val (.ref o1), .val (.int p2), .val (.int p3), .val (.ref aw), .val (.ref at_), .val (.int (3 : Int32))] [(.ref at_), (.double (gw 3)), (.int (3 : Int32)), (.ref aw)])) (fun _ k => XS.aload X3.here hx rfl (hb hby d8_31) rfl rfl  k) ?_
  refine Go.step (g' := (mkF m 35 #[.val (.ref o0), .val (.ref o1), .val (.int p2), .val (.int p3), .val (.ref aw), .val (.ref at_), .val (.int (3 : Int32))] [(.int (3 : Int32)), (.ref at_), (.double (gw 3)), (.int (3 : Int32)), (.ref aw)])) (fun _ k => XS.iload X3.here hx rfl (hb hby d8_33) rfl  k) ?_
  refine Go.step (g' := (mkF m 36 #[.val (.ref o0), .val (.ref o1), .val (.int p2), .val (.int p3), .val (.ref aw), .val (.ref at_), .val (.int (3 : Int32))] [(.double (gt (3 : Int32).toNatClampNeg)), (.double (gw 3)), (.int (3 : Int32)), (.ref aw)])) (fun _ k => getAD X3 hx hZ e3 (A_t.other W3 (Ne.symm n3)) (j := (3 : Int32)) (by decide) (gf := (mkF m 35 #[.val (.ref o0), .val (.ref o1), .val (.int p2), .val (.int p3), .val (.ref aw), .val (.ref at_), .val (.int (3 : Int32))] [(.int (3 : Int32)), (.ref at_), (.double (gw 3)), (.int (3 : Int32)), (.ref aw)])) rfl rfl (hb hby d8_35) k) ?_
  rw [show (gt (3 : Int32).toNatClampNeg) = (gt 3) from rfl]
  refine Go.step (g' := (mkF m 37 #[.val (.ref o0), .val (.ref o1), .val (.int p2), .val (.int p3), .val (.ref aw), .val (.ref at_), .val (.int (3 : Int32))] [(.double (FP.dsub (gw 3) (gt 3))), (.int (3 : Int32)), (.ref aw)])) (fun _ k => XS.dsubS X3.here hx rfl (hb hby d8_36) rfl (hnan 3) rfl k) ?_
  obtain ⟨T5, h5, lc5, X5, e5, W5, N5, V5, st5⟩ := putAD X3 hx hZ e3 V3 (j := (3 : Int32)) (by decide) N3 g_aw (gf := (mkF m 37 #[.val (.ref o0), .val (.ref o1), .val (.int p2), .val (.int p3), .val (.ref aw), .val (.ref at_), .val (.int (3 : Int32))] [(.double (FP.dsub (gw 3) (gt 3))), (.int (3 : Int32)), (.ref aw)])) rfl rfl (hb hby d8_37)
  refine Go.step (g' := (mkF m 38 #[.val (.ref o0), .val (.ref o1), .val (.int p2), .val (.int p3), .val (.ref aw), .val (.ref at_), .val (.int (3 : Int32))] [])) st5 ?_
  have Q6 := (Nat.le_trans (Nat.le_trans Z0 (Keep.of_wr W3).1) (Keep.of_wr W5).1)
  refine Go.step (g' := (mkF m 41 #[.val (.ref o0), .val (.ref o1), .val (.int p2), .val (.int p3), .val (.ref aw), .val (.ref at_), .val (.int ((3 : Int32) + (1 : Int32)))] [])) (fun _ k => XS.iinc X5.here hx rfl (hb hby d8_38) rfl (l' := #[.val (.ref o0), .val (.ref o1), .val (.int p2), .val (.int p3), .val (.ref aw), .val (.ref at_), .val (.int ((3 : Int32) + (1 : Int32)))]) rfl k) ?_
  rw [show ((3 : Int32) + (1 : Int32)) = (4 : Int32) from by decide]
  refine Go.step (g' := (mkF m 17 #[.val (.ref o0), .val (.ref o1), .val (.int p2), .val (.int p3), .val (.ref aw), .val (.ref at_), .val (.int (4 : Int32))] [])) (fun _ k => XS.goto X5.here hx rfl (pc0 := 41) (pc' := 17) rfl (hb hby d8_41) (by decide) (by decide) k) ?_
  skip
  refine Go.step (g' := (mkF m 19 #[.val (.ref o0), .val (.ref o1), .val (.int p2), .val (.int p3), .val (.ref aw), .val (.ref at_), .val (.int (4 : Int32))] [(.int (4 : Int32))])) (fun _ k => XS.iload X5.here hx rfl (hb hby d8_17) rfl  k) ?_
  refine Go.step (g' := (mkF m 20 #[.val (.ref o0), .val (.ref o1), .val (.int p2), .val (.int p3), .val (.ref aw), .val (.ref at_), .val (.int (4 : Int32))] [(.int (2 : Int32)), (.int (4 : Int32))])) (fun _ k => XS.iconst X5.here hx rfl (hb hby d8_19) k) ?_
  refine Go.step (g' := (mkF m 21 #[.val (.ref o0), .val (.ref o1), .val (.int p2), .val (.int p3), .val (.ref aw), .val (.ref at_), .val (.int (4 : Int32))] [(.int p3), (.int (2 : Int32)), (.int (4 : Int32))])) (fun _ k => XS.iloadN X5.here hx rfl (hb hby d8_20) rfl  k) ?_
  refine Go.step (g' := (mkF m 22 #[.val (.ref o0), .val (.ref o1), .val (.int p2), .val (.int p3), .val (.ref aw), .val (.ref at_), .val (.int (4 : Int32))] [(.int ((2 : Int32) * p3)), (.int (4 : Int32))])) (fun _ k => XS.imul X5.here hx rfl (hb hby d8_21) rfl k) ?_
  rw [show ((2 : Int32) * p3) = (6 : Int32) from by rw [hl]; decide]
  refine Go.step (g' := (mkF m 25 #[.val (.ref o0), .val (.ref o1), .val (.int p2), .val (.int p3), .val (.ref aw), .val (.ref at_), .val (.int (4 : Int32))] [])) (fun _ k => XS.icmpNo X5.here hx rfl (hb hby d8_22) rfl (tlt (by decide : (4 : Int32) < (6 : Int32))).2.1 k) ?_
  skip
  refine Go.step (g' := (mkF m 27 #[.val (.ref o0), .val (.ref o1), .val (.int p2), .val (.int p3), .val (.ref aw), .val (.ref at_), .val (.int (4 : Int32))] [(.ref aw)])) (fun _ k => XS.aload X5.here hx rfl (hb hby d8_25) rfl rfl  k) ?_
  refine Go.step (g' := (mkF m 29 #[.val (.ref o0), .val (.ref o1), .val (.int p2), .val (.int p3), .val (.ref aw), .val (.ref at_), .val (.int (4 : Int32))] [(.int (4 : Int32)), (.ref aw)])) (fun _ k => XS.iload X5.here hx rfl (hb hby d8_27) rfl  k) ?_
  refine Go.step (g' := (mkF m 30 #[.val (.ref o0), .val (.ref o1), .val (.int p2), .val (.int p3), .val (.ref aw), .val (.ref at_), .val (.int (4 : Int32))] [(.int (4 : Int32)), (.ref aw), (.int (4 : Int32)), (.ref aw)])) (fun _ k => Jvm.Free.XT.dup2 X5.here hx rfl (hb hby d8_29) rfl rfl rfl k) ?_
  refine Go.step (g' := (mkF m 31 #[.val (.ref o0), .val (.ref o1), .val (.int p2), .val (.int p3), .val (.ref aw), .val (.ref at_), .val (.int (4 : Int32))] [(.double ((upd (upd gw (2 : Int32).toNatClampNeg (FP.dsub (gw 2) (gt 2))) (3 : Int32).toNatClampNeg (FP.dsub (gw 3) (gt 3))) (4 : Int32).toNatClampNeg)), (.int (4 : Int32)), (.ref aw)])) (fun _ k => getAD X5 hx hZ e5 V5 (j := (4 : Int32)) (by decide) (gf := (mkF m 30 #[.val (.ref o0), .val (.ref o1), .val (.int p2), .val (.int p3), .val (.ref aw), .val (.ref at_), .val (.int (4 : Int32))] [(.int (4 : Int32)), (.ref aw), (.int (4 : Int32)), (.ref aw)])) rfl rfl (hb hby d8_30) k) ?_
  rw [show ((upd (upd gw (2 : Int32).toNatClampNeg (FP.dsub (gw 2) (gt 2))) (3 : Int32).toNatClampNeg (FP.dsub (gw 3) (gt 3))) (4 : Int32).toNatClampNeg) = (gw 4) from rfl]
  refine Go.step (g' := (mkF m 33 #[.val (.ref o0), .val (.ref o1), .val (.int p2), .val (.int p3), .val (.ref aw), .val (.ref at_), .val (.int (4 : Int32))] [(.ref at_), (.double (gw 4)), (.int (4 : Int32)), (.ref aw)])) (fun _ k => XS.aload X5.here hx rfl (hb hby d8_31) rfl rfl  k) ?_
  refine Go.step (g' := (mkF m 35 #[.val (.ref o0), .val (.ref o1), .val (.int p2), .val (.int p3), .val (.ref aw), .val (.ref at_), .val (.int (4 : Int32))] [(.int (4 : Int32)), (.ref at_), (.double (gw 4)), (.int (4 : Int32)), (.ref aw)])) (fun _ k => XS.iload X5.here hx rfl (hb hby d8_33) rfl  k) ?_
  refine Go.step (g' := (mkF m 36 #[.val (.ref o0), .val (.ref o1), .val (.int p2), .val (.int p3), .val (.ref aw), .val (.ref at_), .val (.int (4 : Int32))] [(.double (gt (4 : Int32).toNatClampNeg)), (.double (gw 4)), (.int (4 : Int32)), (.ref aw)])) (fun _ k => getAD X5 hx hZ e5 ((A_t.other W3 (Ne.symm n3)).other W5 (Ne.symm n3)) (j := (4 : Int32)) (by decide) (gf := (mkF m 35 #[.val (.ref o0), .val (.ref o1), .val (.int p2), .val (.int p3), .val (.ref aw), .val (.ref at_), .val (.int (4 : Int32))] [(.int (4 : Int32)), (.ref at_), (.double (gw 4)), (.int (4 : Int32)), (.ref aw)])) rfl rfl (hb hby d8_35) k) ?_
  rw [show (gt (4 : Int32).toNatClampNeg) = (gt 4) from rfl]
  refine Go.step (g' := (mkF m 37 #[.val (.ref o0), .val (.ref o1), .val (.int p2), .val (.int p3), .val (.ref aw), .val (.ref at_), .val (.int (4 : Int32))] [(.double (FP.dsub (gw 4) (gt 4))), (.int (4 : Int32)), (.ref aw)])) (fun _ k => XS.dsubS X5.here hx rfl (hb hby d8_36) rfl (hnan 4) rfl k) ?_
  obtain ⟨T7, h7, lc7, X7, e7, W7, N7, V7, st7⟩ := putAD X5 hx hZ e5 V5 (j := (4 : Int32)) (by decide) N5 g_aw (gf := (mkF m 37 #[.val (.ref o0), .val (.ref o1), .val (.int p2), .val (.int p3), .val (.ref aw), .val (.ref at_), .val (.int (4 : Int32))] [(.double (FP.dsub (gw 4) (gt 4))), (.int (4 : Int32)), (.ref aw)])) rfl rfl (hb hby d8_37)
  refine Go.step (g' := (mkF m 38 #[.val (.ref o0), .val (.ref o1), .val (.int p2), .val (.int p3), .val (.ref aw), .val (.ref at_), .val (.int (4 : Int32))] [])) st7 ?_
  have Q8 := (((F0.other W3 (Or.inl n1)).other W5 (Or.inl n1)).other W7 (Or.inl n1))
  have Q9 := (((F1.other W3 (Or.inl n2)).other W5 (Or.inl n2)).other W7 (Or.inl n2))
  have Q10 := (((A_t.other W3 (Ne.symm n3)).other W5 (Ne.symm n3)).other W7 (Ne.symm n3))
  have Q11 := ((Q4.wr W5 (Or.inl (List.mem_of_getElem? (i := 0) rfl))).wr W7 (Or.inl (List.mem_of_getElem? (i := 0) rfl)))
  refine Go.step (g' := (mkF m 41 #[.val (.ref o0), .val (.ref o1), .val (.int p2), .val (.int p3), .val (.ref aw), .val (.ref at_), .val (.int ((4 : Int32) + (1 : Int32)))] [])) (fun _ k => XS.iinc X7.here hx rfl (hb hby d8_38) rfl (l' := #[.val (.ref o0), .val (.ref o1), .val (.int p2), .val (.int p3), .val (.ref aw), .val (.ref at_), .val (.int ((4 : Int32) + (1 : Int32)))]) rfl k) ?_
  rw [show ((4 : Int32) + (1 : Int32)) = (5 : Int32) from by decide]
  refine Go.step (g' := (mkF m 17 #[.val (.ref o0), .val (.ref o1), .val (.int p2), .val (.int p3), .val (.ref aw), .val (.ref at_), .val (.int (5 : Int32))] [])) (fun _ k => XS.goto X7.here hx rfl (pc0 := 41) (pc' := 17) rfl (hb hby d8_41) (by decide) (by decide) k) ?_
  skip
  refine Go.step (g' := (mkF m 19 #[.val (.ref o0), .val (.ref o1), .val (.int p2), .val (.int p3), .val (.ref aw), .val (.ref at_), .val (.int (5 : Int32))] [(.int (5 : Int32))])) (fun _ k => XS.iload X7.here hx rfl (hb hby d8_17) rfl  k) ?_
  refine Go.step (g' := (mkF m 20 #[.val (.ref o0), .val (.ref o1), .val (.int p2), .val (.int p3), .val (.ref aw), .val (.ref at_), .val (.int (5 : Int32))] [(.int (2 : Int32)), (.int (5 : Int32))])) (fun _ k => XS.iconst X7.here hx rfl (hb hby d8_19) k) ?_
  refine Go.step (g' := (mkF m 21 #[.val (.ref o0), .val (.ref o1), .val (.int p2), .val (.int p3), .val (.ref aw), .val (.ref at_), .val (.int (5 : Int32))] [(.int p3), (.int (2 : Int32)), (.int (5 : Int32))])) (fun _ k => XS.iloadN X7.here hx rfl (hb hby d8_20) rfl  k) ?_
  refine Go.step (g' := (mkF m 22 #[.val (.ref o0), .val (.ref o1), .val (.int p2), .val (.int p3), .val (.ref aw), .val (.ref at_), .val (.int (5 : Int32))] [(.int ((2 : Int32) * p3)), (.int (5 : Int32))])) (fun _ k => XS.imul X7.here hx rfl (hb hby d8_21) rfl k) ?_
  rw [show ((2 : Int32) * p3) = (6 : Int32) from by rw [hl]; decide]
  refine Go.step (g' := (mkF m 25 #[.val (.ref o0), .val (.ref o1), .val (.int p2), .val (.int p3), .val (.ref aw), .val (.ref at_), .val (.int (5 : Int32))] [])) (fun _ k => XS.icmpNo X7.here hx rfl (hb hby d8_22) rfl (tlt (by decide : (5 : Int32) < (6 : Int32))).2.1 k) ?_
  skip
  refine Go.step (g' := (mkF m 27 #[.val (.ref o0), .val (.ref o1), .val (.int p2), .val (.int p3), .val (.ref aw), .val (.ref at_), .val (.int (5 : Int32))] [(.ref aw)])) (fun _ k => XS.aload X7.here hx rfl (hb hby d8_25) rfl rfl  k) ?_
  refine Go.step (g' := (mkF m 29 #[.val (.ref o0), .val (.ref o1), .val (.int p2), .val (.int p3), .val (.ref aw), .val (.ref at_), .val (.int (5 : Int32))] [(.int (5 : Int32)), (.ref aw)])) (fun _ k => XS.iload X7.here hx rfl (hb hby d8_27) rfl  k) ?_
  refine Go.step (g' := (mkF m 30 #[.val (.ref o0), .val (.ref o1), .val (.int p2), .val (.int p3), .val (.ref aw), .val (.ref at_), .val (.int (5 : Int32))] [(.int (5 : Int32)), (.ref aw), (.int (5 : Int32)), (.ref aw)])) (fun _ k => Jvm.Free.XT.dup2 X7.here hx rfl (hb hby d8_29) rfl rfl rfl k) ?_
  refine Go.step (g' := (mkF m 31 #[.val (.ref o0), .val (.ref o1), .val (.int p2), .val (.int p3), .val (.ref aw), .val (.ref at_), .val (.int (5 : Int32))] [(.double ((upd (upd (upd gw (2 : Int32).toNatClampNeg (FP.dsub (gw 2) (gt 2))) (3 : Int32).toNatClampNeg (FP.dsub (gw 3) (gt 3))) (4 : Int32).toNatClampNeg (FP.dsub (gw 4) (gt 4))) (5 : Int32).toNatClampNeg)), (.int (5 : Int32)), (.ref aw)])) (fun _ k => getAD X7 hx hZ e7 V7 (j := (5 : Int32)) (by decide) (gf := (mkF m 30 #[.val (.ref o0), .val (.ref o1), .val (.int p2), .val (.int p3), .val (.ref aw), .val (.ref at_), .val (.int (5 : Int32))] [(.int (5 : Int32)), (.ref aw), (.int (5 : Int32)), (.ref aw)])) rfl rfl (hb hby d8_30) k) ?_
  rw [show ((upd (upd (upd gw (2 : Int32).toNatClampNeg (FP.dsub (gw 2) (gt 2))) (3 : Int32).toNatClampNeg (FP.dsub (gw 3) (gt 3))) (4 : Int32).toNatClampNeg (FP.dsub (gw 4) (gt 4))) (5 : Int32).toNatClampNeg) = (gw 5) from rfl]
  refine Go.step (g' := (mkF m 33 #[.val (.ref o0), .val (.ref o1), .val (.int p2), .val (.int p3), .val (.ref aw), .val (.ref at_), .val (.int (5 : Int32))] [(.ref at_), (.double (gw 5)), (.int (5 : Int32)), (.ref aw)])) (fun _ k => XS.aload X7.here hx rfl (hb hby d8_31) rfl rfl  k) ?_
  refine Go.step (g' := (mkF m 35 #[.val (.ref o0), .val (.ref o1), .val (.int p2), .val (.int p3), .val (.ref aw), .val (.ref at_), .val (.int (5 : Int32))] [(.int (5 : Int32)), (.ref at_), (.double (gw 5)), (.int (5 : Int32)), (.ref aw)])) (fun _ k => XS.iload X7.here hx rfl (hb hby d8_33) rfl  k) ?_
  refine Go.step (g' := (mkF m 36 #[.val (.ref o0), .val (.ref o1), .val (.int p2), .val (.int p3), .val (.ref aw), .val (.ref at_), .val (.int (5 : Int32))] [(.double (gt (5 : Int32).toNatClampNeg)), (.double (gw 5)), (.int (5 : Int32)), (.ref aw)])) (fun _ k => getAD X7 hx hZ e7 Q10 (j := (5 : Int32)) (by decide) (gf := (mkF m 35 #[.val (.ref o0), .val (.ref o1), .val (.int p2), .val (.int p3), .val (.ref aw), .val (.ref at_), .val (.int (5 : Int32))] [(.int (5 : Int32)), (.ref at_), (.double (gw 5)), (.int (5 : Int32)), (.ref aw)])) rfl rfl (hb hby d8_35) k) ?_
  rw [show (gt (5 : Int32).toNatClampNeg) = (gt 5) from rfl]
  refine Go.step (g' := (mkF m 37 #[.val (.ref o0), .val (.ref o1), .val (.int p2), .val (.int p3), .val (.ref aw), .val (.ref at_), .val (.int (5 : Int32))] [(.double (FP.dsub (gw 5) (gt 5))), (.int (5 : Int32)), (.ref aw)])) (fun _ k => XS.dsubS X7.here hx rfl (hb hby d8_36) rfl (hnan 5) rfl k) ?_
  obtain ⟨T12, h12, lc12, X12, e12, W12, N12, V12, st12⟩ := putAD X7 hx hZ e7 V7 (j := (5 : Int32)) (by decide) N7 g_aw (gf := (mkF m 37 #[.val (.ref o0), .val (.ref o1), .val (.int p2), .val (.int p3), .val (.ref aw), .val (.ref at_), .val (.int (5 : Int32))] [(.double (FP.dsub (gw 5) (gt 5))), (.int (5 : Int32)), (.ref aw)])) rfl rfl (hb hby d8_37)
  refine Go.step (g' := (mkF m 38 #[.val (.ref o0), .val (.ref o1), .val (.int p2), .val (.int p3), .val (.ref aw), .val (.ref at_), .val (.int (5 : Int32))] [])) st12 ?_
  have Q13 := (Nat.le_trans (Nat.le_trans Q6 (Keep.of_wr W7).1) (Keep.of_wr W12).1)
  refine Go.step (g' := (mkF m 41 #[.val (.ref o0), .val (.ref o1), .val (.int p2), .val (.int p3), .val (.ref aw), .val (.ref at_), .val (.int ((5 : Int32) + (1 : Int32)))] [])) (fun _ k => XS.iinc X12.here hx rfl (hb hby d8_38) rfl (l' := #[.val (.ref o0), .val (.ref o1), .val (.int p2), .val (.int p3), .val (.ref aw), .val (.ref at_), .val (.int ((5 : Int32) + (1 : Int32)))]) rfl k) ?_
  rw [show ((5 : Int32) + (1 : Int32)) = (6 : Int32) from by decide]
  refine Go.step (g' := (mkF m 17 #[.val (.ref o0), .val (.ref o1), .val (.int p2), .val (.int p3), .val (.ref aw), .val (.ref at_), .val (.int (6 : Int32))] [])) (fun _ k => XS.goto X12.here hx rfl (pc0 := 41) (pc' := 17) rfl (hb hby d8_41) (by decide) (by decide) k) ?_
  skip
  refine Go.step (g' := (mkF m 19 #[.val (.ref o0), .val (.ref o1), .val (.int p2), .val (.int p3), .val (.ref aw), .val (.ref at_), .val (.int (6 : Int32))] [(.int (6 : Int32))])) (fun _ k => XS.iload X12.here hx rfl (hb hby d8_17) rfl  k) ?_
  refine Go.step (g' := (mkF m 20 #[.val (.ref o0), .val (.ref o1), .val (.int p2), .val (.int p3), .val (.ref aw), .val (.ref at_), .val (.int (6 : Int32))] [(.int (2 : Int32)), (.int (6 : Int32))])) (fun _ k => XS.iconst X12.here hx rfl (hb hby d8_19) k) ?_
  refine Go.step (g' := (mkF m 21 #[.val (.ref o0), .val (.ref o1), .val (.int p2), .val (.int p3), .val (.ref aw), .val (.ref at_), .val (.int (6 : Int32))] [(.int p3), (.int (2 : Int32)), (.int (6 : Int32))])) (fun _ k => XS.iloadN X12.here hx rfl (hb hby d8_20) rfl  k) ?_
  refine Go.step (g' := (mkF m 22 #[.val (.ref o0), .val (.ref o1), .val (.int p2), .val (.int p3), .val (.ref aw), .val (.ref at_), .val (.int (6 : Int32))] [(.int ((2 : Int32) * p3)), (.int (6 : Int32))])) (fun _ k => XS.imul X12.here hx rfl (hb hby d8_21) rfl k) ?_
  rw [show ((2 : Int32) * p3) = (6 : Int32) from by rw [hl]; decide]
  refine Go.step (g' := (mkF m 44 #[.val (.ref o0), .val (.ref o1), .val (.int p2), .val (.int p3), .val (.ref aw), .val (.ref at_), .val (.int (6 : Int32))] [])) (fun _ k => XS.icmpYes X12.here hx rfl (pc0 := 22) (pc' := 44) rfl (hb hby d8_22) rfl (flt (by decide : ¬ ((6 : Int32) < (6 : Int32)))).2.1 (by decide) (by decide) k) ?_
  skip
  exact Go.ret0 X12 hx hlk Bd.returns (hb hby d8_44) (by decide) (by decide) (by rw [e12]; exact ⟨rfl, N12, (Q11.wr W12 (Or.inl (List.mem_of_getElem? (i := 0) rfl))), V12.cong (fun k hk => by rw [hf, hl]; match k, hk with | 0, _ => rfl | 1, _ => rfl | 2, _ => rfl | 3, _ => rfl | 4, _ => rfl | 5, _ => rfl | 6, _ => rfl | 7, _ => rfl)⟩)

set_option maxRecDepth 65536 in
set_option maxHeartbeats 40000000 in
theorem rm8w14 (l : Launch) (Z : State) (a0 : Array Value) (hw : ∀ d ∈ tables_1, d.before a0 Z = true) (ws : List Jvm.Cond) (o0 : Addr) (o1 : Addr) (p2 : Int32) (p3 : Int32) (aw : Addr) (at_ : Addr) (gw : Nat → UInt64) (gt : Nat → UInt64) (h0 : Heap) (n0 : Nat) (Z0 : n0 ≤ h0.size) (F0 : Fld Z h0 o0 "com/example/rhadamanthus/rhadamanthus/learn/Histogram" "cells" "[D" (.ref aw)) (F1 : Fld Z h0 o1 "com/example/rhadamanthus/rhadamanthus/learn/Histogram" "cells" "[D" (.ref at_)) (A_w : IA Z h0 aw .double 8 (fun k => .double (gw k))) (A_t : IA Z h0 at_ .double 8 (fun k => .double (gt k))) (n1 : o0 ≠ aw) (n2 : o1 ≠ aw) (n3 : aw ≠ at_) (g_aw : n0 ≤ aw) (hnan : ∀ k, Jvm.Free.Fl.NoNaN64 (FP.dsub (gw k) (gt k))) (hf : p2 = (1 : Int32)) (hl : p3 = (4 : Int32)) :
    MetFree l (⟨"com/example/rhadamanthus/rhadamanthus/learn/Histogram", "subtractColumns", "(Lcom/example/rhadamanthus/rhadamanthus/learn/Histogram;II)V"⟩ : MethodName) (head1 (Jvm.Cond.code (⟨"com/example/rhadamanthus/rhadamanthus/learn/Histogram", "subtractColumns", "(Lcom/example/rhadamanthus/rhadamanthus/learn/Histogram;II)V"⟩ : MethodName) prog_64_method_10_code 7 none :: ws) ({ frames := 0, cells := 0, slots := 0, locals := 0 } : Room)) (fun a U => a = #[(.ref o0), (.ref o1), (.int p2), (.int p3)] ∧ Z.Warmed39 U.vm ∧ U.heap = h0) (fun _ _ _ _ _ => True) (fun _ U o U' => ∃ v L, o = .returned v ∧ (QA Z aw (fun k => if 2 * p2.toNatClampNeg ≤ k ∧ k < 2 * p3.toNatClampNeg then FP.dsub (gw k) (gt k) else gw k) h0 n0) v U'.heap L ∧ FrameEnd U o U' L ({ frames := 0, cells := 0, slots := 0, locals := 0 } : Room).cells ({ frames := 0, cells := 0, slots := 0, locals := 0 } : Room).slots) := by
  refine MetFree.of_bodySF (plainFor_of_name pn_8) hisR ?_
  intro p e s m args below meth c s₁ Bd hml0 hP hK
  obtain ⟨rfl, hZ, hh⟩ := hP
  have hx := Bd.exec
  have hby := Bd.bytes
  have hlk : meth.locks = false := BodyLoose.notSynchronized Bd
  have hml : c.maxLocals = 7 := hml0
  have hown : s.vm.findClass "com/example/rhadamanthus/rhadamanthus/learn/Histogram" = some m.cls := findClass_of_methodNamed Bd.named
  have hnm := (name_of_methodNamed Bd.named Bd.method).1
  have X0 : Stand p l e ({ frames := 0, cells := 0, slots := 0, locals := 0 } : Room) s m #[(.ref o0), (.ref o1), (.int p2), (.int p3)] below meth c s₁ ([] : List Loc) 0 0 := Stand.of_body Bd
  have e0 : s₁.heap = h0 := by rw [← hh, Bd.state]; rfl
  show Go p e below s 0 0 (QA Z aw (fun k => if 2 * p2.toNatClampNeg ≤ k ∧ k < 2 * p3.toNatClampNeg then FP.dsub (gw k) (gt k) else gw k) h0 n0) s₁ (entryFrame m #[(.ref o0), (.ref o1), (.int p2), (.int p3)] 7)
  rw [ef_8 m o0 o1 p2 p3]
  have N0 := Fr.nil n0
  refine Go.step (g' := (mkF m 1 #[.val (.ref o0), .val (.ref o1), .val (.int p2), .val (.int p3), .unset, .unset, .unset] [(.ref o0)])) (fun _ k => XS.aloadN X0.here hx rfl (hb hby d8_0) rfl rfl  k) ?_
  obtain ⟨T1, X1, e1, st1⟩ := getF X0 hx hZ hown (host := "") (Or.inl (hw _ (List.mem_of_getElem? (i := 10) rfl))) Via.refl e0 F0 (g := (mkF m 1 #[.val (.ref o0), .val (.ref o1), .val (.int p2), .val (.int p3), .unset, .unset, .unset] [(.ref o0)])) rfl rfl (hb hby d8_1)
  refine Go.step (g' := (mkF m 4 #[.val (.ref o0), .val (.ref o1), .val (.int p2), .val (.int p3), .unset, .unset, .unset] [(.ref aw)])) st1 ?_
  refine Go.step (g' := (mkF m 6 #[.val (.ref o0), .val (.ref o1), .val (.int p2), .val (.int p3), .val (.ref aw), .unset, .unset] [])) (fun _ k => XS.astore X1.here hx rfl (hb hby d8_4) rfl rfl (l' := #[.val (.ref o0), .val (.ref o1), .val (.int p2), .val (.int p3), .val (.ref aw), .unset, .unset]) rfl k) ?_
  refine Go.step (g' := (mkF m 7 #[.val (.ref o0), .val (.ref o1), .val (.int p2), .val (.int p3), .val (.ref aw), .unset, .unset] [(.ref o1)])) (fun _ k => XS.aloadN X1.here hx rfl (hb hby d8_6) rfl rfl  k) ?_
  obtain ⟨T2, X2, e2, st2⟩ := getF X1 hx hZ hown (host := "") (Or.inl (hw _ (List.mem_of_getElem? (i := 10) rfl))) Via.refl e1 F1 (g := (mkF m 7 #[.val (.ref o0), .val (.ref o1), .val (.int p2), .val (.int p3), .val (.ref aw), .unset, .unset] [(.ref o1)])) rfl rfl (hb hby d8_7)
  refine Go.step (g' := (mkF m 10 #[.val (.ref o0), .val (.ref o1), .val (.int p2), .val (.int p3), .val (.ref aw), .unset, .unset] [(.ref at_)])) st2 ?_
  refine Go.step (g' := (mkF m 12 #[.val (.ref o0), .val (.ref o1), .val (.int p2), .val (.int p3), .val (.ref aw), .val (.ref at_), .unset] [])) (fun _ k => XS.astore X2.here hx rfl (hb hby d8_10) rfl rfl (l' := #[.val (.ref o0), .val (.ref o1), .val (.int p2), .val (.int p3), .val (.ref aw), .val (.ref at_), .unset]) rfl k) ?_
  refine Go.step (g' := (mkF m 13 #[.val (.ref o0), .val (.ref o1), .val (.int p2), .val (.int p3), .val (.ref aw), .val (.ref at_), .unset] [(.int (2 : Int32))])) (fun _ k => XS.iconst X2.here hx rfl (hb hby d8_12) k) ?_
  refine Go.step (g' := (mkF m 14 #[.val (.ref o0), .val (.ref o1), .val (.int p2), .val (.int p3), .val (.ref aw), .val (.ref at_), .unset] [(.int p2), (.int (2 : Int32))])) (fun _ k => XS.iloadN X2.here hx rfl (hb hby d8_13) rfl  k) ?_
  refine Go.step (g' := (mkF m 15 #[.val (.ref o0), .val (.ref o1), .val (.int p2), .val (.int p3), .val (.ref aw), .val (.ref at_), .unset] [(.int ((2 : Int32) * p2))])) (fun _ k => XS.imul X2.here hx rfl (hb hby d8_14) rfl k) ?_
  rw [show ((2 : Int32) * p2) = (2 : Int32) from by rw [hf]; decide]
  refine Go.step (g' := (mkF m 17 #[.val (.ref o0), .val (.ref o1), .val (.int p2), .val (.int p3), .val (.ref aw), .val (.ref at_), .val (.int (2 : Int32))] [])) (fun _ k => XS.istore X2.here hx rfl (hb hby d8_15) rfl (l' := #[.val (.ref o0), .val (.ref o1), .val (.int p2), .val (.int p3), .val (.ref aw), .val (.ref at_), .val (.int (2 : Int32))]) rfl k) ?_
  skip
  refine Go.step (g' := (mkF m 19 #[.val (.ref o0), .val (.ref o1), .val (.int p2), .val (.int p3), .val (.ref aw), .val (.ref at_), .val (.int (2 : Int32))] [(.int (2 : Int32))])) (fun _ k => XS.iload X2.here hx rfl (hb hby d8_17) rfl  k) ?_
  refine Go.step (g' := (mkF m 20 #[.val (.ref o0), .val (.ref o1), .val (.int p2), .val (.int p3), .val (.ref aw), .val (.ref at_), .val (.int (2 : Int32))] [(.int (2 : Int32)), (.int (2 : Int32))])) (fun _ k => XS.iconst X2.here hx rfl (hb hby d8_19) k) ?_
  refine Go.step (g' := (mkF m 21 #[.val (.ref o0), .val (.ref o1), .val (.int p2), .val (.int p3), .val (.ref aw), .val (.ref at_), .val (.int (2 : Int32))] [(.int p3), (.int (2 : Int32)), (.int (2 : Int32))])) (fun _ k => XS.iloadN X2.here hx rfl (hb hby d8_20) rfl  k) ?_
  refine Go.step (g' := (mkF m 22 #[.val (.ref o0), .val (.ref o1), .val (.int p2), .val (.int p3), .val (.ref aw), .val (.ref at_), .val (.int (2 : Int32))] [(.int ((2 : Int32) * p3)), (.int (2 : Int32))])) (fun _ k => XS.imul X2.here hx rfl (hb hby d8_21) rfl k) ?_
  rw [show ((2 : Int32) * p3) = (8 : Int32) from by rw [hl]; decide]
  refine Go.step (g' := (mkF m 25 #[.val (.ref o0), .val (.ref o1), .val (.int p2), .val (.int p3), .val (.ref aw), .val (.ref at_), .val (.int (2 : Int32))] [])) (fun _ k => XS.icmpNo X2.here hx rfl (hb hby d8_22) rfl (tlt (by decide : (2 : Int32) < (8 : Int32))).2.1 k) ?_
  skip
  refine Go.step (g' := (mkF m 27 #[.val (.ref o0), .val (.ref o1), .val (.int p2), .val (.int p3), .val (.ref aw), .val (.ref at_), .val (.int (2 : Int32))] [(.ref aw)])) (fun _ k => XS.aload X2.here hx rfl (hb hby d8_25) rfl rfl  k) ?_
  refine Go.step (g' := (mkF m 29 #[.val (.ref o0), .val (.ref o1), .val (.int p2), .val (.int p3), .val (.ref aw), .val (.ref at_), .val (.int (2 : Int32))] [(.int (2 : Int32)), (.ref aw)])) (fun _ k => XS.iload X2.here hx rfl (hb hby d8_27) rfl  k) ?_
  refine Go.step (g' := (mkF m 30 #[.val (.ref o0), .val (.ref o1), .val (.int p2), .val (.int p3), .val (.ref aw), .val (.ref at_), .val (.int (2 : Int32))] [(.int (2 : Int32)), (.ref aw), (.int (2 : Int32)), (.ref aw)])) (fun _ k => Jvm.Free.XT.dup2 X2.here hx rfl (hb hby d8_29) rfl rfl rfl k) ?_
  refine Go.step (g' := (mkF m 31 #[.val (.ref o0), .val (.ref o1), .val (.int p2), .val (.int p3), .val (.ref aw), .val (.ref at_), .val (.int (2 : Int32))] [(.double (gw (2 : Int32).toNatClampNeg)), (.int (2 : Int32)), (.ref aw)])) (fun _ k => getAD X2 hx hZ e2 A_w (j := (2 : Int32)) (by decide) (gf := (mkF m 30 #[.val (.ref o0), .val (.ref o1), .val (.int p2), .val (.int p3), .val (.ref aw), .val (.ref at_), .val (.int (2 : Int32))] [(.int (2 : Int32)), (.ref aw), (.int (2 : Int32)), (.ref aw)])) rfl rfl (hb hby d8_30) k) ?_
  rw [show (gw (2 : Int32).toNatClampNeg) = (gw 2) from rfl]
  refine Go.step (g' := (mkF m 33 #[.val (.ref o0), .val (.ref o1), .val (.int p2), .val (.int p3), .val (.ref aw), .val (.ref at_), .val (.int (2 : Int32))] [(.ref at_), (.double (gw 2)), (.int (2 : Int32)), (.ref aw)])) (fun _ k => XS.aload X2.here hx rfl (hb hby d8_31) rfl rfl  k) ?_
  refine Go.step (g' := (mkF m 35 #[.val (.ref o0), .val (.ref o1), .val (.int p2), .val (.int p3), .val (.ref aw), .val (.ref at_), .val (.int (2 : Int32))] [(.int (2 : Int32)), (.ref at_), (.double (gw 2)), (.int (2 : Int32)), (.ref aw)])) (fun _ k => XS.iload X2.here hx rfl (hb hby d8_33) rfl  k) ?_
  refine Go.step (g' := (mkF m 36 #[.val (.ref o0), .val (.ref o1), .val (.int p2), .val (.int p3), .val (.ref aw), .val (.ref at_), .val (.int (2 : Int32))] [(.double (gt (2 : Int32).toNatClampNeg)), (.double (gw 2)), (.int (2 : Int32)), (.ref aw)])) (fun _ k => getAD X2 hx hZ e2 A_t (j := (2 : Int32)) (by decide) (gf := (mkF m 35 #[.val (.ref o0), .val (.ref o1), .val (.int p2), .val (.int p3), .val (.ref aw), .val (.ref at_), .val (.int (2 : Int32))] [(.int (2 : Int32)), (.ref at_), (.double (gw 2)), (.int (2 : Int32)), (.ref aw)])) rfl rfl (hb hby d8_35) k) ?_
  rw [show (gt (2 : Int32).toNatClampNeg) = (gt 2) from rfl]
  refine Go.step (g' := (mkF m 37 #[.val (.ref o0), .val (.ref o1), .val (.int p2), .val (.int p3), .val (.ref aw), .val (.ref at_), .val (.int (2 : Int32))] [(.double (FP.dsub (gw 2) (gt 2))), (.int (2 : Int32)), (.ref aw)])) (fun _ k => XS.dsubS X2.here hx rfl (hb hby d8_36) rfl (hnan 2) rfl k) ?_
  obtain ⟨T3, h3, lc3, X3, e3, W3, N3, V3, st3⟩ := putAD X2 hx hZ e2 A_w (j := (2 : Int32)) (by decide) N0 g_aw (gf := (mkF m 37 #[.val (.ref o0), .val (.ref o1), .val (.int p2), .val (.int p3), .val (.ref aw), .val (.ref at_), .val (.int (2 : Int32))] [(.double (FP.dsub (gw 2) (gt 2))), (.int (2 : Int32)), (.ref aw)])) rfl rfl (hb hby d8_37)
  refine Go.step (g' := (mkF m 38 #[.val (.ref o0), .val (.ref o1), .val (.int p2), .val (.int p3), .val (.ref aw), .val (.ref at_), .val (.int (2 : Int32))] [])) st3 ?_
  have Q4 := ((Keep.refl h0 [aw]).wr W3 (Or.inl (List.mem_of_getElem? (i := 0) rfl)))
  refine Go.step (g' := (mkF m 41 #[.val (.ref o0), .val (.ref o1), .val (.int p2), .val (.int p3), .val (.ref aw), .val (.ref at_), .val (.int ((2 : Int32) + (1 : Int32)))] [])) (fun _ k => XS.iinc X3.here hx rfl (hb hby d8_38) rfl (l' := #[.val (.ref o0), .val (.ref o1), .val (.int p2), .val (.int p3), .val (.ref aw), .val (.ref at_), .val (.int ((2 : Int32) + (1 : Int32)))]) rfl k) ?_
  rw [show ((2 : Int32) + (1 : Int32)) = (3 : Int32) from by decide]
  refine Go.step (g' := (mkF m 17 #[.val (.ref o0), .val (.ref o1), .val (.int p2), .val (.int p3), .val (.ref aw), .val (.ref at_), .val (.int (3 : Int32))] [])) (fun _ k => XS.goto X3.here hx rfl (pc0 := 41) (pc' := 17) rfl (hb hby d8_41) (by decide) (by decide) k) ?_
  skip
  refine Go.step (g' := (mkF m 19 #[.val (.ref o0), .val (.ref o1), .val (.int p2), .val (.int p3), .val (.ref aw), .val (.ref at_), .val (.int (3 : Int32))] [(.int (3 : Int32))])) (fun _ k => XS.iload X3.here hx rfl (hb hby d8_17) rfl  k) ?_
  refine Go.step (g' := (mkF m 20 #[.val (.ref o0), .val (.ref o1), .val (.int p2), .val (.int p3), .val (.ref aw), .val (.ref at_), .val (.int (3 : Int32))] [(.int (2 : Int32)), (.int (3 : Int32))])) (fun _ k => XS.iconst X3.here hx rfl (hb hby d8_19) k) ?_
  refine Go.step (g' := (mkF m 21 #[.val (.ref o0), .val (.ref o1), .val (.int p2), .val (.int p3), .val (.ref aw), .val (.ref at_), .val (.int (3 : Int32))] [(.int p3), (.int (2 : Int32)), (.int (3 : Int32))])) (fun _ k => XS.iloadN X3.here hx rfl (hb hby d8_20) rfl  k) ?_
  refine Go.step (g' := (mkF m 22 #[.val (.ref o0), .val (.ref o1), .val (.int p2), .val (.int p3), .val (.ref aw), .val (.ref at_), .val (.int (3 : Int32))] [(.int ((2 : Int32) * p3)), (.int (3 : Int32))])) (fun _ k => XS.imul X3.here hx rfl (hb hby d8_21) rfl k) ?_
  rw [show ((2 : Int32) * p3) = (8 : Int32) from by rw [hl]; decide]
  refine Go.step (g' := (mkF m 25 #[.val (.ref o0), .val (.ref o1), .val (.int p2), .val (.int p3), .val (.ref aw), .val (.ref at_), .val (.int (3 : Int32))] [])) (fun _ k => XS.icmpNo X3.here hx rfl (hb hby d8_22) rfl (tlt (by decide : (3 : Int32) < (8 : Int32))).2.1 k) ?_
  skip
  refine Go.step (g' := (mkF m 27 #[.val (.ref o0), .val (.ref o1), .val (.int p2), .val (.int p3), .val (.ref aw), .val (.ref at_), .val (.int (3 : Int32))] [(.ref aw)])) (fun _ k => XS.aload X3.here hx rfl (hb hby d8_25) rfl rfl  k) ?_
  refine Go.step (g' := (mkF m 29 #[.val (.ref o0), .val (.ref o1), .val (.int p2), .val (.int p3), .val (.ref aw), .val (.ref at_), .val (.int (3 : Int32))] [(.int (3 : Int32)), (.ref aw)])) (fun _ k => XS.iload X3.here hx rfl (hb hby d8_27) rfl  k) ?_
  refine Go.step (g' := (mkF m 30 #[.val (.ref o0), .val (.ref o1), .val (.int p2), .val (.int p3), .val (.ref aw), .val (.ref at_), .val (.int (3 : Int32))] [(.int (3 : Int32)), (.ref aw), (.int (3 : Int32)), (.ref aw)])) (fun _ k => Jvm.Free.XT.dup2 X3.here hx rfl (hb hby d8_29) rfl rfl rfl k) ?_
  refine Go.step (g' := (mkF m 31 #[.val (.ref o0), .val (.ref o1), .val (.int p2), .val (.int p3), .val (.ref aw), .val (.ref at_), .val (.int (3 : Int32))] [(.double ((upd gw (2 : Int32).toNatClampNeg (FP.dsub (gw 2) (gt 2))) (3 : Int32).toNatClampNeg)), (.int (3 : Int32)), (.ref aw)])) (fun _ k => getAD X3 hx hZ e3 V3 (j := (3 : Int32)) (by decide) (gf := (mkF m 30 #[.val (.ref o0), .val (.ref o1), .val (.int p2), .val (.int p3), .val (.ref aw), .val (.ref at_), .val (.int (3 : Int32))] [(.int (3 : Int32)), (.ref aw), (.int (3 : Int32)), (.ref aw)])) rfl rfl (hb hby d8_30) k) ?_
  rw [show ((upd gw (2 : Int32).toNatClampNeg (FP.dsub (gw 2) (gt 2))) (3 : Int32).toNatClampNeg) = (gw 3) from rfl]
  refine Go.step (g' := (mkF m 33 #[.val (.ref o0), .val (.ref o1), .val (.int p2), .val (.int p3), .val (.ref aw), .val (.ref at_), .val (.int (3 : Int32))] [(.ref at_), (.double (gw 3)), (.int (3 : Int32)), (.ref aw)])) (fun _ k => XS.aload X3.here hx rfl (hb hby d8_31) rfl rfl  k) ?_
  refine Go.step (g' := (mkF m 35 #[.val (.ref o0), .val (.ref o1), .val (.int p2), .val (.int p3), .val (.ref aw), .val (.ref at_), .val (.int (3 : Int32))] [(.int (3 : Int32)), (.ref at_), (.double (gw 3)), (.int (3 : Int32)), (.ref aw)])) (fun _ k => XS.iload X3.here hx rfl (hb hby d8_33) rfl  k) ?_
  refine Go.step (g' := (mkF m 36 #[.val (.ref o0), .val (.ref o1), .val (.int p2), .val (.int p3), .val (.ref aw), .val (.ref at_), .val (.int (3 : Int32))] [(.double (gt (3 : Int32).toNatClampNeg)), (.double (gw 3)), (.int (3 : Int32)), (.ref aw)])) (fun _ k => getAD X3 hx hZ e3 (A_t.other W3 (Ne.symm n3)) (j := (3 : Int32)) (by decide) (gf := (mkF m 35 #[.val (.ref o0), .val (.ref o1), .val (.int p2), .val (.int p3), .val (.ref aw), .val (.ref at_), .val (.int (3 : Int32))] [(.int (3 : Int32)), (.ref at_), (.double (gw 3)), (.int (3 : Int32)), (.ref aw)])) rfl rfl (hb hby d8_35) k) ?_
  rw [show (gt (3 : Int32).toNatClampNeg) = (gt 3) from rfl]
  refine Go.step (g' := (mkF m 37 #[.val (.ref o0), .val (.ref o1), .val (.int p2), .val (.int p3), .val (.ref aw), .val (.ref at_), .val (.int (3 : Int32))] [(.double (FP.dsub (gw 3) (gt 3))), (.int (3 : Int32)), (.ref aw)])) (fun _ k => XS.dsubS X3.here hx rfl (hb hby d8_36) rfl (hnan 3) rfl k) ?_
  obtain ⟨T5, h5, lc5, X5, e5, W5, N5, V5, st5⟩ := putAD X3 hx hZ e3 V3 (j := (3 : Int32)) (by decide) N3 g_aw (gf := (mkF m 37 #[.val (.ref o0), .val (.ref o1), .val (.int p2), .val (.int p3), .val (.ref aw), .val (.ref at_), .val (.int (3 : Int32))] [(.double (FP.dsub (gw 3) (gt 3))), (.int (3 : Int32)), (.ref aw)])) rfl rfl (hb hby d8_37)
  refine Go.step (g' := (mkF m 38 #[.val (.ref o0), .val (.ref o1), .val (.int p2), .val (.int p3), .val (.ref aw), .val (.ref at_), .val (.int (3 : Int32))] [])) st5 ?_
  have Q6 := (Nat.le_trans (Nat.le_trans Z0 (Keep.of_wr W3).1) (Keep.of_wr W5).1)
  refine Go.step (g' := (mkF m 41 #[.val (.ref o0), .val (.ref o1), .val (.int p2), .val (.int p3), .val (.ref aw), .val (.ref at_), .val (.int ((3 : Int32) + (1 : Int32)))] [])) (fun _ k => XS.iinc X5.here hx rfl (hb hby d8_38) rfl (l' := #[.val (.ref o0), .val (.ref o1), .val (.int p2), .val (.int p3), .val (.ref aw), .val (.ref at_), .val (.int ((3 : Int32) + (1 : Int32)))]) rfl k) ?_
  rw [show ((3 : Int32) + (1 : Int32)) = (4 : Int32) from by decide]
  refine Go.step (g' := (mkF m 17 #[.val (.ref o0), .val (.ref o1), .val (.int p2), .val (.int p3), .val (.ref aw), .val (.ref at_), .val (.int (4 : Int32))] [])) (fun _ k => XS.goto X5.here hx rfl (pc0 := 41) (pc' := 17) rfl (hb hby d8_41) (by decide) (by decide) k) ?_
  skip
  refine Go.step (g' := (mkF m 19 #[.val (.ref o0), .val (.ref o1), .val (.int p2), .val (.int p3), .val (.ref aw), .val (.ref at_), .val (.int (4 : Int32))] [(.int (4 : Int32))])) (fun _ k => XS.iload X5.here hx rfl (hb hby d8_17) rfl  k) ?_
  refine Go.step (g' := (mkF m 20 #[.val (.ref o0), .val (.ref o1), .val (.int p2), .val (.int p3), .val (.ref aw), .val (.ref at_), .val (.int (4 : Int32))] [(.int (2 : Int32)), (.int (4 : Int32))])) (fun _ k => XS.iconst X5.here hx rfl (hb hby d8_19) k) ?_
  refine Go.step (g' := (mkF m 21 #[.val (.ref o0), .val (.ref o1), .val (.int p2), .val (.int p3), .val (.ref aw), .val (.ref at_), .val (.int (4 : Int32))] [(.int p3), (.int (2 : Int32)), (.int (4 : Int32))])) (fun _ k => XS.iloadN X5.here hx rfl (hb hby d8_20) rfl  k) ?_
  refine Go.step (g' := (mkF m 22 #[.val (.ref o0), .val (.ref o1), .val (.int p2), .val (.int p3), .val (.ref aw), .val (.ref at_), .val (.int (4 : Int32))] [(.int ((2 : Int32) * p3)), (.int (4 : Int32))])) (fun _ k => XS.imul X5.here hx rfl (hb hby d8_21) rfl k) ?_
  rw [show ((2 : Int32) * p3) = (8 : Int32) from by rw [hl]; decide]
  refine Go.step (g' := (mkF m 25 #[.val (.ref o0), .val (.ref o1), .val (.int p2), .val (.int p3), .val (.ref aw), .val (.ref at_), .val (.int (4 : Int32))] [])) (fun _ k => XS.icmpNo X5.here hx rfl (hb hby d8_22) rfl (tlt (by decide : (4 : Int32) < (8 : Int32))).2.1 k) ?_
  skip
  refine Go.step (g' := (mkF m 27 #[.val (.ref o0), .val (.ref o1), .val (.int p2), .val (.int p3), .val (.ref aw), .val (.ref at_), .val (.int (4 : Int32))] [(.ref aw)])) (fun _ k => XS.aload X5.here hx rfl (hb hby d8_25) rfl rfl  k) ?_
  refine Go.step (g' := (mkF m 29 #[.val (.ref o0), .val (.ref o1), .val (.int p2), .val (.int p3), .val (.ref aw), .val (.ref at_), .val (.int (4 : Int32))] [(.int (4 : Int32)), (.ref aw)])) (fun _ k => XS.iload X5.here hx rfl (hb hby d8_27) rfl  k) ?_
  refine Go.step (g' := (mkF m 30 #[.val (.ref o0), .val (.ref o1), .val (.int p2), .val (.int p3), .val (.ref aw), .val (.ref at_), .val (.int (4 : Int32))] [(.int (4 : Int32)), (.ref aw), (.int (4 : Int32)), (.ref aw)])) (fun _ k => Jvm.Free.XT.dup2 X5.here hx rfl (hb hby d8_29) rfl rfl rfl k) ?_
  refine Go.step (g' := (mkF m 31 #[.val (.ref o0), .val (.ref o1), .val (.int p2), .val (.int p3), .val (.ref aw), .val (.ref at_), .val (.int (4 : Int32))] [(.double ((upd (upd gw (2 : Int32).toNatClampNeg (FP.dsub (gw 2) (gt 2))) (3 : Int32).toNatClampNeg (FP.dsub (gw 3) (gt 3))) (4 : Int32).toNatClampNeg)), (.int (4 : Int32)), (.ref aw)])) (fun _ k => getAD X5 hx hZ e5 V5 (j := (4 : Int32)) (by decide) (gf := (mkF m 30 #[.val (.ref o0), .val (.ref o1), .val (.int p2), .val (.int p3), .val (.ref aw), .val (.ref at_), .val (.int (4 : Int32))] [(.int (4 : Int32)), (.ref aw), (.int (4 : Int32)), (.ref aw)])) rfl rfl (hb hby d8_30) k) ?_
  rw [show ((upd (upd gw (2 : Int32).toNatClampNeg (FP.dsub (gw 2) (gt 2))) (3 : Int32).toNatClampNeg (FP.dsub (gw 3) (gt 3))) (4 : Int32).toNatClampNeg) = (gw 4) from rfl]
  refine Go.step (g' := (mkF m 33 #[.val (.ref o0), .val (.ref o1), .val (.int p2), .val (.int p3), .val (.ref aw), .val (.ref at_), .val (.int (4 : Int32))] [(.ref at_), (.double (gw 4)), (.int (4 : Int32)), (.ref aw)])) (fun _ k => XS.aload X5.here hx rfl (hb hby d8_31) rfl rfl  k) ?_
  refine Go.step (g' := (mkF m 35 #[.val (.ref o0), .val (.ref o1), .val (.int p2), .val (.int p3), .val (.ref aw), .val (.ref at_), .val (.int (4 : Int32))] [(.int (4 : Int32)), (.ref at_), (.double (gw 4)), (.int (4 : Int32)), (.ref aw)])) (fun _ k => XS.iload X5.here hx rfl (hb hby d8_33) rfl  k) ?_
  refine Go.step (g' := (mkF m 36 #[.val (.ref o0), .val (.ref o1), .val (.int p2), .val (.int p3), .val (.ref aw), .val (.ref at_), .val (.int (4 : Int32))] [(.double (gt (4 : Int32).toNatClampNeg)), (.double (gw 4)), (.int (4 : Int32)), (.ref aw)])) (fun _ k => getAD X5 hx hZ e5 ((A_t.other W3 (Ne.symm n3)).other W5 (Ne.symm n3)) (j := (4 : Int32)) (by decide) (gf := (mkF m 35 #[.val (.ref o0), .val (.ref o1), .val (.int p2), .val (.int p3), .val (.ref aw), .val (.ref at_), .val (.int (4 : Int32))] [(.int (4 : Int32)), (.ref at_), (.double (gw 4)), (.int (4 : Int32)), (.ref aw)])) rfl rfl (hb hby d8_35) k) ?_
  rw [show (gt (4 : Int32).toNatClampNeg) = (gt 4) from rfl]
  refine Go.step (g' := (mkF m 37 #[.val (.ref o0), .val (.ref o1), .val (.int p2), .val (.int p3), .val (.ref aw), .val (.ref at_), .val (.int (4 : Int32))] [(.double (FP.dsub (gw 4) (gt 4))), (.int (4 : Int32)), (.ref aw)])) (fun _ k => XS.dsubS X5.here hx rfl (hb hby d8_36) rfl (hnan 4) rfl k) ?_
  obtain ⟨T7, h7, lc7, X7, e7, W7, N7, V7, st7⟩ := putAD X5 hx hZ e5 V5 (j := (4 : Int32)) (by decide) N5 g_aw (gf := (mkF m 37 #[.val (.ref o0), .val (.ref o1), .val (.int p2), .val (.int p3), .val (.ref aw), .val (.ref at_), .val (.int (4 : Int32))] [(.double (FP.dsub (gw 4) (gt 4))), (.int (4 : Int32)), (.ref aw)])) rfl rfl (hb hby d8_37)
  refine Go.step (g' := (mkF m 38 #[.val (.ref o0), .val (.ref o1), .val (.int p2), .val (.int p3), .val (.ref aw), .val (.ref at_), .val (.int (4 : Int32))] [])) st7 ?_
  have Q8 := (((F0.other W3 (Or.inl n1)).other W5 (Or.inl n1)).other W7 (Or.inl n1))
  have Q9 := (((F1.other W3 (Or.inl n2)).other W5 (Or.inl n2)).other W7 (Or.inl n2))
  have Q10 := (((A_t.other W3 (Ne.symm n3)).other W5 (Ne.symm n3)).other W7 (Ne.symm n3))
  have Q11 := ((Q4.wr W5 (Or.inl (List.mem_of_getElem? (i := 0) rfl))).wr W7 (Or.inl (List.mem_of_getElem? (i := 0) rfl)))
  refine Go.step (g' := (mkF m 41 #[.val (.ref o0), .val (.ref o1), .val (.int p2), .val (.int p3), .val (.ref aw), .val (.ref at_), .val (.int ((4 : Int32) + (1 : Int32)))] [])) (fun _ k => XS.iinc X7.here hx rfl (hb hby d8_38) rfl (l' := #[.val (.ref o0), .val (.ref o1), .val (.int p2), .val (.int p3), .val (.ref aw), .val (.ref at_), .val (.int ((4 : Int32) + (1 : Int32)))]) rfl k) ?_
  rw [show ((4 : Int32) + (1 : Int32)) = (5 : Int32) from by decide]
  refine Go.step (g' := (mkF m 17 #[.val (.ref o0), .val (.ref o1), .val (.int p2), .val (.int p3), .val (.ref aw), .val (.ref at_), .val (.int (5 : Int32))] [])) (fun _ k => XS.goto X7.here hx rfl (pc0 := 41) (pc' := 17) rfl (hb hby d8_41) (by decide) (by decide) k) ?_
  skip
  refine Go.step (g' := (mkF m 19 #[.val (.ref o0), .val (.ref o1), .val (.int p2), .val (.int p3), .val (.ref aw), .val (.ref at_), .val (.int (5 : Int32))] [(.int (5 : Int32))])) (fun _ k => XS.iload X7.here hx rfl (hb hby d8_17) rfl  k) ?_
  refine Go.step (g' := (mkF m 20 #[.val (.ref o0), .val (.ref o1), .val (.int p2), .val (.int p3), .val (.ref aw), .val (.ref at_), .val (.int (5 : Int32))] [(.int (2 : Int32)), (.int (5 : Int32))])) (fun _ k => XS.iconst X7.here hx rfl (hb hby d8_19) k) ?_
  refine Go.step (g' := (mkF m 21 #[.val (.ref o0), .val (.ref o1), .val (.int p2), .val (.int p3), .val (.ref aw), .val (.ref at_), .val (.int (5 : Int32))] [(.int p3), (.int (2 : Int32)), (.int (5 : Int32))])) (fun _ k => XS.iloadN X7.here hx rfl (hb hby d8_20) rfl  k) ?_
  refine Go.step (g' := (mkF m 22 #[.val (.ref o0), .val (.ref o1), .val (.int p2), .val (.int p3), .val (.ref aw), .val (.ref at_), .val (.int (5 : Int32))] [(.int ((2 : Int32) * p3)), (.int (5 : Int32))])) (fun _ k => XS.imul X7.here hx rfl (hb hby d8_21) rfl k) ?_
  rw [show ((2 : Int32) * p3) = (8 : Int32) from by rw [hl]; decide]
  refine Go.step (g' := (mkF m 25 #[.val (.ref o0), .val (.ref o1), .val (.int p2), .val (.int p3), .val (.ref aw), .val (.ref at_), .val (.int (5 : Int32))] [])) (fun _ k => XS.icmpNo X7.here hx rfl (hb hby d8_22) rfl (tlt (by decide : (5 : Int32) < (8 : Int32))).2.1 k) ?_
  skip
  refine Go.step (g' := (mkF m 27 #[.val (.ref o0), .val (.ref o1), .val (.int p2), .val (.int p3), .val (.ref aw), .val (.ref at_), .val (.int (5 : Int32))] [(.ref aw)])) (fun _ k => XS.aload X7.here hx rfl (hb hby d8_25) rfl rfl  k) ?_
  refine Go.step (g' := (mkF m 29 #[.val (.ref o0), .val (.ref o1), .val (.int p2), .val (.int p3), .val (.ref aw), .val (.ref at_), .val (.int (5 : Int32))] [(.int (5 : Int32)), (.ref aw)])) (fun _ k => XS.iload X7.here hx rfl (hb hby d8_27) rfl  k) ?_
  refine Go.step (g' := (mkF m 30 #[.val (.ref o0), .val (.ref o1), .val (.int p2), .val (.int p3), .val (.ref aw), .val (.ref at_), .val (.int (5 : Int32))] [(.int (5 : Int32)), (.ref aw), (.int (5 : Int32)), (.ref aw)])) (fun _ k => Jvm.Free.XT.dup2 X7.here hx rfl (hb hby d8_29) rfl rfl rfl k) ?_
  refine Go.step (g' := (mkF m 31 #[.val (.ref o0), .val (.ref o1), .val (.int p2), .val (.int p3), .val (.ref aw), .val (.ref at_), .val (.int (5 : Int32))] [(.double ((upd (upd (upd gw (2 : Int32).toNatClampNeg (FP.dsub (gw 2) (gt 2))) (3 : Int32).toNatClampNeg (FP.dsub (gw 3) (gt 3))) (4 : Int32).toNatClampNeg (FP.dsub (gw 4) (gt 4))) (5 : Int32).toNatClampNeg)), (.int (5 : Int32)), (.ref aw)])) (fun _ k => getAD X7 hx hZ e7 V7 (j := (5 : Int32)) (by decide) (gf := (mkF m 30 #[.val (.ref o0), .val (.ref o1), .val (.int p2), .val (.int p3), .val (.ref aw), .val (.ref at_), .val (.int (5 : Int32))] [(.int (5 : Int32)), (.ref aw), (.int (5 : Int32)), (.ref aw)])) rfl rfl (hb hby d8_30) k) ?_
  rw [show ((upd (upd (upd gw (2 : Int32).toNatClampNeg (FP.dsub (gw 2) (gt 2))) (3 : Int32).toNatClampNeg (FP.dsub (gw 3) (gt 3))) (4 : Int32).toNatClampNeg (FP.dsub (gw 4) (gt 4))) (5 : Int32).toNatClampNeg) = (gw 5) from rfl]
  refine Go.step (g' := (mkF m 33 #[.val (.ref o0), .val (.ref o1), .val (.int p2), .val (.int p3), .val (.ref aw), .val (.ref at_), .val (.int (5 : Int32))] [(.ref at_), (.double (gw 5)), (.int (5 : Int32)), (.ref aw)])) (fun _ k => XS.aload X7.here hx rfl (hb hby d8_31) rfl rfl  k) ?_
  refine Go.step (g' := (mkF m 35 #[.val (.ref o0), .val (.ref o1), .val (.int p2), .val (.int p3), .val (.ref aw), .val (.ref at_), .val (.int (5 : Int32))] [(.int (5 : Int32)), (.ref at_), (.double (gw 5)), (.int (5 : Int32)), (.ref aw)])) (fun _ k => XS.iload X7.here hx rfl (hb hby d8_33) rfl  k) ?_
  refine Go.step (g' := (mkF m 36 #[.val (.ref o0), .val (.ref o1), .val (.int p2), .val (.int p3), .val (.ref aw), .val (.ref at_), .val (.int (5 : Int32))] [(.double (gt (5 : Int32).toNatClampNeg)), (.double (gw 5)), (.int (5 : Int32)), (.ref aw)])) (fun _ k => getAD X7 hx hZ e7 Q10 (j := (5 : Int32)) (by decide) (gf := (mkF m 35 #[.val (.ref o0), .val (.ref o1), .val (.int p2), .val (.int p3), .val (.ref aw), .val (.ref at_), .val (.int (5 : Int32))] [(.int (5 : Int32)), (.ref at_), (.double (gw 5)), (.int (5 : Int32)), (.ref aw)])) rfl rfl (hb hby d8_35) k) ?_
  rw [show (gt (5 : Int32).toNatClampNeg) = (gt 5) from rfl]
  refine Go.step (g' := (mkF m 37 #[.val (.ref o0), .val (.ref o1), .val (.int p2), .val (.int p3), .val (.ref aw), .val (.ref at_), .val (.int (5 : Int32))] [(.double (FP.dsub (gw 5) (gt 5))), (.int (5 : Int32)), (.ref aw)])) (fun _ k => XS.dsubS X7.here hx rfl (hb hby d8_36) rfl (hnan 5) rfl k) ?_
  obtain ⟨T12, h12, lc12, X12, e12, W12, N12, V12, st12⟩ := putAD X7 hx hZ e7 V7 (j := (5 : Int32)) (by decide) N7 g_aw (gf := (mkF m 37 #[.val (.ref o0), .val (.ref o1), .val (.int p2), .val (.int p3), .val (.ref aw), .val (.ref at_), .val (.int (5 : Int32))] [(.double (FP.dsub (gw 5) (gt 5))), (.int (5 : Int32)), (.ref aw)])) rfl rfl (hb hby d8_37)
  refine Go.step (g' := (mkF m 38 #[.val (.ref o0), .val (.ref o1), .val (.int p2), .val (.int p3), .val (.ref aw), .val (.ref at_), .val (.int (5 : Int32))] [])) st12 ?_
  have Q13 := (Nat.le_trans (Nat.le_trans Q6 (Keep.of_wr W7).1) (Keep.of_wr W12).1)
  refine Go.step (g' := (mkF m 41 #[.val (.ref o0), .val (.ref o1), .val (.int p2), .val (.int p3), .val (.ref aw), .val (.ref at_), .val (.int ((5 : Int32) + (1 : Int32)))] [])) (fun _ k => XS.iinc X12.here hx rfl (hb hby d8_38) rfl (l' := #[.val (.ref o0), .val (.ref o1), .val (.int p2), .val (.int p3), .val (.ref aw), .val (.ref at_), .val (.int ((5 : Int32) + (1 : Int32)))]) rfl k) ?_
  rw [show ((5 : Int32) + (1 : Int32)) = (6 : Int32) from by decide]
  refine Go.step (g' := (mkF m 17 #[.val (.ref o0), .val (.ref o1), .val (.int p2), .val (.int p3), .val (.ref aw), .val (.ref at_), .val (.int (6 : Int32))] [])) (fun _ k => XS.goto X12.here hx rfl (pc0 := 41) (pc' := 17) rfl (hb hby d8_41) (by decide) (by decide) k) ?_
  skip
  refine Go.step (g' := (mkF m 19 #[.val (.ref o0), .val (.ref o1), .val (.int p2), .val (.int p3), .val (.ref aw), .val (.ref at_), .val (.int (6 : Int32))] [(.int (6 : Int32))])) (fun _ k => XS.iload X12.here hx rfl (hb hby d8_17) rfl  k) ?_
  refine Go.step (g' := (mkF m 20 #[.val (.ref o0), .val (.ref o1), .val (.int p2), .val (.int p3), .val (.ref aw), .val (.ref at_), .val (.int (6 : Int32))] [(.int (2 : Int32)), (.int (6 : Int32))])) (fun _ k => XS.iconst X12.here hx rfl (hb hby d8_19) k) ?_
  refine Go.step (g' := (mkF m 21 #[.val (.ref o0), .val (.ref o1), .val (.int p2), .val (.int p3), .val (.ref aw), .val (.ref at_), .val (.int (6 : Int32))] [(.int p3), (.int (2 : Int32)), (.int (6 : Int32))])) (fun _ k => XS.iloadN X12.here hx rfl (hb hby d8_20) rfl  k) ?_
  refine Go.step (g' := (mkF m 22 #[.val (.ref o0), .val (.ref o1), .val (.int p2), .val (.int p3), .val (.ref aw), .val (.ref at_), .val (.int (6 : Int32))] [(.int ((2 : Int32) * p3)), (.int (6 : Int32))])) (fun _ k => XS.imul X12.here hx rfl (hb hby d8_21) rfl k) ?_
  rw [show ((2 : Int32) * p3) = (8 : Int32) from by rw [hl]; decide]
  refine Go.step (g' := (mkF m 25 #[.val (.ref o0), .val (.ref o1), .val (.int p2), .val (.int p3), .val (.ref aw), .val (.ref at_), .val (.int (6 : Int32))] [])) (fun _ k => XS.icmpNo X12.here hx rfl (hb hby d8_22) rfl (tlt (by decide : (6 : Int32) < (8 : Int32))).2.1 k) ?_
  skip
  refine Go.step (g' := (mkF m 27 #[.val (.ref o0), .val (.ref o1), .val (.int p2), .val (.int p3), .val (.ref aw), .val (.ref at_), .val (.int (6 : Int32))] [(.ref aw)])) (fun _ k => XS.aload X12.here hx rfl (hb hby d8_25) rfl rfl  k) ?_
  refine Go.step (g' := (mkF m 29 #[.val (.ref o0), .val (.ref o1), .val (.int p2), .val (.int p3), .val (.ref aw), .val (.ref at_), .val (.int (6 : Int32))] [(.int (6 : Int32)), (.ref aw)])) (fun _ k => XS.iload X12.here hx rfl (hb hby d8_27) rfl  k) ?_
  refine Go.step (g' := (mkF m 30 #[.val (.ref o0), .val (.ref o1), .val (.int p2), .val (.int p3), .val (.ref aw), .val (.ref at_), .val (.int (6 : Int32))] [(.int (6 : Int32)), (.ref aw), (.int (6 : Int32)), (.ref aw)])) (fun _ k => Jvm.Free.XT.dup2 X12.here hx rfl (hb hby d8_29) rfl rfl rfl k) ?_
  refine Go.step (g' := (mkF m 31 #[.val (.ref o0), .val (.ref o1), .val (.int p2), .val (.int p3), .val (.ref aw), .val (.ref at_), .val (.int (6 : Int32))] [(.double ((upd (upd (upd (upd gw (2 : Int32).toNatClampNeg (FP.dsub (gw 2) (gt 2))) (3 : Int32).toNatClampNeg (FP.dsub (gw 3) (gt 3))) (4 : Int32).toNatClampNeg (FP.dsub (gw 4) (gt 4))) (5 : Int32).toNatClampNeg (FP.dsub (gw 5) (gt 5))) (6 : Int32).toNatClampNeg)), (.int (6 : Int32)), (.ref aw)])) (fun _ k => getAD X12 hx hZ e12 V12 (j := (6 : Int32)) (by decide) (gf := (mkF m 30 #[.val (.ref o0), .val (.ref o1), .val (.int p2), .val (.int p3), .val (.ref aw), .val (.ref at_), .val (.int (6 : Int32))] [(.int (6 : Int32)), (.ref aw), (.int (6 : Int32)), (.ref aw)])) rfl rfl (hb hby d8_30) k) ?_
  rw [show ((upd (upd (upd (upd gw (2 : Int32).toNatClampNeg (FP.dsub (gw 2) (gt 2))) (3 : Int32).toNatClampNeg (FP.dsub (gw 3) (gt 3))) (4 : Int32).toNatClampNeg (FP.dsub (gw 4) (gt 4))) (5 : Int32).toNatClampNeg (FP.dsub (gw 5) (gt 5))) (6 : Int32).toNatClampNeg) = (gw 6) from rfl]
  refine Go.step (g' := (mkF m 33 #[.val (.ref o0), .val (.ref o1), .val (.int p2), .val (.int p3), .val (.ref aw), .val (.ref at_), .val (.int (6 : Int32))] [(.ref at_), (.double (gw 6)), (.int (6 : Int32)), (.ref aw)])) (fun _ k => XS.aload X12.here hx rfl (hb hby d8_31) rfl rfl  k) ?_
  refine Go.step (g' := (mkF m 35 #[.val (.ref o0), .val (.ref o1), .val (.int p2), .val (.int p3), .val (.ref aw), .val (.ref at_), .val (.int (6 : Int32))] [(.int (6 : Int32)), (.ref at_), (.double (gw 6)), (.int (6 : Int32)), (.ref aw)])) (fun _ k => XS.iload X12.here hx rfl (hb hby d8_33) rfl  k) ?_
  refine Go.step (g' := (mkF m 36 #[.val (.ref o0), .val (.ref o1), .val (.int p2), .val (.int p3), .val (.ref aw), .val (.ref at_), .val (.int (6 : Int32))] [(.double (gt (6 : Int32).toNatClampNeg)), (.double (gw 6)), (.int (6 : Int32)), (.ref aw)])) (fun _ k => getAD X12 hx hZ e12 (Q10.other W12 (Ne.symm n3)) (j := (6 : Int32)) (by decide) (gf := (mkF m 35 #[.val (.ref o0), .val (.ref o1), .val (.int p2), .val (.int p3), .val (.ref aw), .val (.ref at_), .val (.int (6 : Int32))] [(.int (6 : Int32)), (.ref at_), (.double (gw 6)), (.int (6 : Int32)), (.ref aw)])) rfl rfl (hb hby d8_35) k) ?_
  rw [show (gt (6 : Int32).toNatClampNeg) = (gt 6) from rfl]
  refine Go.step (g' := (mkF m 37 #[.val (.ref o0), .val (.ref o1), .val (.int p2), .val (.int p3), .val (.ref aw), .val (.ref at_), .val (.int (6 : Int32))] [(.double (FP.dsub (gw 6) (gt 6))), (.int (6 : Int32)), (.ref aw)])) (fun _ k => XS.dsubS X12.here hx rfl (hb hby d8_36) rfl (hnan 6) rfl k) ?_
  obtain ⟨T14, h14, lc14, X14, e14, W14, N14, V14, st14⟩ := putAD X12 hx hZ e12 V12 (j := (6 : Int32)) (by decide) N12 g_aw (gf := (mkF m 37 #[.val (.ref o0), .val (.ref o1), .val (.int p2), .val (.int p3), .val (.ref aw), .val (.ref at_), .val (.int (6 : Int32))] [(.double (FP.dsub (gw 6) (gt 6))), (.int (6 : Int32)), (.ref aw)])) rfl rfl (hb hby d8_37)
  refine Go.step (g' := (mkF m 38 #[.val (.ref o0), .val (.ref o1), .val (.int p2), .val (.int p3), .val (.ref aw), .val (.ref at_), .val (.int (6 : Int32))] [])) st14 ?_
  have Q15 := ((Q11.wr W12 (Or.inl (List.mem_of_getElem? (i := 0) rfl))).wr W14 (Or.inl (List.mem_of_getElem? (i := 0) rfl)))
  refine Go.step (g' := (mkF m 41 #[.val (.ref o0), .val (.ref o1), .val (.int p2), .val (.int p3), .val (.ref aw), .val (.ref at_), .val (.int ((6 : Int32) + (1 : Int32)))] [])) (fun _ k => XS.iinc X14.here hx rfl (hb hby d8_38) rfl (l' := #[.val (.ref o0), .val (.ref o1), .val (.int p2), .val (.int p3), .val (.ref aw), .val (.ref at_), .val (.int ((6 : Int32) + (1 : Int32)))]) rfl k) ?_
  rw [show ((6 : Int32) + (1 : Int32)) = (7 : Int32) from by decide]
  refine Go.step (g' := (mkF m 17 #[.val (.ref o0), .val (.ref o1), .val (.int p2), .val (.int p3), .val (.ref aw), .val (.ref at_), .val (.int (7 : Int32))] [])) (fun _ k => XS.goto X14.here hx rfl (pc0 := 41) (pc' := 17) rfl (hb hby d8_41) (by decide) (by decide) k) ?_
  skip
  refine Go.step (g' := (mkF m 19 #[.val (.ref o0), .val (.ref o1), .val (.int p2), .val (.int p3), .val (.ref aw), .val (.ref at_), .val (.int (7 : Int32))] [(.int (7 : Int32))])) (fun _ k => XS.iload X14.here hx rfl (hb hby d8_17) rfl  k) ?_
  refine Go.step (g' := (mkF m 20 #[.val (.ref o0), .val (.ref o1), .val (.int p2), .val (.int p3), .val (.ref aw), .val (.ref at_), .val (.int (7 : Int32))] [(.int (2 : Int32)), (.int (7 : Int32))])) (fun _ k => XS.iconst X14.here hx rfl (hb hby d8_19) k) ?_
  refine Go.step (g' := (mkF m 21 #[.val (.ref o0), .val (.ref o1), .val (.int p2), .val (.int p3), .val (.ref aw), .val (.ref at_), .val (.int (7 : Int32))] [(.int p3), (.int (2 : Int32)), (.int (7 : Int32))])) (fun _ k => XS.iloadN X14.here hx rfl (hb hby d8_20) rfl  k) ?_
  refine Go.step (g' := (mkF m 22 #[.val (.ref o0), .val (.ref o1), .val (.int p2), .val (.int p3), .val (.ref aw), .val (.ref at_), .val (.int (7 : Int32))] [(.int ((2 : Int32) * p3)), (.int (7 : Int32))])) (fun _ k => XS.imul X14.here hx rfl (hb hby d8_21) rfl k) ?_
  rw [show ((2 : Int32) * p3) = (8 : Int32) from by rw [hl]; decide]
  refine Go.step (g' := (mkF m 25 #[.val (.ref o0), .val (.ref o1), .val (.int p2), .val (.int p3), .val (.ref aw), .val (.ref at_), .val (.int (7 : Int32))] [])) (fun _ k => XS.icmpNo X14.here hx rfl (hb hby d8_22) rfl (tlt (by decide : (7 : Int32) < (8 : Int32))).2.1 k) ?_
  skip
  refine Go.step (g' := (mkF m 27 #[.val (.ref o0), .val (.ref o1), .val (.int p2), .val (.int p3), .val (.ref aw), .val (.ref at_), .val (.int (7 : Int32))] [(.ref aw)])) (fun _ k => XS.aload X14.here hx rfl (hb hby d8_25) rfl rfl  k) ?_
  refine Go.step (g' := (mkF m 29 #[.val (.ref o0), .val (.ref o1), .val (.int p2), .val (.int p3), .val (.ref aw), .val (.ref at_), .val (.int (7 : Int32))] [(.int (7 : Int32)), (.ref aw)])) (fun _ k => XS.iload X14.here hx rfl (hb hby d8_27) rfl  k) ?_
  refine Go.step (g' := (mkF m 30 #[.val (.ref o0), .val (.ref o1), .val (.int p2), .val (.int p3), .val (.ref aw), .val (.ref at_), .val (.int (7 : Int32))] [(.int (7 : Int32)), (.ref aw), (.int (7 : Int32)), (.ref aw)])) (fun _ k => Jvm.Free.XT.dup2 X14.here hx rfl (hb hby d8_29) rfl rfl rfl k) ?_
  refine Go.step (g' := (mkF m 31 #[.val (.ref o0), .val (.ref o1), .val (.int p2), .val (.int p3), .val (.ref aw), .val (.ref at_), .val (.int (7 : Int32))] [(.double ((upd (upd (upd (upd (upd gw (2 : Int32).toNatClampNeg (FP.dsub (gw 2) (gt 2))) (3 : Int32).toNatClampNeg (FP.dsub (gw 3) (gt 3))) (4 : Int32).toNatClampNeg (FP.dsub (gw 4) (gt 4))) (5 : Int32).toNatClampNeg (FP.dsub (gw 5) (gt 5))) (6 : Int32).toNatClampNeg (FP.dsub (gw 6) (gt 6))) (7 : Int32).toNatClampNeg)), (.int (7 : Int32)), (.ref aw)])) (fun _ k => getAD X14 hx hZ e14 V14 (j := (7 : Int32)) (by decide) (gf := (mkF m 30 #[.val (.ref o0), .val (.ref o1), .val (.int p2), .val (.int p3), .val (.ref aw), .val (.ref at_), .val (.int (7 : Int32))] [(.int (7 : Int32)), (.ref aw), (.int (7 : Int32)), (.ref aw)])) rfl rfl (hb hby d8_30) k) ?_
  rw [show ((upd (upd (upd (upd (upd gw (2 : Int32).toNatClampNeg (FP.dsub (gw 2) (gt 2))) (3 : Int32).toNatClampNeg (FP.dsub (gw 3) (gt 3))) (4 : Int32).toNatClampNeg (FP.dsub (gw 4) (gt 4))) (5 : Int32).toNatClampNeg (FP.dsub (gw 5) (gt 5))) (6 : Int32).toNatClampNeg (FP.dsub (gw 6) (gt 6))) (7 : Int32).toNatClampNeg) = (gw 7) from rfl]
  refine Go.step (g' := (mkF m 33 #[.val (.ref o0), .val (.ref o1), .val (.int p2), .val (.int p3), .val (.ref aw), .val (.ref at_), .val (.int (7 : Int32))] [(.ref at_), (.double (gw 7)), (.int (7 : Int32)), (.ref aw)])) (fun _ k => XS.aload X14.here hx rfl (hb hby d8_31) rfl rfl  k) ?_
  refine Go.step (g' := (mkF m 35 #[.val (.ref o0), .val (.ref o1), .val (.int p2), .val (.int p3), .val (.ref aw), .val (.ref at_), .val (.int (7 : Int32))] [(.int (7 : Int32)), (.ref at_), (.double (gw 7)), (.int (7 : Int32)), (.ref aw)])) (fun _ k => XS.iload X14.here hx rfl (hb hby d8_33) rfl  k) ?_
  refine Go.step (g' := (mkF m 36 #[.val (.ref o0), .val (.ref o1), .val (.int p2), .val (.int p3), .val (.ref aw), .val (.ref at_), .val (.int (7 : Int32))] [(.double (gt (7 : Int32).toNatClampNeg)), (.double (gw 7)), (.int (7 : Int32)), (.ref aw)])) (fun _ k => getAD X14 hx hZ e14 ((Q10.other W12 (Ne.symm n3)).other W14 (Ne.symm n3)) (j := (7 : Int32)) (by decide) (gf := (mkF m 35 #[.val (.ref o0), .val (.ref o1), .val (.int p2), .val (.int p3), .val (.ref aw), .val (.ref at_), .val (.int (7 : Int32))] [(.int (7 : Int32)), (.ref at_), (.double (gw 7)), (.int (7 : Int32)), (.ref aw)])) rfl rfl (hb hby d8_35) k) ?_
  rw [show (gt (7 : Int32).toNatClampNeg) = (gt 7) from rfl]
  refine Go.step (g' := (mkF m 37 #[.val (.ref o0), .val (.ref o1), .val (.int p2), .val (.int p3), .val (.ref aw), .val (.ref at_), .val (.int (7 : Int32))] [(.double (FP.dsub (gw 7) (gt 7))), (.int (7 : Int32)), (.ref aw)])) (fun _ k => XS.dsubS X14.here hx rfl (hb hby d8_36) rfl (hnan 7) rfl k) ?_
  obtain ⟨T16, h16, lc16, X16, e16, W16, N16, V16, st16⟩ := putAD X14 hx hZ e14 V14 (j := (7 : Int32)) (by decide) N14 g_aw (gf := (mkF m 37 #[.val (.ref o0), .val (.ref o1), .val (.int p2), .val (.int p3), .val (.ref aw), .val (.ref at_), .val (.int (7 : Int32))] [(.double (FP.dsub (gw 7) (gt 7))), (.int (7 : Int32)), (.ref aw)])) rfl rfl (hb hby d8_37)
  refine Go.step (g' := (mkF m 38 #[.val (.ref o0), .val (.ref o1), .val (.int p2), .val (.int p3), .val (.ref aw), .val (.ref at_), .val (.int (7 : Int32))] [])) st16 ?_
  have Q17 := (((Q8.other W12 (Or.inl n1)).other W14 (Or.inl n1)).other W16 (Or.inl n1))
  have Q18 := (((Q9.other W12 (Or.inl n2)).other W14 (Or.inl n2)).other W16 (Or.inl n2))
  have Q19 := (((Q10.other W12 (Ne.symm n3)).other W14 (Ne.symm n3)).other W16 (Ne.symm n3))
  have Q20 := (Nat.le_trans (Nat.le_trans Q13 (Keep.of_wr W14).1) (Keep.of_wr W16).1)
  refine Go.step (g' := (mkF m 41 #[.val (.ref o0), .val (.ref o1), .val (.int p2), .val (.int p3), .val (.ref aw), .val (.ref at_), .val (.int ((7 : Int32) + (1 : Int32)))] [])) (fun _ k => XS.iinc X16.here hx rfl (hb hby d8_38) rfl (l' := #[.val (.ref o0), .val (.ref o1), .val (.int p2), .val (.int p3), .val (.ref aw), .val (.ref at_), .val (.int ((7 : Int32) + (1 : Int32)))]) rfl k) ?_
  rw [show ((7 : Int32) + (1 : Int32)) = (8 : Int32) from by decide]
  refine Go.step (g' := (mkF m 17 #[.val (.ref o0), .val (.ref o1), .val (.int p2), .val (.int p3), .val (.ref aw), .val (.ref at_), .val (.int (8 : Int32))] [])) (fun _ k => XS.goto X16.here hx rfl (pc0 := 41) (pc' := 17) rfl (hb hby d8_41) (by decide) (by decide) k) ?_
  skip
  refine Go.step (g' := (mkF m 19 #[.val (.ref o0), .val (.ref o1), .val (.int p2), .val (.int p3), .val (.ref aw), .val (.ref at_), .val (.int (8 : Int32))] [(.int (8 : Int32))])) (fun _ k => XS.iload X16.here hx rfl (hb hby d8_17) rfl  k) ?_
  refine Go.step (g' := (mkF m 20 #[.val (.ref o0), .val (.ref o1), .val (.int p2), .val (.int p3), .val (.ref aw), .val (.ref at_), .val (.int (8 : Int32))] [(.int (2 : Int32)), (.int (8 : Int32))])) (fun _ k => XS.iconst X16.here hx rfl (hb hby d8_19) k) ?_
  refine Go.step (g' := (mkF m 21 #[.val (.ref o0), .val (.ref o1), .val (.int p2), .val (.int p3), .val (.ref aw), .val (.ref at_), .val (.int (8 : Int32))] [(.int p3), (.int (2 : Int32)), (.int (8 : Int32))])) (fun _ k => XS.iloadN X16.here hx rfl (hb hby d8_20) rfl  k) ?_
  refine Go.step (g' := (mkF m 22 #[.val (.ref o0), .val (.ref o1), .val (.int p2), .val (.int p3), .val (.ref aw), .val (.ref at_), .val (.int (8 : Int32))] [(.int ((2 : Int32) * p3)), (.int (8 : Int32))])) (fun _ k => XS.imul X16.here hx rfl (hb hby d8_21) rfl k) ?_
  rw [show ((2 : Int32) * p3) = (8 : Int32) from by rw [hl]; decide]
  refine Go.step (g' := (mkF m 44 #[.val (.ref o0), .val (.ref o1), .val (.int p2), .val (.int p3), .val (.ref aw), .val (.ref at_), .val (.int (8 : Int32))] [])) (fun _ k => XS.icmpYes X16.here hx rfl (pc0 := 22) (pc' := 44) rfl (hb hby d8_22) rfl (flt (by decide : ¬ ((8 : Int32) < (8 : Int32)))).2.1 (by decide) (by decide) k) ?_
  skip
  exact Go.ret0 X16 hx hlk Bd.returns (hb hby d8_44) (by decide) (by decide) (by rw [e16]; exact ⟨rfl, N16, (Q15.wr W16 (Or.inl (List.mem_of_getElem? (i := 0) rfl))), V16.cong (fun k hk => by rw [hf, hl]; match k, hk with | 0, _ => rfl | 1, _ => rfl | 2, _ => rfl | 3, _ => rfl | 4, _ => rfl | 5, _ => rfl | 6, _ => rfl | 7, _ => rfl)⟩)

set_option maxRecDepth 65536 in
set_option maxHeartbeats 40000000 in
theorem rm8w22 (l : Launch) (Z : State) (a0 : Array Value) (hw : ∀ d ∈ tables_1, d.before a0 Z = true) (ws : List Jvm.Cond) (o0 : Addr) (o1 : Addr) (p2 : Int32) (p3 : Int32) (aw : Addr) (at_ : Addr) (gw : Nat → UInt64) (gt : Nat → UInt64) (h0 : Heap) (n0 : Nat) (Z0 : n0 ≤ h0.size) (F0 : Fld Z h0 o0 "com/example/rhadamanthus/rhadamanthus/learn/Histogram" "cells" "[D" (.ref aw)) (F1 : Fld Z h0 o1 "com/example/rhadamanthus/rhadamanthus/learn/Histogram" "cells" "[D" (.ref at_)) (A_w : IA Z h0 aw .double 8 (fun k => .double (gw k))) (A_t : IA Z h0 at_ .double 8 (fun k => .double (gt k))) (n1 : o0 ≠ aw) (n2 : o1 ≠ aw) (n3 : aw ≠ at_) (g_aw : n0 ≤ aw) (hnan : ∀ k, Jvm.Free.Fl.NoNaN64 (FP.dsub (gw k) (gt k))) (hf : p2 = (2 : Int32)) (hl : p3 = (2 : Int32)) :
    MetFree l (⟨"com/example/rhadamanthus/rhadamanthus/learn/Histogram", "subtractColumns", "(Lcom/example/rhadamanthus/rhadamanthus/learn/Histogram;II)V"⟩ : MethodName) (head1 (Jvm.Cond.code (⟨"com/example/rhadamanthus/rhadamanthus/learn/Histogram", "subtractColumns", "(Lcom/example/rhadamanthus/rhadamanthus/learn/Histogram;II)V"⟩ : MethodName) prog_64_method_10_code 7 none :: ws) ({ frames := 0, cells := 0, slots := 0, locals := 0 } : Room)) (fun a U => a = #[(.ref o0), (.ref o1), (.int p2), (.int p3)] ∧ Z.Warmed39 U.vm ∧ U.heap = h0) (fun _ _ _ _ _ => True) (fun _ U o U' => ∃ v L, o = .returned v ∧ (QA Z aw (fun k => if 2 * p2.toNatClampNeg ≤ k ∧ k < 2 * p3.toNatClampNeg then FP.dsub (gw k) (gt k) else gw k) h0 n0) v U'.heap L ∧ FrameEnd U o U' L ({ frames := 0, cells := 0, slots := 0, locals := 0 } : Room).cells ({ frames := 0, cells := 0, slots := 0, locals := 0 } : Room).slots) := by
  refine MetFree.of_bodySF (plainFor_of_name pn_8) hisR ?_
  intro p e s m args below meth c s₁ Bd hml0 hP hK
  obtain ⟨rfl, hZ, hh⟩ := hP
  have hx := Bd.exec
  have hby := Bd.bytes
  have hlk : meth.locks = false := BodyLoose.notSynchronized Bd
  have hml : c.maxLocals = 7 := hml0
  have hown : s.vm.findClass "com/example/rhadamanthus/rhadamanthus/learn/Histogram" = some m.cls := findClass_of_methodNamed Bd.named
  have hnm := (name_of_methodNamed Bd.named Bd.method).1
  have X0 : Stand p l e ({ frames := 0, cells := 0, slots := 0, locals := 0 } : Room) s m #[(.ref o0), (.ref o1), (.int p2), (.int p3)] below meth c s₁ ([] : List Loc) 0 0 := Stand.of_body Bd
  have e0 : s₁.heap = h0 := by rw [← hh, Bd.state]; rfl
  show Go p e below s 0 0 (QA Z aw (fun k => if 2 * p2.toNatClampNeg ≤ k ∧ k < 2 * p3.toNatClampNeg then FP.dsub (gw k) (gt k) else gw k) h0 n0) s₁ (entryFrame m #[(.ref o0), (.ref o1), (.int p2), (.int p3)] 7)
  rw [ef_8 m o0 o1 p2 p3]
  have N0 := Fr.nil n0
  refine Go.step (g' := (mkF m 1 #[.val (.ref o0), .val (.ref o1), .val (.int p2), .val (.int p3), .unset, .unset, .unset] [(.ref o0)])) (fun _ k => XS.aloadN X0.here hx rfl (hb hby d8_0) rfl rfl  k) ?_
  obtain ⟨T1, X1, e1, st1⟩ := getF X0 hx hZ hown (host := "") (Or.inl (hw _ (List.mem_of_getElem? (i := 10) rfl))) Via.refl e0 F0 (g := (mkF m 1 #[.val (.ref o0), .val (.ref o1), .val (.int p2), .val (.int p3), .unset, .unset, .unset] [(.ref o0)])) rfl rfl (hb hby d8_1)
  refine Go.step (g' := (mkF m 4 #[.val (.ref o0), .val (.ref o1), .val (.int p2), .val (.int p3), .unset, .unset, .unset] [(.ref aw)])) st1 ?_
  refine Go.step (g' := (mkF m 6 #[.val (.ref o0), .val (.ref o1), .val (.int p2), .val (.int p3), .val (.ref aw), .unset, .unset] [])) (fun _ k => XS.astore X1.here hx rfl (hb hby d8_4) rfl rfl (l' := #[.val (.ref o0), .val (.ref o1), .val (.int p2), .val (.int p3), .val (.ref aw), .unset, .unset]) rfl k) ?_
  refine Go.step (g' := (mkF m 7 #[.val (.ref o0), .val (.ref o1), .val (.int p2), .val (.int p3), .val (.ref aw), .unset, .unset] [(.ref o1)])) (fun _ k => XS.aloadN X1.here hx rfl (hb hby d8_6) rfl rfl  k) ?_
  obtain ⟨T2, X2, e2, st2⟩ := getF X1 hx hZ hown (host := "") (Or.inl (hw _ (List.mem_of_getElem? (i := 10) rfl))) Via.refl e1 F1 (g := (mkF m 7 #[.val (.ref o0), .val (.ref o1), .val (.int p2), .val (.int p3), .val (.ref aw), .unset, .unset] [(.ref o1)])) rfl rfl (hb hby d8_7)
  refine Go.step (g' := (mkF m 10 #[.val (.ref o0), .val (.ref o1), .val (.int p2), .val (.int p3), .val (.ref aw), .unset, .unset] [(.ref at_)])) st2 ?_
  refine Go.step (g' := (mkF m 12 #[.val (.ref o0), .val (.ref o1), .val (.int p2), .val (.int p3), .val (.ref aw), .val (.ref at_), .unset] [])) (fun _ k => XS.astore X2.here hx rfl (hb hby d8_10) rfl rfl (l' := #[.val (.ref o0), .val (.ref o1), .val (.int p2), .val (.int p3), .val (.ref aw), .val (.ref at_), .unset]) rfl k) ?_
  refine Go.step (g' := (mkF m 13 #[.val (.ref o0), .val (.ref o1), .val (.int p2), .val (.int p3), .val (.ref aw), .val (.ref at_), .unset] [(.int (2 : Int32))])) (fun _ k => XS.iconst X2.here hx rfl (hb hby d8_12) k) ?_
  refine Go.step (g' := (mkF m 14 #[.val (.ref o0), .val (.ref o1), .val (.int p2), .val (.int p3), .val (.ref aw), .val (.ref at_), .unset] [(.int p2), (.int (2 : Int32))])) (fun _ k => XS.iloadN X2.here hx rfl (hb hby d8_13) rfl  k) ?_
  refine Go.step (g' := (mkF m 15 #[.val (.ref o0), .val (.ref o1), .val (.int p2), .val (.int p3), .val (.ref aw), .val (.ref at_), .unset] [(.int ((2 : Int32) * p2))])) (fun _ k => XS.imul X2.here hx rfl (hb hby d8_14) rfl k) ?_
  rw [show ((2 : Int32) * p2) = (4 : Int32) from by rw [hf]; decide]
  refine Go.step (g' := (mkF m 17 #[.val (.ref o0), .val (.ref o1), .val (.int p2), .val (.int p3), .val (.ref aw), .val (.ref at_), .val (.int (4 : Int32))] [])) (fun _ k => XS.istore X2.here hx rfl (hb hby d8_15) rfl (l' := #[.val (.ref o0), .val (.ref o1), .val (.int p2), .val (.int p3), .val (.ref aw), .val (.ref at_), .val (.int (4 : Int32))]) rfl k) ?_
  skip
  refine Go.step (g' := (mkF m 19 #[.val (.ref o0), .val (.ref o1), .val (.int p2), .val (.int p3), .val (.ref aw), .val (.ref at_), .val (.int (4 : Int32))] [(.int (4 : Int32))])) (fun _ k => XS.iload X2.here hx rfl (hb hby d8_17) rfl  k) ?_
  refine Go.step (g' := (mkF m 20 #[.val (.ref o0), .val (.ref o1), .val (.int p2), .val (.int p3), .val (.ref aw), .val (.ref at_), .val (.int (4 : Int32))] [(.int (2 : Int32)), (.int (4 : Int32))])) (fun _ k => XS.iconst X2.here hx rfl (hb hby d8_19) k) ?_
  refine Go.step (g' := (mkF m 21 #[.val (.ref o0), .val (.ref o1), .val (.int p2), .val (.int p3), .val (.ref aw), .val (.ref at_), .val (.int (4 : Int32))] [(.int p3), (.int (2 : Int32)), (.int (4 : Int32))])) (fun _ k => XS.iloadN X2.here hx rfl (hb hby d8_20) rfl  k) ?_
  refine Go.step (g' := (mkF m 22 #[.val (.ref o0), .val (.ref o1), .val (.int p2), .val (.int p3), .val (.ref aw), .val (.ref at_), .val (.int (4 : Int32))] [(.int ((2 : Int32) * p3)), (.int (4 : Int32))])) (fun _ k => XS.imul X2.here hx rfl (hb hby d8_21) rfl k) ?_
  rw [show ((2 : Int32) * p3) = (4 : Int32) from by rw [hl]; decide]
  refine Go.step (g' := (mkF m 44 #[.val (.ref o0), .val (.ref o1), .val (.int p2), .val (.int p3), .val (.ref aw), .val (.ref at_), .val (.int (4 : Int32))] [])) (fun _ k => XS.icmpYes X2.here hx rfl (pc0 := 22) (pc' := 44) rfl (hb hby d8_22) rfl (flt (by decide : ¬ ((4 : Int32) < (4 : Int32)))).2.1 (by decide) (by decide) k) ?_
  skip
  exact Go.ret0 X2 hx hlk Bd.returns (hb hby d8_44) (by decide) (by decide) (by rw [e2]; exact ⟨rfl, N0, (Keep.refl h0 [aw]), A_w.cong (fun k hk => by rw [hf, hl]; match k, hk with | 0, _ => rfl | 1, _ => rfl | 2, _ => rfl | 3, _ => rfl | 4, _ => rfl | 5, _ => rfl | 6, _ => rfl | 7, _ => rfl)⟩)

set_option maxRecDepth 65536 in
set_option maxHeartbeats 40000000 in
theorem rm8w23 (l : Launch) (Z : State) (a0 : Array Value) (hw : ∀ d ∈ tables_1, d.before a0 Z = true) (ws : List Jvm.Cond) (o0 : Addr) (o1 : Addr) (p2 : Int32) (p3 : Int32) (aw : Addr) (at_ : Addr) (gw : Nat → UInt64) (gt : Nat → UInt64) (h0 : Heap) (n0 : Nat) (Z0 : n0 ≤ h0.size) (F0 : Fld Z h0 o0 "com/example/rhadamanthus/rhadamanthus/learn/Histogram" "cells" "[D" (.ref aw)) (F1 : Fld Z h0 o1 "com/example/rhadamanthus/rhadamanthus/learn/Histogram" "cells" "[D" (.ref at_)) (A_w : IA Z h0 aw .double 8 (fun k => .double (gw k))) (A_t : IA Z h0 at_ .double 8 (fun k => .double (gt k))) (n1 : o0 ≠ aw) (n2 : o1 ≠ aw) (n3 : aw ≠ at_) (g_aw : n0 ≤ aw) (hnan : ∀ k, Jvm.Free.Fl.NoNaN64 (FP.dsub (gw k) (gt k))) (hf : p2 = (2 : Int32)) (hl : p3 = (3 : Int32)) :
    MetFree l (⟨"com/example/rhadamanthus/rhadamanthus/learn/Histogram", "subtractColumns", "(Lcom/example/rhadamanthus/rhadamanthus/learn/Histogram;II)V"⟩ : MethodName) (head1 (Jvm.Cond.code (⟨"com/example/rhadamanthus/rhadamanthus/learn/Histogram", "subtractColumns", "(Lcom/example/rhadamanthus/rhadamanthus/learn/Histogram;II)V"⟩ : MethodName) prog_64_method_10_code 7 none :: ws) ({ frames := 0, cells := 0, slots := 0, locals := 0 } : Room)) (fun a U => a = #[(.ref o0), (.ref o1), (.int p2), (.int p3)] ∧ Z.Warmed39 U.vm ∧ U.heap = h0) (fun _ _ _ _ _ => True) (fun _ U o U' => ∃ v L, o = .returned v ∧ (QA Z aw (fun k => if 2 * p2.toNatClampNeg ≤ k ∧ k < 2 * p3.toNatClampNeg then FP.dsub (gw k) (gt k) else gw k) h0 n0) v U'.heap L ∧ FrameEnd U o U' L ({ frames := 0, cells := 0, slots := 0, locals := 0 } : Room).cells ({ frames := 0, cells := 0, slots := 0, locals := 0 } : Room).slots) := by
  refine MetFree.of_bodySF (plainFor_of_name pn_8) hisR ?_
  intro p e s m args below meth c s₁ Bd hml0 hP hK
  obtain ⟨rfl, hZ, hh⟩ := hP
  have hx := Bd.exec
  have hby := Bd.bytes
  have hlk : meth.locks = false := BodyLoose.notSynchronized Bd
  have hml : c.maxLocals = 7 := hml0
  have hown : s.vm.findClass "com/example/rhadamanthus/rhadamanthus/learn/Histogram" = some m.cls := findClass_of_methodNamed Bd.named
  have hnm := (name_of_methodNamed Bd.named Bd.method).1
  have X0 : Stand p l e ({ frames := 0, cells := 0, slots := 0, locals := 0 } : Room) s m #[(.ref o0), (.ref o1), (.int p2), (.int p3)] below meth c s₁ ([] : List Loc) 0 0 := Stand.of_body Bd
  have e0 : s₁.heap = h0 := by rw [← hh, Bd.state]; rfl
  show Go p e below s 0 0 (QA Z aw (fun k => if 2 * p2.toNatClampNeg ≤ k ∧ k < 2 * p3.toNatClampNeg then FP.dsub (gw k) (gt k) else gw k) h0 n0) s₁ (entryFrame m #[(.ref o0), (.ref o1), (.int p2), (.int p3)] 7)
  rw [ef_8 m o0 o1 p2 p3]
  have N0 := Fr.nil n0
  refine Go.step (g' := (mkF m 1 #[.val (.ref o0), .val (.ref o1), .val (.int p2), .val (.int p3), .unset, .unset, .unset] [(.ref o0)])) (fun _ k => XS.aloadN X0.here hx rfl (hb hby d8_0) rfl rfl  k) ?_
  obtain ⟨T1, X1, e1, st1⟩ := getF X0 hx hZ hown (host := "") (Or.inl (hw _ (List.mem_of_getElem? (i := 10) rfl))) Via.refl e0 F0 (g := (mkF m 1 #[.val (.ref o0), .val (.ref o1), .val (.int p2), .val (.int p3), .unset, .unset, .unset] [(.ref o0)])) rfl rfl (hb hby d8_1)
  refine Go.step (g' := (mkF m 4 #[.val (.ref o0), .val (.ref o1), .val (.int p2), .val (.int p3), .unset, .unset, .unset] [(.ref aw)])) st1 ?_
  refine Go.step (g' := (mkF m 6 #[.val (.ref o0), .val (.ref o1), .val (.int p2), .val (.int p3), .val (.ref aw), .unset, .unset] [])) (fun _ k => XS.astore X1.here hx rfl (hb hby d8_4) rfl rfl (l' := #[.val (.ref o0), .val (.ref o1), .val (.int p2), .val (.int p3), .val (.ref aw), .unset, .unset]) rfl k) ?_
  refine Go.step (g' := (mkF m 7 #[.val (.ref o0), .val (.ref o1), .val (.int p2), .val (.int p3), .val (.ref aw), .unset, .unset] [(.ref o1)])) (fun _ k => XS.aloadN X1.here hx rfl (hb hby d8_6) rfl rfl  k) ?_
  obtain ⟨T2, X2, e2, st2⟩ := getF X1 hx hZ hown (host := "") (Or.inl (hw _ (List.mem_of_getElem? (i := 10) rfl))) Via.refl e1 F1 (g := (mkF m 7 #[.val (.ref o0), .val (.ref o1), .val (.int p2), .val (.int p3), .val (.ref aw), .unset, .unset] [(.ref o1)])) rfl rfl (hb hby d8_7)
  refine Go.step (g' := (mkF m 10 #[.val (.ref o0), .val (.ref o1), .val (.int p2), .val (.int p3), .val (.ref aw), .unset, .unset] [(.ref at_)])) st2 ?_
  refine Go.step (g' := (mkF m 12 #[.val (.ref o0), .val (.ref o1), .val (.int p2), .val (.int p3), .val (.ref aw), .val (.ref at_), .unset] [])) (fun _ k => XS.astore X2.here hx rfl (hb hby d8_10) rfl rfl (l' := #[.val (.ref o0), .val (.ref o1), .val (.int p2), .val (.int p3), .val (.ref aw), .val (.ref at_), .unset]) rfl k) ?_
  refine Go.step (g' := (mkF m 13 #[.val (.ref o0), .val (.ref o1), .val (.int p2), .val (.int p3), .val (.ref aw), .val (.ref at_), .unset] [(.int (2 : Int32))])) (fun _ k => XS.iconst X2.here hx rfl (hb hby d8_12) k) ?_
  refine Go.step (g' := (mkF m 14 #[.val (.ref o0), .val (.ref o1), .val (.int p2), .val (.int p3), .val (.ref aw), .val (.ref at_), .unset] [(.int p2), (.int (2 : Int32))])) (fun _ k => XS.iloadN X2.here hx rfl (hb hby d8_13) rfl  k) ?_
  refine Go.step (g' := (mkF m 15 #[.val (.ref o0), .val (.ref o1), .val (.int p2), .val (.int p3), .val (.ref aw), .val (.ref at_), .unset] [(.int ((2 : Int32) * p2))])) (fun _ k => XS.imul X2.here hx rfl (hb hby d8_14) rfl k) ?_
  rw [show ((2 : Int32) * p2) = (4 : Int32) from by rw [hf]; decide]
  refine Go.step (g' := (mkF m 17 #[.val (.ref o0), .val (.ref o1), .val (.int p2), .val (.int p3), .val (.ref aw), .val (.ref at_), .val (.int (4 : Int32))] [])) (fun _ k => XS.istore X2.here hx rfl (hb hby d8_15) rfl (l' := #[.val (.ref o0), .val (.ref o1), .val (.int p2), .val (.int p3), .val (.ref aw), .val (.ref at_), .val (.int (4 : Int32))]) rfl k) ?_
  skip
  refine Go.step (g' := (mkF m 19 #[.val (.ref o0), .val (.ref o1), .val (.int p2), .val (.int p3), .val (.ref aw), .val (.ref at_), .val (.int (4 : Int32))] [(.int (4 : Int32))])) (fun _ k => XS.iload X2.here hx rfl (hb hby d8_17) rfl  k) ?_
  refine Go.step (g' := (mkF m 20 #[.val (.ref o0), .val (.ref o1), .val (.int p2), .val (.int p3), .val (.ref aw), .val (.ref at_), .val (.int (4 : Int32))] [(.int (2 : Int32)), (.int (4 : Int32))])) (fun _ k => XS.iconst X2.here hx rfl (hb hby d8_19) k) ?_
  refine Go.step (g' := (mkF m 21 #[.val (.ref o0), .val (.ref o1), .val (.int p2), .val (.int p3), .val (.ref aw), .val (.ref at_), .val (.int (4 : Int32))] [(.int p3), (.int (2 : Int32)), (.int (4 : Int32))])) (fun _ k => XS.iloadN X2.here hx rfl (hb hby d8_20) rfl  k) ?_
  refine Go.step (g' := (mkF m 22 #[.val (.ref o0), .val (.ref o1), .val (.int p2), .val (.int p3), .val (.ref aw), .val (.ref at_), .val (.int (4 : Int32))] [(.int ((2 : Int32) * p3)), (.int (4 : Int32))])) (fun _ k => XS.imul X2.here hx rfl (hb hby d8_21) rfl k) ?_
  rw [show ((2 : Int32) * p3) = (6 : Int32) from by rw [hl]; decide]
  refine Go.step (g' := (mkF m 25 #[.val (.ref o0), .val (.ref o1), .val (.int p2), .val (.int p3), .val (.ref aw), .val (.ref at_), .val (.int (4 : Int32))] [])) (fun _ k => XS.icmpNo X2.here hx rfl (hb hby d8_22) rfl (tlt (by decide : (4 : Int32) < (6 : Int32))).2.1 k) ?_
  skip
  refine Go.step (g' := (mkF m 27 #[.val (.ref o0), .val (.ref o1), .val (.int p2), .val (.int p3), .val (.ref aw), .val (.ref at_), .val (.int (4 : Int32))] [(.ref aw)])) (fun _ k => XS.aload X2.here hx rfl (hb hby d8_25) rfl rfl  k) ?_
  refine Go.step (g' := (mkF m 29 #[.val (.ref o0), .val (.ref o1), .val (.int p2), .val (.int p3), .val (.ref aw), .val (.ref at_), .val (.int (4 : Int32))] [(.int (4 : Int32)), (.ref aw)])) (fun _ k => XS.iload X2.here hx rfl (hb hby d8_27) rfl  k) ?_
  refine Go.step (g' := (mkF m 30 #[.val (.ref o0), .val (.ref o1), .val (.int p2), .val (.int p3), .val (.ref aw), .val (.ref at_), .val (.int (4 : Int32))] [(.int (4 : Int32)), (.ref aw), (.int (4 : Int32)), (.ref aw)])) (fun _ k => Jvm.Free.XT.dup2 X2.here hx rfl (hb hby d8_29) rfl rfl rfl k) ?_
  refine Go.step (g' := (mkF m 31 #[.val (.ref o0), .val (.ref o1), .val (.int p2), .val (.int p3), .val (.ref aw), .val (.ref at_), .val (.int (4 : Int32))] [(.double (gw (4 : Int32).toNatClampNeg)), (.int (4 : Int32)), (.ref aw)])) (fun _ k => getAD X2 hx hZ e2 A_w (j := (4 : Int32)) (by decide) (gf := (mkF m 30 #[.val (.ref o0), .val (.ref o1), .val (.int p2), .val (.int p3), .val (.ref aw), .val (.ref at_), .val (.int (4 : Int32))] [(.int (4 : Int32)), (.ref aw), (.int (4 : Int32)), (.ref aw)])) rfl rfl (hb hby d8_30) k) ?_
  rw [show (gw (4 : Int32).toNatClampNeg) = (gw 4) from rfl]
  refine Go.step (g' := (mkF m 33 #[.val (.ref o0), .val (.ref o1), .val (.int p2), .val (.int p3), .val (.ref aw), .val (.ref at_), .val (.int (4 : Int32))] [(.ref at_), (.double (gw 4)), (.int (4 : Int32)), (.ref aw)])) (fun _ k => XS.aload X2.here hx rfl (hb hby d8_31) rfl rfl  k) ?_
  refine Go.step (g' := (mkF m 35 #[.val (.ref o0), .val (.ref o1), .val (.int p2), .val (.int p3), .val (.ref aw), .val (.ref at_), .val (.int (4 : Int32))] [(.int (4 : Int32)), (.ref at_), (.double (gw 4)), (.int (4 : Int32)), (.ref aw)])) (fun _ k => XS.iload X2.here hx rfl (hb hby d8_33) rfl  k) ?_
  refine Go.step (g' := (mkF m 36 #[.val (.ref o0), .val (.ref o1), .val (.int p2), .val (.int p3), .val (.ref aw), .val (.ref at_), .val (.int (4 : Int32))] [(.double (gt (4 : Int32).toNatClampNeg)), (.double (gw 4)), (.int (4 : Int32)), (.ref aw)])) (fun _ k => getAD X2 hx hZ e2 A_t (j := (4 : Int32)) (by decide) (gf := (mkF m 35 #[.val (.ref o0), .val (.ref o1), .val (.int p2), .val (.int p3), .val (.ref aw), .val (.ref at_), .val (.int (4 : Int32))] [(.int (4 : Int32)), (.ref at_), (.double (gw 4)), (.int (4 : Int32)), (.ref aw)])) rfl rfl (hb hby d8_35) k) ?_
  rw [show (gt (4 : Int32).toNatClampNeg) = (gt 4) from rfl]
  refine Go.step (g' := (mkF m 37 #[.val (.ref o0), .val (.ref o1), .val (.int p2), .val (.int p3), .val (.ref aw), .val (.ref at_), .val (.int (4 : Int32))] [(.double (FP.dsub (gw 4) (gt 4))), (.int (4 : Int32)), (.ref aw)])) (fun _ k => XS.dsubS X2.here hx rfl (hb hby d8_36) rfl (hnan 4) rfl k) ?_
  obtain ⟨T3, h3, lc3, X3, e3, W3, N3, V3, st3⟩ := putAD X2 hx hZ e2 A_w (j := (4 : Int32)) (by decide) N0 g_aw (gf := (mkF m 37 #[.val (.ref o0), .val (.ref o1), .val (.int p2), .val (.int p3), .val (.ref aw), .val (.ref at_), .val (.int (4 : Int32))] [(.double (FP.dsub (gw 4) (gt 4))), (.int (4 : Int32)), (.ref aw)])) rfl rfl (hb hby d8_37)
  refine Go.step (g' := (mkF m 38 #[.val (.ref o0), .val (.ref o1), .val (.int p2), .val (.int p3), .val (.ref aw), .val (.ref at_), .val (.int (4 : Int32))] [])) st3 ?_
  have Q4 := ((Keep.refl h0 [aw]).wr W3 (Or.inl (List.mem_of_getElem? (i := 0) rfl)))
  refine Go.step (g' := (mkF m 41 #[.val (.ref o0), .val (.ref o1), .val (.int p2), .val (.int p3), .val (.ref aw), .val (.ref at_), .val (.int ((4 : Int32) + (1 : Int32)))] [])) (fun _ k => XS.iinc X3.here hx rfl (hb hby d8_38) rfl (l' := #[.val (.ref o0), .val (.ref o1), .val (.int p2), .val (.int p3), .val (.ref aw), .val (.ref at_), .val (.int ((4 : Int32) + (1 : Int32)))]) rfl k) ?_
  rw [show ((4 : Int32) + (1 : Int32)) = (5 : Int32) from by decide]
  refine Go.step (g' := (mkF m 17 #[.val (.ref o0), .val (.ref o1), .val (.int p2), .val (.int p3), .val (.ref aw), .val (.ref at_), .val (.int (5 : Int32))] [])) (fun _ k => XS.goto X3.here hx rfl (pc0 := 41) (pc' := 17) rfl (hb hby d8_41) (by decide) (by decide) k) ?_
  skip
  refine Go.step (g' := (mkF m 19 #[.val (.ref o0), .val (.ref o1), .val (.int p2), .val (.int p3), .val (.ref aw), .val (.ref at_), .val (.int (5 : Int32))] [(.int (5 : Int32))])) (fun _ k => XS.iload X3.here hx rfl (hb hby d8_17) rfl  k) ?_
  refine Go.step (g' := (mkF m 20 #[.val (.ref o0), .val (.ref o1), .val (.int p2), .val (.int p3), .val (.ref aw), .val (.ref at_), .val (.int (5 : Int32))] [(.int (2 : Int32)), (.int (5 : Int32))])) (fun _ k => XS.iconst X3.here hx rfl (hb hby d8_19) k) ?_
  refine Go.step (g' := (mkF m 21 #[.val (.ref o0), .val (.ref o1), .val (.int p2), .val (.int p3), .val (.ref aw), .val (.ref at_), .val (.int (5 : Int32))] [(.int p3), (.int (2 : Int32)), (.int (5 : Int32))])) (fun _ k => XS.iloadN X3.here hx rfl (hb hby d8_20) rfl  k) ?_
  refine Go.step (g' := (mkF m 22 #[.val (.ref o0), .val (.ref o1), .val (.int p2), .val (.int p3), .val (.ref aw), .val (.ref at_), .val (.int (5 : Int32))] [(.int ((2 : Int32) * p3)), (.int (5 : Int32))])) (fun _ k => XS.imul X3.here hx rfl (hb hby d8_21) rfl k) ?_
  rw [show ((2 : Int32) * p3) = (6 : Int32) from by rw [hl]; decide]
  refine Go.step (g' := (mkF m 25 #[.val (.ref o0), .val (.ref o1), .val (.int p2), .val (.int p3), .val (.ref aw), .val (.ref at_), .val (.int (5 : Int32))] [])) (fun _ k => XS.icmpNo X3.here hx rfl (hb hby d8_22) rfl (tlt (by decide : (5 : Int32) < (6 : Int32))).2.1 k) ?_
  skip
  refine Go.step (g' := (mkF m 27 #[.val (.ref o0), .val (.ref o1), .val (.int p2), .val (.int p3), .val (.ref aw), .val (.ref at_), .val (.int (5 : Int32))] [(.ref aw)])) (fun _ k => XS.aload X3.here hx rfl (hb hby d8_25) rfl rfl  k) ?_
  refine Go.step (g' := (mkF m 29 #[.val (.ref o0), .val (.ref o1), .val (.int p2), .val (.int p3), .val (.ref aw), .val (.ref at_), .val (.int (5 : Int32))] [(.int (5 : Int32)), (.ref aw)])) (fun _ k => XS.iload X3.here hx rfl (hb hby d8_27) rfl  k) ?_
  refine Go.step (g' := (mkF m 30 #[.val (.ref o0), .val (.ref o1), .val (.int p2), .val (.int p3), .val (.ref aw), .val (.ref at_), .val (.int (5 : Int32))] [(.int (5 : Int32)), (.ref aw), (.int (5 : Int32)), (.ref aw)])) (fun _ k => Jvm.Free.XT.dup2 X3.here hx rfl (hb hby d8_29) rfl rfl rfl k) ?_
  refine Go.step (g' := (mkF m 31 #[.val (.ref o0), .val (.ref o1), .val (.int p2), .val (.int p3), .val (.ref aw), .val (.ref at_), .val (.int (5 : Int32))] [(.double ((upd gw (4 : Int32).toNatClampNeg (FP.dsub (gw 4) (gt 4))) (5 : Int32).toNatClampNeg)), (.int (5 : Int32)), (.ref aw)])) (fun _ k => getAD X3 hx hZ e3 V3 (j := (5 : Int32)) (by decide) (gf := (mkF m 30 #[.val (.ref o0), .val (.ref o1), .val (.int p2), .val (.int p3), .val (.ref aw), .val (.ref at_), .val (.int (5 : Int32))] [(.int (5 : Int32)), (.ref aw), (.int (5 : Int32)), (.ref aw)])) rfl rfl (hb hby d8_30) k) ?_
  rw [show ((upd gw (4 : Int32).toNatClampNeg (FP.dsub (gw 4) (gt 4))) (5 : Int32).toNatClampNeg) = (gw 5) from rfl]
  refine Go.step (g' := (mkF m 33 #[.val (.ref o0), .val (.ref o1), .val (.int p2), .val (.int p3), .val (.ref aw), .val (.ref at_), .val (.int (5 : Int32))] [(.ref at_), (.double (gw 5)), (.int (5 : Int32)), (.ref aw)])) (fun _ k => XS.aload X3.here hx rfl (hb hby d8_31) rfl rfl  k) ?_
  refine Go.step (g' := (mkF m 35 #[.val (.ref o0), .val (.ref o1), .val (.int p2), .val (.int p3), .val (.ref aw), .val (.ref at_), .val (.int (5 : Int32))] [(.int (5 : Int32)), (.ref at_), (.double (gw 5)), (.int (5 : Int32)), (.ref aw)])) (fun _ k => XS.iload X3.here hx rfl (hb hby d8_33) rfl  k) ?_
  refine Go.step (g' := (mkF m 36 #[.val (.ref o0), .val (.ref o1), .val (.int p2), .val (.int p3), .val (.ref aw), .val (.ref at_), .val (.int (5 : Int32))] [(.double (gt (5 : Int32).toNatClampNeg)), (.double (gw 5)), (.int (5 : Int32)), (.ref aw)])) (fun _ k => getAD X3 hx hZ e3 (A_t.other W3 (Ne.symm n3)) (j := (5 : Int32)) (by decide) (gf := (mkF m 35 #[.val (.ref o0), .val (.ref o1), .val (.int p2), .val (.int p3), .val (.ref aw), .val (.ref at_), .val (.int (5 : Int32))] [(.int (5 : Int32)), (.ref at_), (.double (gw 5)), (.int (5 : Int32)), (.ref aw)])) rfl rfl (hb hby d8_35) k) ?_
  rw [show (gt (5 : Int32).toNatClampNeg) = (gt 5) from rfl]
  refine Go.step (g' := (mkF m 37 #[.val (.ref o0), .val (.ref o1), .val (.int p2), .val (.int p3), .val (.ref aw), .val (.ref at_), .val (.int (5 : Int32))] [(.double (FP.dsub (gw 5) (gt 5))), (.int (5 : Int32)), (.ref aw)])) (fun _ k => XS.dsubS X3.here hx rfl (hb hby d8_36) rfl (hnan 5) rfl k) ?_
  obtain ⟨T5, h5, lc5, X5, e5, W5, N5, V5, st5⟩ := putAD X3 hx hZ e3 V3 (j := (5 : Int32)) (by decide) N3 g_aw (gf := (mkF m 37 #[.val (.ref o0), .val (.ref o1), .val (.int p2), .val (.int p3), .val (.ref aw), .val (.ref at_), .val (.int (5 : Int32))] [(.double (FP.dsub (gw 5) (gt 5))), (.int (5 : Int32)), (.ref aw)])) rfl rfl (hb hby d8_37)
  refine Go.step (g' := (mkF m 38 #[.val (.ref o0), .val (.ref o1), .val (.int p2), .val (.int p3), .val (.ref aw), .val (.ref at_), .val (.int (5 : Int32))] [])) st5 ?_
  have Q6 := (Nat.le_trans (Nat.le_trans Z0 (Keep.of_wr W3).1) (Keep.of_wr W5).1)
  refine Go.step (g' := (mkF m 41 #[.val (.ref o0), .val (.ref o1), .val (.int p2), .val (.int p3), .val (.ref aw), .val (.ref at_), .val (.int ((5 : Int32) + (1 : Int32)))] [])) (fun _ k => XS.iinc X5.here hx rfl (hb hby d8_38) rfl (l' := #[.val (.ref o0), .val (.ref o1), .val (.int p2), .val (.int p3), .val (.ref aw), .val (.ref at_), .val (.int ((5 : Int32) + (1 : Int32)))]) rfl k) ?_
  rw [show ((5 : Int32) + (1 : Int32)) = (6 : Int32) from by decide]
  refine Go.step (g' := (mkF m 17 #[.val (.ref o0), .val (.ref o1), .val (.int p2), .val (.int p3), .val (.ref aw), .val (.ref at_), .val (.int (6 : Int32))] [])) (fun _ k => XS.goto X5.here hx rfl (pc0 := 41) (pc' := 17) rfl (hb hby d8_41) (by decide) (by decide) k) ?_
  skip
  refine Go.step (g' := (mkF m 19 #[.val (.ref o0), .val (.ref o1), .val (.int p2), .val (.int p3), .val (.ref aw), .val (.ref at_), .val (.int (6 : Int32))] [(.int (6 : Int32))])) (fun _ k => XS.iload X5.here hx rfl (hb hby d8_17) rfl  k) ?_
  refine Go.step (g' := (mkF m 20 #[.val (.ref o0), .val (.ref o1), .val (.int p2), .val (.int p3), .val (.ref aw), .val (.ref at_), .val (.int (6 : Int32))] [(.int (2 : Int32)), (.int (6 : Int32))])) (fun _ k => XS.iconst X5.here hx rfl (hb hby d8_19) k) ?_
  refine Go.step (g' := (mkF m 21 #[.val (.ref o0), .val (.ref o1), .val (.int p2), .val (.int p3), .val (.ref aw), .val (.ref at_), .val (.int (6 : Int32))] [(.int p3), (.int (2 : Int32)), (.int (6 : Int32))])) (fun _ k => XS.iloadN X5.here hx rfl (hb hby d8_20) rfl  k) ?_
  refine Go.step (g' := (mkF m 22 #[.val (.ref o0), .val (.ref o1), .val (.int p2), .val (.int p3), .val (.ref aw), .val (.ref at_), .val (.int (6 : Int32))] [(.int ((2 : Int32) * p3)), (.int (6 : Int32))])) (fun _ k => XS.imul X5.here hx rfl (hb hby d8_21) rfl k) ?_
  rw [show ((2 : Int32) * p3) = (6 : Int32) from by rw [hl]; decide]
  refine Go.step (g' := (mkF m 44 #[.val (.ref o0), .val (.ref o1), .val (.int p2), .val (.int p3), .val (.ref aw), .val (.ref at_), .val (.int (6 : Int32))] [])) (fun _ k => XS.icmpYes X5.here hx rfl (pc0 := 22) (pc' := 44) rfl (hb hby d8_22) rfl (flt (by decide : ¬ ((6 : Int32) < (6 : Int32)))).2.1 (by decide) (by decide) k) ?_
  skip
  exact Go.ret0 X5 hx hlk Bd.returns (hb hby d8_44) (by decide) (by decide) (by rw [e5]; exact ⟨rfl, N5, (Q4.wr W5 (Or.inl (List.mem_of_getElem? (i := 0) rfl))), V5.cong (fun k hk => by rw [hf, hl]; match k, hk with | 0, _ => rfl | 1, _ => rfl | 2, _ => rfl | 3, _ => rfl | 4, _ => rfl | 5, _ => rfl | 6, _ => rfl | 7, _ => rfl)⟩)

set_option maxRecDepth 65536 in
set_option maxHeartbeats 40000000 in
theorem rm8w24 (l : Launch) (Z : State) (a0 : Array Value) (hw : ∀ d ∈ tables_1, d.before a0 Z = true) (ws : List Jvm.Cond) (o0 : Addr) (o1 : Addr) (p2 : Int32) (p3 : Int32) (aw : Addr) (at_ : Addr) (gw : Nat → UInt64) (gt : Nat → UInt64) (h0 : Heap) (n0 : Nat) (Z0 : n0 ≤ h0.size) (F0 : Fld Z h0 o0 "com/example/rhadamanthus/rhadamanthus/learn/Histogram" "cells" "[D" (.ref aw)) (F1 : Fld Z h0 o1 "com/example/rhadamanthus/rhadamanthus/learn/Histogram" "cells" "[D" (.ref at_)) (A_w : IA Z h0 aw .double 8 (fun k => .double (gw k))) (A_t : IA Z h0 at_ .double 8 (fun k => .double (gt k))) (n1 : o0 ≠ aw) (n2 : o1 ≠ aw) (n3 : aw ≠ at_) (g_aw : n0 ≤ aw) (hnan : ∀ k, Jvm.Free.Fl.NoNaN64 (FP.dsub (gw k) (gt k))) (hf : p2 = (2 : Int32)) (hl : p3 = (4 : Int32)) :
    MetFree l (⟨"com/example/rhadamanthus/rhadamanthus/learn/Histogram", "subtractColumns", "(Lcom/example/rhadamanthus/rhadamanthus/learn/Histogram;II)V"⟩ : MethodName) (head1 (Jvm.Cond.code (⟨"com/example/rhadamanthus/rhadamanthus/learn/Histogram", "subtractColumns", "(Lcom/example/rhadamanthus/rhadamanthus/learn/Histogram;II)V"⟩ : MethodName) prog_64_method_10_code 7 none :: ws) ({ frames := 0, cells := 0, slots := 0, locals := 0 } : Room)) (fun a U => a = #[(.ref o0), (.ref o1), (.int p2), (.int p3)] ∧ Z.Warmed39 U.vm ∧ U.heap = h0) (fun _ _ _ _ _ => True) (fun _ U o U' => ∃ v L, o = .returned v ∧ (QA Z aw (fun k => if 2 * p2.toNatClampNeg ≤ k ∧ k < 2 * p3.toNatClampNeg then FP.dsub (gw k) (gt k) else gw k) h0 n0) v U'.heap L ∧ FrameEnd U o U' L ({ frames := 0, cells := 0, slots := 0, locals := 0 } : Room).cells ({ frames := 0, cells := 0, slots := 0, locals := 0 } : Room).slots) := by
  refine MetFree.of_bodySF (plainFor_of_name pn_8) hisR ?_
  intro p e s m args below meth c s₁ Bd hml0 hP hK
  obtain ⟨rfl, hZ, hh⟩ := hP
  have hx := Bd.exec
  have hby := Bd.bytes
  have hlk : meth.locks = false := BodyLoose.notSynchronized Bd
  have hml : c.maxLocals = 7 := hml0
  have hown : s.vm.findClass "com/example/rhadamanthus/rhadamanthus/learn/Histogram" = some m.cls := findClass_of_methodNamed Bd.named
  have hnm := (name_of_methodNamed Bd.named Bd.method).1
  have X0 : Stand p l e ({ frames := 0, cells := 0, slots := 0, locals := 0 } : Room) s m #[(.ref o0), (.ref o1), (.int p2), (.int p3)] below meth c s₁ ([] : List Loc) 0 0 := Stand.of_body Bd
  have e0 : s₁.heap = h0 := by rw [← hh, Bd.state]; rfl
  show Go p e below s 0 0 (QA Z aw (fun k => if 2 * p2.toNatClampNeg ≤ k ∧ k < 2 * p3.toNatClampNeg then FP.dsub (gw k) (gt k) else gw k) h0 n0) s₁ (entryFrame m #[(.ref o0), (.ref o1), (.int p2), (.int p3)] 7)
  rw [ef_8 m o0 o1 p2 p3]
  have N0 := Fr.nil n0
  refine Go.step (g' := (mkF m 1 #[.val (.ref o0), .val (.ref o1), .val (.int p2), .val (.int p3), .unset, .unset, .unset] [(.ref o0)])) (fun _ k => XS.aloadN X0.here hx rfl (hb hby d8_0) rfl rfl  k) ?_
  obtain ⟨T1, X1, e1, st1⟩ := getF X0 hx hZ hown (host := "") (Or.inl (hw _ (List.mem_of_getElem? (i := 10) rfl))) Via.refl e0 F0 (g := (mkF m 1 #[.val (.ref o0), .val (.ref o1), .val (.int p2), .val (.int p3), .unset, .unset, .unset] [(.ref o0)])) rfl rfl (hb hby d8_1)
  refine Go.step (g' := (mkF m 4 #[.val (.ref o0), .val (.ref o1), .val (.int p2), .val (.int p3), .unset, .unset, .unset] [(.ref aw)])) st1 ?_
  refine Go.step (g' := (mkF m 6 #[.val (.ref o0), .val (.ref o1), .val (.int p2), .val (.int p3), .val (.ref aw), .unset, .unset] [])) (fun _ k => XS.astore X1.here hx rfl (hb hby d8_4) rfl rfl (l' := #[.val (.ref o0), .val (.ref o1), .val (.int p2), .val (.int p3), .val (.ref aw), .unset, .unset]) rfl k) ?_
  refine Go.step (g' := (mkF m 7 #[.val (.ref o0), .val (.ref o1), .val (.int p2), .val (.int p3), .val (.ref aw), .unset, .unset] [(.ref o1)])) (fun _ k => XS.aloadN X1.here hx rfl (hb hby d8_6) rfl rfl  k) ?_
  obtain ⟨T2, X2, e2, st2⟩ := getF X1 hx hZ hown (host := "") (Or.inl (hw _ (List.mem_of_getElem? (i := 10) rfl))) Via.refl e1 F1 (g := (mkF m 7 #[.val (.ref o0), .val (.ref o1), .val (.int p2), .val (.int p3), .val (.ref aw), .unset, .unset] [(.ref o1)])) rfl rfl (hb hby d8_7)
  refine Go.step (g' := (mkF m 10 #[.val (.ref o0), .val (.ref o1), .val (.int p2), .val (.int p3), .val (.ref aw), .unset, .unset] [(.ref at_)])) st2 ?_
  refine Go.step (g' := (mkF m 12 #[.val (.ref o0), .val (.ref o1), .val (.int p2), .val (.int p3), .val (.ref aw), .val (.ref at_), .unset] [])) (fun _ k => XS.astore X2.here hx rfl (hb hby d8_10) rfl rfl (l' := #[.val (.ref o0), .val (.ref o1), .val (.int p2), .val (.int p3), .val (.ref aw), .val (.ref at_), .unset]) rfl k) ?_
  refine Go.step (g' := (mkF m 13 #[.val (.ref o0), .val (.ref o1), .val (.int p2), .val (.int p3), .val (.ref aw), .val (.ref at_), .unset] [(.int (2 : Int32))])) (fun _ k => XS.iconst X2.here hx rfl (hb hby d8_12) k) ?_
  refine Go.step (g' := (mkF m 14 #[.val (.ref o0), .val (.ref o1), .val (.int p2), .val (.int p3), .val (.ref aw), .val (.ref at_), .unset] [(.int p2), (.int (2 : Int32))])) (fun _ k => XS.iloadN X2.here hx rfl (hb hby d8_13) rfl  k) ?_
  refine Go.step (g' := (mkF m 15 #[.val (.ref o0), .val (.ref o1), .val (.int p2), .val (.int p3), .val (.ref aw), .val (.ref at_), .unset] [(.int ((2 : Int32) * p2))])) (fun _ k => XS.imul X2.here hx rfl (hb hby d8_14) rfl k) ?_
  rw [show ((2 : Int32) * p2) = (4 : Int32) from by rw [hf]; decide]
  refine Go.step (g' := (mkF m 17 #[.val (.ref o0), .val (.ref o1), .val (.int p2), .val (.int p3), .val (.ref aw), .val (.ref at_), .val (.int (4 : Int32))] [])) (fun _ k => XS.istore X2.here hx rfl (hb hby d8_15) rfl (l' := #[.val (.ref o0), .val (.ref o1), .val (.int p2), .val (.int p3), .val (.ref aw), .val (.ref at_), .val (.int (4 : Int32))]) rfl k) ?_
  skip
  refine Go.step (g' := (mkF m 19 #[.val (.ref o0), .val (.ref o1), .val (.int p2), .val (.int p3), .val (.ref aw), .val (.ref at_), .val (.int (4 : Int32))] [(.int (4 : Int32))])) (fun _ k => XS.iload X2.here hx rfl (hb hby d8_17) rfl  k) ?_
  refine Go.step (g' := (mkF m 20 #[.val (.ref o0), .val (.ref o1), .val (.int p2), .val (.int p3), .val (.ref aw), .val (.ref at_), .val (.int (4 : Int32))] [(.int (2 : Int32)), (.int (4 : Int32))])) (fun _ k => XS.iconst X2.here hx rfl (hb hby d8_19) k) ?_
  refine Go.step (g' := (mkF m 21 #[.val (.ref o0), .val (.ref o1), .val (.int p2), .val (.int p3), .val (.ref aw), .val (.ref at_), .val (.int (4 : Int32))] [(.int p3), (.int (2 : Int32)), (.int (4 : Int32))])) (fun _ k => XS.iloadN X2.here hx rfl (hb hby d8_20) rfl  k) ?_
  refine Go.step (g' := (mkF m 22 #[.val (.ref o0), .val (.ref o1), .val (.int p2), .val (.int p3), .val (.ref aw), .val (.ref at_), .val (.int (4 : Int32))] [(.int ((2 : Int32) * p3)), (.int (4 : Int32))])) (fun _ k => XS.imul X2.here hx rfl (hb hby d8_21) rfl k) ?_
  rw [show ((2 : Int32) * p3) = (8 : Int32) from by rw [hl]; decide]
  refine Go.step (g' := (mkF m 25 #[.val (.ref o0), .val (.ref o1), .val (.int p2), .val (.int p3), .val (.ref aw), .val (.ref at_), .val (.int (4 : Int32))] [])) (fun _ k => XS.icmpNo X2.here hx rfl (hb hby d8_22) rfl (tlt (by decide : (4 : Int32) < (8 : Int32))).2.1 k) ?_
  skip
  refine Go.step (g' := (mkF m 27 #[.val (.ref o0), .val (.ref o1), .val (.int p2), .val (.int p3), .val (.ref aw), .val (.ref at_), .val (.int (4 : Int32))] [(.ref aw)])) (fun _ k => XS.aload X2.here hx rfl (hb hby d8_25) rfl rfl  k) ?_
  refine Go.step (g' := (mkF m 29 #[.val (.ref o0), .val (.ref o1), .val (.int p2), .val (.int p3), .val (.ref aw), .val (.ref at_), .val (.int (4 : Int32))] [(.int (4 : Int32)), (.ref aw)])) (fun _ k => XS.iload X2.here hx rfl (hb hby d8_27) rfl  k) ?_
  refine Go.step (g' := (mkF m 30 #[.val (.ref o0), .val (.ref o1), .val (.int p2), .val (.int p3), .val (.ref aw), .val (.ref at_), .val (.int (4 : Int32))] [(.int (4 : Int32)), (.ref aw), (.int (4 : Int32)), (.ref aw)])) (fun _ k => Jvm.Free.XT.dup2 X2.here hx rfl (hb hby d8_29) rfl rfl rfl k) ?_
  refine Go.step (g' := (mkF m 31 #[.val (.ref o0), .val (.ref o1), .val (.int p2), .val (.int p3), .val (.ref aw), .val (.ref at_), .val (.int (4 : Int32))] [(.double (gw (4 : Int32).toNatClampNeg)), (.int (4 : Int32)), (.ref aw)])) (fun _ k => getAD X2 hx hZ e2 A_w (j := (4 : Int32)) (by decide) (gf := (mkF m 30 #[.val (.ref o0), .val (.ref o1), .val (.int p2), .val (.int p3), .val (.ref aw), .val (.ref at_), .val (.int (4 : Int32))] [(.int (4 : Int32)), (.ref aw), (.int (4 : Int32)), (.ref aw)])) rfl rfl (hb hby d8_30) k) ?_
  rw [show (gw (4 : Int32).toNatClampNeg) = (gw 4) from rfl]
  refine Go.step (g' := (mkF m 33 #[.val (.ref o0), .val (.ref o1), .val (.int p2), .val (.int p3), .val (.ref aw), .val (.ref at_), .val (.int (4 : Int32))] [(.ref at_), (.double (gw 4)), (.int (4 : Int32)), (.ref aw)])) (fun _ k => XS.aload X2.here hx rfl (hb hby d8_31) rfl rfl  k) ?_
  refine Go.step (g' := (mkF m 35 #[.val (.ref o0), .val (.ref o1), .val (.int p2), .val (.int p3), .val (.ref aw), .val (.ref at_), .val (.int (4 : Int32))] [(.int (4 : Int32)), (.ref at_), (.double (gw 4)), (.int (4 : Int32)), (.ref aw)])) (fun _ k => XS.iload X2.here hx rfl (hb hby d8_33) rfl  k) ?_
  refine Go.step (g' := (mkF m 36 #[.val (.ref o0), .val (.ref o1), .val (.int p2), .val (.int p3), .val (.ref aw), .val (.ref at_), .val (.int (4 : Int32))] [(.double (gt (4 : Int32).toNatClampNeg)), (.double (gw 4)), (.int (4 : Int32)), (.ref aw)])) (fun _ k => getAD X2 hx hZ e2 A_t (j := (4 : Int32)) (by decide) (gf := (mkF m 35 #[.val (.ref o0), .val (.ref o1), .val (.int p2), .val (.int p3), .val (.ref aw), .val (.ref at_), .val (.int (4 : Int32))] [(.int (4 : Int32)), (.ref at_), (.double (gw 4)), (.int (4 : Int32)), (.ref aw)])) rfl rfl (hb hby d8_35) k) ?_
  rw [show (gt (4 : Int32).toNatClampNeg) = (gt 4) from rfl]
  refine Go.step (g' := (mkF m 37 #[.val (.ref o0), .val (.ref o1), .val (.int p2), .val (.int p3), .val (.ref aw), .val (.ref at_), .val (.int (4 : Int32))] [(.double (FP.dsub (gw 4) (gt 4))), (.int (4 : Int32)), (.ref aw)])) (fun _ k => XS.dsubS X2.here hx rfl (hb hby d8_36) rfl (hnan 4) rfl k) ?_
  obtain ⟨T3, h3, lc3, X3, e3, W3, N3, V3, st3⟩ := putAD X2 hx hZ e2 A_w (j := (4 : Int32)) (by decide) N0 g_aw (gf := (mkF m 37 #[.val (.ref o0), .val (.ref o1), .val (.int p2), .val (.int p3), .val (.ref aw), .val (.ref at_), .val (.int (4 : Int32))] [(.double (FP.dsub (gw 4) (gt 4))), (.int (4 : Int32)), (.ref aw)])) rfl rfl (hb hby d8_37)
  refine Go.step (g' := (mkF m 38 #[.val (.ref o0), .val (.ref o1), .val (.int p2), .val (.int p3), .val (.ref aw), .val (.ref at_), .val (.int (4 : Int32))] [])) st3 ?_
  have Q4 := ((Keep.refl h0 [aw]).wr W3 (Or.inl (List.mem_of_getElem? (i := 0) rfl)))
  refine Go.step (g' := (mkF m 41 #[.val (.ref o0), .val (.ref o1), .val (.int p2), .val (.int p3), .val (.ref aw), .val (.ref at_), .val (.int ((4 : Int32) + (1 : Int32)))] [])) (fun _ k => XS.iinc X3.here hx rfl (hb hby d8_38) rfl (l' := #[.val (.ref o0), .val (.ref o1), .val (.int p2), .val (.int p3), .val (.ref aw), .val (.ref at_), .val (.int ((4 : Int32) + (1 : Int32)))]) rfl k) ?_
  rw [show ((4 : Int32) + (1 : Int32)) = (5 : Int32) from by decide]
  refine Go.step (g' := (mkF m 17 #[.val (.ref o0), .val (.ref o1), .val (.int p2), .val (.int p3), .val (.ref aw), .val (.ref at_), .val (.int (5 : Int32))] [])) (fun _ k => XS.goto X3.here hx rfl (pc0 := 41) (pc' := 17) rfl (hb hby d8_41) (by decide) (by decide) k) ?_
  skip
  refine Go.step (g' := (mkF m 19 #[.val (.ref o0), .val (.ref o1), .val (.int p2), .val (.int p3), .val (.ref aw), .val (.ref at_), .val (.int (5 : Int32))] [(.int (5 : Int32))])) (fun _ k => XS.iload X3.here hx rfl (hb hby d8_17) rfl  k) ?_
  refine Go.step (g' := (mkF m 20 #[.val (.ref o0), .val (.ref o1), .val (.int p2), .val (.int p3), .val (.ref aw), .val (.ref at_), .val (.int (5 : Int32))] [(.int (2 : Int32)), (.int (5 : Int32))])) (fun _ k => XS.iconst X3.here hx rfl (hb hby d8_19) k) ?_
  refine Go.step (g' := (mkF m 21 #[.val (.ref o0), .val (.ref o1), .val (.int p2), .val (.int p3), .val (.ref aw), .val (.ref at_), .val (.int (5 : Int32))] [(.int p3), (.int (2 : Int32)), (.int (5 : Int32))])) (fun _ k => XS.iloadN X3.here hx rfl (hb hby d8_20) rfl  k) ?_
  refine Go.step (g' := (mkF m 22 #[.val (.ref o0), .val (.ref o1), .val (.int p2), .val (.int p3), .val (.ref aw), .val (.ref at_), .val (.int (5 : Int32))] [(.int ((2 : Int32) * p3)), (.int (5 : Int32))])) (fun _ k => XS.imul X3.here hx rfl (hb hby d8_21) rfl k) ?_
  rw [show ((2 : Int32) * p3) = (8 : Int32) from by rw [hl]; decide]
  refine Go.step (g' := (mkF m 25 #[.val (.ref o0), .val (.ref o1), .val (.int p2), .val (.int p3), .val (.ref aw), .val (.ref at_), .val (.int (5 : Int32))] [])) (fun _ k => XS.icmpNo X3.here hx rfl (hb hby d8_22) rfl (tlt (by decide : (5 : Int32) < (8 : Int32))).2.1 k) ?_
  skip
  refine Go.step (g' := (mkF m 27 #[.val (.ref o0), .val (.ref o1), .val (.int p2), .val (.int p3), .val (.ref aw), .val (.ref at_), .val (.int (5 : Int32))] [(.ref aw)])) (fun _ k => XS.aload X3.here hx rfl (hb hby d8_25) rfl rfl  k) ?_
  refine Go.step (g' := (mkF m 29 #[.val (.ref o0), .val (.ref o1), .val (.int p2), .val (.int p3), .val (.ref aw), .val (.ref at_), .val (.int (5 : Int32))] [(.int (5 : Int32)), (.ref aw)])) (fun _ k => XS.iload X3.here hx rfl (hb hby d8_27) rfl  k) ?_
  refine Go.step (g' := (mkF m 30 #[.val (.ref o0), .val (.ref o1), .val (.int p2), .val (.int p3), .val (.ref aw), .val (.ref at_), .val (.int (5 : Int32))] [(.int (5 : Int32)), (.ref aw), (.int (5 : Int32)), (.ref aw)])) (fun _ k => Jvm.Free.XT.dup2 X3.here hx rfl (hb hby d8_29) rfl rfl rfl k) ?_
  refine Go.step (g' := (mkF m 31 #[.val (.ref o0), .val (.ref o1), .val (.int p2), .val (.int p3), .val (.ref aw), .val (.ref at_), .val (.int (5 : Int32))] [(.double ((upd gw (4 : Int32).toNatClampNeg (FP.dsub (gw 4) (gt 4))) (5 : Int32).toNatClampNeg)), (.int (5 : Int32)), (.ref aw)])) (fun _ k => getAD X3 hx hZ e3 V3 (j := (5 : Int32)) (by decide) (gf := (mkF m 30 #[.val (.ref o0), .val (.ref o1), .val (.int p2), .val (.int p3), .val (.ref aw), .val (.ref at_), .val (.int (5 : Int32))] [(.int (5 : Int32)), (.ref aw), (.int (5 : Int32)), (.ref aw)])) rfl rfl (hb hby d8_30) k) ?_
  rw [show ((upd gw (4 : Int32).toNatClampNeg (FP.dsub (gw 4) (gt 4))) (5 : Int32).toNatClampNeg) = (gw 5) from rfl]
  refine Go.step (g' := (mkF m 33 #[.val (.ref o0), .val (.ref o1), .val (.int p2), .val (.int p3), .val (.ref aw), .val (.ref at_), .val (.int (5 : Int32))] [(.ref at_), (.double (gw 5)), (.int (5 : Int32)), (.ref aw)])) (fun _ k => XS.aload X3.here hx rfl (hb hby d8_31) rfl rfl  k) ?_
  refine Go.step (g' := (mkF m 35 #[.val (.ref o0), .val (.ref o1), .val (.int p2), .val (.int p3), .val (.ref aw), .val (.ref at_), .val (.int (5 : Int32))] [(.int (5 : Int32)), (.ref at_), (.double (gw 5)), (.int (5 : Int32)), (.ref aw)])) (fun _ k => XS.iload X3.here hx rfl (hb hby d8_33) rfl  k) ?_
  refine Go.step (g' := (mkF m 36 #[.val (.ref o0), .val (.ref o1), .val (.int p2), .val (.int p3), .val (.ref aw), .val (.ref at_), .val (.int (5 : Int32))] [(.double (gt (5 : Int32).toNatClampNeg)), (.double (gw 5)), (.int (5 : Int32)), (.ref aw)])) (fun _ k => getAD X3 hx hZ e3 (A_t.other W3 (Ne.symm n3)) (j := (5 : Int32)) (by decide) (gf := (mkF m 35 #[.val (.ref o0), .val (.ref o1), .val (.int p2), .val (.int p3), .val (.ref aw), .val (.ref at_), .val (.int (5 : Int32))] [(.int (5 : Int32)), (.ref at_), (.double (gw 5)), (.int (5 : Int32)), (.ref aw)])) rfl rfl (hb hby d8_35) k) ?_
  rw [show (gt (5 : Int32).toNatClampNeg) = (gt 5) from rfl]
  refine Go.step (g' := (mkF m 37 #[.val (.ref o0), .val (.ref o1), .val (.int p2), .val (.int p3), .val (.ref aw), .val (.ref at_), .val (.int (5 : Int32))] [(.double (FP.dsub (gw 5) (gt 5))), (.int (5 : Int32)), (.ref aw)])) (fun _ k => XS.dsubS X3.here hx rfl (hb hby d8_36) rfl (hnan 5) rfl k) ?_
  obtain ⟨T5, h5, lc5, X5, e5, W5, N5, V5, st5⟩ := putAD X3 hx hZ e3 V3 (j := (5 : Int32)) (by decide) N3 g_aw (gf := (mkF m 37 #[.val (.ref o0), .val (.ref o1), .val (.int p2), .val (.int p3), .val (.ref aw), .val (.ref at_), .val (.int (5 : Int32))] [(.double (FP.dsub (gw 5) (gt 5))), (.int (5 : Int32)), (.ref aw)])) rfl rfl (hb hby d8_37)
  refine Go.step (g' := (mkF m 38 #[.val (.ref o0), .val (.ref o1), .val (.int p2), .val (.int p3), .val (.ref aw), .val (.ref at_), .val (.int (5 : Int32))] [])) st5 ?_
  have Q6 := (Nat.le_trans (Nat.le_trans Z0 (Keep.of_wr W3).1) (Keep.of_wr W5).1)
  refine Go.step (g' := (mkF m 41 #[.val (.ref o0), .val (.ref o1), .val (.int p2), .val (.int p3), .val (.ref aw), .val (.ref at_), .val (.int ((5 : Int32) + (1 : Int32)))] [])) (fun _ k => XS.iinc X5.here hx rfl (hb hby d8_38) rfl (l' := #[.val (.ref o0), .val (.ref o1), .val (.int p2), .val (.int p3), .val (.ref aw), .val (.ref at_), .val (.int ((5 : Int32) + (1 : Int32)))]) rfl k) ?_
  rw [show ((5 : Int32) + (1 : Int32)) = (6 : Int32) from by decide]
  refine Go.step (g' := (mkF m 17 #[.val (.ref o0), .val (.ref o1), .val (.int p2), .val (.int p3), .val (.ref aw), .val (.ref at_), .val (.int (6 : Int32))] [])) (fun _ k => XS.goto X5.here hx rfl (pc0 := 41) (pc' := 17) rfl (hb hby d8_41) (by decide) (by decide) k) ?_
  skip
  refine Go.step (g' := (mkF m 19 #[.val (.ref o0), .val (.ref o1), .val (.int p2), .val (.int p3), .val (.ref aw), .val (.ref at_), .val (.int (6 : Int32))] [(.int (6 : Int32))])) (fun _ k => XS.iload X5.here hx rfl (hb hby d8_17) rfl  k) ?_
  refine Go.step (g' := (mkF m 20 #[.val (.ref o0), .val (.ref o1), .val (.int p2), .val (.int p3), .val (.ref aw), .val (.ref at_), .val (.int (6 : Int32))] [(.int (2 : Int32)), (.int (6 : Int32))])) (fun _ k => XS.iconst X5.here hx rfl (hb hby d8_19) k) ?_
  refine Go.step (g' := (mkF m 21 #[.val (.ref o0), .val (.ref o1), .val (.int p2), .val (.int p3), .val (.ref aw), .val (.ref at_), .val (.int (6 : Int32))] [(.int p3), (.int (2 : Int32)), (.int (6 : Int32))])) (fun _ k => XS.iloadN X5.here hx rfl (hb hby d8_20) rfl  k) ?_
  refine Go.step (g' := (mkF m 22 #[.val (.ref o0), .val (.ref o1), .val (.int p2), .val (.int p3), .val (.ref aw), .val (.ref at_), .val (.int (6 : Int32))] [(.int ((2 : Int32) * p3)), (.int (6 : Int32))])) (fun _ k => XS.imul X5.here hx rfl (hb hby d8_21) rfl k) ?_
  rw [show ((2 : Int32) * p3) = (8 : Int32) from by rw [hl]; decide]
  refine Go.step (g' := (mkF m 25 #[.val (.ref o0), .val (.ref o1), .val (.int p2), .val (.int p3), .val (.ref aw), .val (.ref at_), .val (.int (6 : Int32))] [])) (fun _ k => XS.icmpNo X5.here hx rfl (hb hby d8_22) rfl (tlt (by decide : (6 : Int32) < (8 : Int32))).2.1 k) ?_
  skip
  refine Go.step (g' := (mkF m 27 #[.val (.ref o0), .val (.ref o1), .val (.int p2), .val (.int p3), .val (.ref aw), .val (.ref at_), .val (.int (6 : Int32))] [(.ref aw)])) (fun _ k => XS.aload X5.here hx rfl (hb hby d8_25) rfl rfl  k) ?_
  refine Go.step (g' := (mkF m 29 #[.val (.ref o0), .val (.ref o1), .val (.int p2), .val (.int p3), .val (.ref aw), .val (.ref at_), .val (.int (6 : Int32))] [(.int (6 : Int32)), (.ref aw)])) (fun _ k => XS.iload X5.here hx rfl (hb hby d8_27) rfl  k) ?_
  refine Go.step (g' := (mkF m 30 #[.val (.ref o0), .val (.ref o1), .val (.int p2), .val (.int p3), .val (.ref aw), .val (.ref at_), .val (.int (6 : Int32))] [(.int (6 : Int32)), (.ref aw), (.int (6 : Int32)), (.ref aw)])) (fun _ k => Jvm.Free.XT.dup2 X5.here hx rfl (hb hby d8_29) rfl rfl rfl k) ?_
  refine Go.step (g' := (mkF m 31 #[.val (.ref o0), .val (.ref o1), .val (.int p2), .val (.int p3), .val (.ref aw), .val (.ref at_), .val (.int (6 : Int32))] [(.double ((upd (upd gw (4 : Int32).toNatClampNeg (FP.dsub (gw 4) (gt 4))) (5 : Int32).toNatClampNeg (FP.dsub (gw 5) (gt 5))) (6 : Int32).toNatClampNeg)), (.int (6 : Int32)), (.ref aw)])) (fun _ k => getAD X5 hx hZ e5 V5 (j := (6 : Int32)) (by decide) (gf := (mkF m 30 #[.val (.ref o0), .val (.ref o1), .val (.int p2), .val (.int p3), .val (.ref aw), .val (.ref at_), .val (.int (6 : Int32))] [(.int (6 : Int32)), (.ref aw), (.int (6 : Int32)), (.ref aw)])) rfl rfl (hb hby d8_30) k) ?_
  rw [show ((upd (upd gw (4 : Int32).toNatClampNeg (FP.dsub (gw 4) (gt 4))) (5 : Int32).toNatClampNeg (FP.dsub (gw 5) (gt 5))) (6 : Int32).toNatClampNeg) = (gw 6) from rfl]
  refine Go.step (g' := (mkF m 33 #[.val (.ref o0), .val (.ref o1), .val (.int p2), .val (.int p3), .val (.ref aw), .val (.ref at_), .val (.int (6 : Int32))] [(.ref at_), (.double (gw 6)), (.int (6 : Int32)), (.ref aw)])) (fun _ k => XS.aload X5.here hx rfl (hb hby d8_31) rfl rfl  k) ?_
  refine Go.step (g' := (mkF m 35 #[.val (.ref o0), .val (.ref o1), .val (.int p2), .val (.int p3), .val (.ref aw), .val (.ref at_), .val (.int (6 : Int32))] [(.int (6 : Int32)), (.ref at_), (.double (gw 6)), (.int (6 : Int32)), (.ref aw)])) (fun _ k => XS.iload X5.here hx rfl (hb hby d8_33) rfl  k) ?_
  refine Go.step (g' := (mkF m 36 #[.val (.ref o0), .val (.ref o1), .val (.int p2), .val (.int p3), .val (.ref aw), .val (.ref at_), .val (.int (6 : Int32))] [(.double (gt (6 : Int32).toNatClampNeg)), (.double (gw 6)), (.int (6 : Int32)), (.ref aw)])) (fun _ k => getAD X5 hx hZ e5 ((A_t.other W3 (Ne.symm n3)).other W5 (Ne.symm n3)) (j := (6 : Int32)) (by decide) (gf := (mkF m 35 #[.val (.ref o0), .val (.ref o1), .val (.int p2), .val (.int p3), .val (.ref aw), .val (.ref at_), .val (.int (6 : Int32))] [(.int (6 : Int32)), (.ref at_), (.double (gw 6)), (.int (6 : Int32)), (.ref aw)])) rfl rfl (hb hby d8_35) k) ?_
  rw [show (gt (6 : Int32).toNatClampNeg) = (gt 6) from rfl]
  refine Go.step (g' := (mkF m 37 #[.val (.ref o0), .val (.ref o1), .val (.int p2), .val (.int p3), .val (.ref aw), .val (.ref at_), .val (.int (6 : Int32))] [(.double (FP.dsub (gw 6) (gt 6))), (.int (6 : Int32)), (.ref aw)])) (fun _ k => XS.dsubS X5.here hx rfl (hb hby d8_36) rfl (hnan 6) rfl k) ?_
  obtain ⟨T7, h7, lc7, X7, e7, W7, N7, V7, st7⟩ := putAD X5 hx hZ e5 V5 (j := (6 : Int32)) (by decide) N5 g_aw (gf := (mkF m 37 #[.val (.ref o0), .val (.ref o1), .val (.int p2), .val (.int p3), .val (.ref aw), .val (.ref at_), .val (.int (6 : Int32))] [(.double (FP.dsub (gw 6) (gt 6))), (.int (6 : Int32)), (.ref aw)])) rfl rfl (hb hby d8_37)
  refine Go.step (g' := (mkF m 38 #[.val (.ref o0), .val (.ref o1), .val (.int p2), .val (.int p3), .val (.ref aw), .val (.ref at_), .val (.int (6 : Int32))] [])) st7 ?_
  have Q8 := (((F0.other W3 (Or.inl n1)).other W5 (Or.inl n1)).other W7 (Or.inl n1))
  have Q9 := (((F1.other W3 (Or.inl n2)).other W5 (Or.inl n2)).other W7 (Or.inl n2))
  have Q10 := (((A_t.other W3 (Ne.symm n3)).other W5 (Ne.symm n3)).other W7 (Ne.symm n3))
  have Q11 := ((Q4.wr W5 (Or.inl (List.mem_of_getElem? (i := 0) rfl))).wr W7 (Or.inl (List.mem_of_getElem? (i := 0) rfl)))
  refine Go.step (g' := (mkF m 41 #[.val (.ref o0), .val (.ref o1), .val (.int p2), .val (.int p3), .val (.ref aw), .val (.ref at_), .val (.int ((6 : Int32) + (1 : Int32)))] [])) (fun _ k => XS.iinc X7.here hx rfl (hb hby d8_38) rfl (l' := #[.val (.ref o0), .val (.ref o1), .val (.int p2), .val (.int p3), .val (.ref aw), .val (.ref at_), .val (.int ((6 : Int32) + (1 : Int32)))]) rfl k) ?_
  rw [show ((6 : Int32) + (1 : Int32)) = (7 : Int32) from by decide]
  refine Go.step (g' := (mkF m 17 #[.val (.ref o0), .val (.ref o1), .val (.int p2), .val (.int p3), .val (.ref aw), .val (.ref at_), .val (.int (7 : Int32))] [])) (fun _ k => XS.goto X7.here hx rfl (pc0 := 41) (pc' := 17) rfl (hb hby d8_41) (by decide) (by decide) k) ?_
  skip
  refine Go.step (g' := (mkF m 19 #[.val (.ref o0), .val (.ref o1), .val (.int p2), .val (.int p3), .val (.ref aw), .val (.ref at_), .val (.int (7 : Int32))] [(.int (7 : Int32))])) (fun _ k => XS.iload X7.here hx rfl (hb hby d8_17) rfl  k) ?_
  refine Go.step (g' := (mkF m 20 #[.val (.ref o0), .val (.ref o1), .val (.int p2), .val (.int p3), .val (.ref aw), .val (.ref at_), .val (.int (7 : Int32))] [(.int (2 : Int32)), (.int (7 : Int32))])) (fun _ k => XS.iconst X7.here hx rfl (hb hby d8_19) k) ?_
  refine Go.step (g' := (mkF m 21 #[.val (.ref o0), .val (.ref o1), .val (.int p2), .val (.int p3), .val (.ref aw), .val (.ref at_), .val (.int (7 : Int32))] [(.int p3), (.int (2 : Int32)), (.int (7 : Int32))])) (fun _ k => XS.iloadN X7.here hx rfl (hb hby d8_20) rfl  k) ?_
  refine Go.step (g' := (mkF m 22 #[.val (.ref o0), .val (.ref o1), .val (.int p2), .val (.int p3), .val (.ref aw), .val (.ref at_), .val (.int (7 : Int32))] [(.int ((2 : Int32) * p3)), (.int (7 : Int32))])) (fun _ k => XS.imul X7.here hx rfl (hb hby d8_21) rfl k) ?_
  rw [show ((2 : Int32) * p3) = (8 : Int32) from by rw [hl]; decide]
  refine Go.step (g' := (mkF m 25 #[.val (.ref o0), .val (.ref o1), .val (.int p2), .val (.int p3), .val (.ref aw), .val (.ref at_), .val (.int (7 : Int32))] [])) (fun _ k => XS.icmpNo X7.here hx rfl (hb hby d8_22) rfl (tlt (by decide : (7 : Int32) < (8 : Int32))).2.1 k) ?_
  skip
  refine Go.step (g' := (mkF m 27 #[.val (.ref o0), .val (.ref o1), .val (.int p2), .val (.int p3), .val (.ref aw), .val (.ref at_), .val (.int (7 : Int32))] [(.ref aw)])) (fun _ k => XS.aload X7.here hx rfl (hb hby d8_25) rfl rfl  k) ?_
  refine Go.step (g' := (mkF m 29 #[.val (.ref o0), .val (.ref o1), .val (.int p2), .val (.int p3), .val (.ref aw), .val (.ref at_), .val (.int (7 : Int32))] [(.int (7 : Int32)), (.ref aw)])) (fun _ k => XS.iload X7.here hx rfl (hb hby d8_27) rfl  k) ?_
  refine Go.step (g' := (mkF m 30 #[.val (.ref o0), .val (.ref o1), .val (.int p2), .val (.int p3), .val (.ref aw), .val (.ref at_), .val (.int (7 : Int32))] [(.int (7 : Int32)), (.ref aw), (.int (7 : Int32)), (.ref aw)])) (fun _ k => Jvm.Free.XT.dup2 X7.here hx rfl (hb hby d8_29) rfl rfl rfl k) ?_
  refine Go.step (g' := (mkF m 31 #[.val (.ref o0), .val (.ref o1), .val (.int p2), .val (.int p3), .val (.ref aw), .val (.ref at_), .val (.int (7 : Int32))] [(.double ((upd (upd (upd gw (4 : Int32).toNatClampNeg (FP.dsub (gw 4) (gt 4))) (5 : Int32).toNatClampNeg (FP.dsub (gw 5) (gt 5))) (6 : Int32).toNatClampNeg (FP.dsub (gw 6) (gt 6))) (7 : Int32).toNatClampNeg)), (.int (7 : Int32)), (.ref aw)])) (fun _ k => getAD X7 hx hZ e7 V7 (j := (7 : Int32)) (by decide) (gf := (mkF m 30 #[.val (.ref o0), .val (.ref o1), .val (.int p2), .val (.int p3), .val (.ref aw), .val (.ref at_), .val (.int (7 : Int32))] [(.int (7 : Int32)), (.ref aw), (.int (7 : Int32)), (.ref aw)])) rfl rfl (hb hby d8_30) k) ?_
  rw [show ((upd (upd (upd gw (4 : Int32).toNatClampNeg (FP.dsub (gw 4) (gt 4))) (5 : Int32).toNatClampNeg (FP.dsub (gw 5) (gt 5))) (6 : Int32).toNatClampNeg (FP.dsub (gw 6) (gt 6))) (7 : Int32).toNatClampNeg) = (gw 7) from rfl]
  refine Go.step (g' := (mkF m 33 #[.val (.ref o0), .val (.ref o1), .val (.int p2), .val (.int p3), .val (.ref aw), .val (.ref at_), .val (.int (7 : Int32))] [(.ref at_), (.double (gw 7)), (.int (7 : Int32)), (.ref aw)])) (fun _ k => XS.aload X7.here hx rfl (hb hby d8_31) rfl rfl  k) ?_
  refine Go.step (g' := (mkF m 35 #[.val (.ref o0), .val (.ref o1), .val (.int p2), .val (.int p3), .val (.ref aw), .val (.ref at_), .val (.int (7 : Int32))] [(.int (7 : Int32)), (.ref at_), (.double (gw 7)), (.int (7 : Int32)), (.ref aw)])) (fun _ k => XS.iload X7.here hx rfl (hb hby d8_33) rfl  k) ?_
  refine Go.step (g' := (mkF m 36 #[.val (.ref o0), .val (.ref o1), .val (.int p2), .val (.int p3), .val (.ref aw), .val (.ref at_), .val (.int (7 : Int32))] [(.double (gt (7 : Int32).toNatClampNeg)), (.double (gw 7)), (.int (7 : Int32)), (.ref aw)])) (fun _ k => getAD X7 hx hZ e7 Q10 (j := (7 : Int32)) (by decide) (gf := (mkF m 35 #[.val (.ref o0), .val (.ref o1), .val (.int p2), .val (.int p3), .val (.ref aw), .val (.ref at_), .val (.int (7 : Int32))] [(.int (7 : Int32)), (.ref at_), (.double (gw 7)), (.int (7 : Int32)), (.ref aw)])) rfl rfl (hb hby d8_35) k) ?_
  rw [show (gt (7 : Int32).toNatClampNeg) = (gt 7) from rfl]
  refine Go.step (g' := (mkF m 37 #[.val (.ref o0), .val (.ref o1), .val (.int p2), .val (.int p3), .val (.ref aw), .val (.ref at_), .val (.int (7 : Int32))] [(.double (FP.dsub (gw 7) (gt 7))), (.int (7 : Int32)), (.ref aw)])) (fun _ k => XS.dsubS X7.here hx rfl (hb hby d8_36) rfl (hnan 7) rfl k) ?_
  obtain ⟨T12, h12, lc12, X12, e12, W12, N12, V12, st12⟩ := putAD X7 hx hZ e7 V7 (j := (7 : Int32)) (by decide) N7 g_aw (gf := (mkF m 37 #[.val (.ref o0), .val (.ref o1), .val (.int p2), .val (.int p3), .val (.ref aw), .val (.ref at_), .val (.int (7 : Int32))] [(.double (FP.dsub (gw 7) (gt 7))), (.int (7 : Int32)), (.ref aw)])) rfl rfl (hb hby d8_37)
  refine Go.step (g' := (mkF m 38 #[.val (.ref o0), .val (.ref o1), .val (.int p2), .val (.int p3), .val (.ref aw), .val (.ref at_), .val (.int (7 : Int32))] [])) st12 ?_
  have Q13 := (Nat.le_trans (Nat.le_trans Q6 (Keep.of_wr W7).1) (Keep.of_wr W12).1)
  refine Go.step (g' := (mkF m 41 #[.val (.ref o0), .val (.ref o1), .val (.int p2), .val (.int p3), .val (.ref aw), .val (.ref at_), .val (.int ((7 : Int32) + (1 : Int32)))] [])) (fun _ k => XS.iinc X12.here hx rfl (hb hby d8_38) rfl (l' := #[.val (.ref o0), .val (.ref o1), .val (.int p2), .val (.int p3), .val (.ref aw), .val (.ref at_), .val (.int ((7 : Int32) + (1 : Int32)))]) rfl k) ?_
  rw [show ((7 : Int32) + (1 : Int32)) = (8 : Int32) from by decide]
  refine Go.step (g' := (mkF m 17 #[.val (.ref o0), .val (.ref o1), .val (.int p2), .val (.int p3), .val (.ref aw), .val (.ref at_), .val (.int (8 : Int32))] [])) (fun _ k => XS.goto X12.here hx rfl (pc0 := 41) (pc' := 17) rfl (hb hby d8_41) (by decide) (by decide) k) ?_
  skip
  refine Go.step (g' := (mkF m 19 #[.val (.ref o0), .val (.ref o1), .val (.int p2), .val (.int p3), .val (.ref aw), .val (.ref at_), .val (.int (8 : Int32))] [(.int (8 : Int32))])) (fun _ k => XS.iload X12.here hx rfl (hb hby d8_17) rfl  k) ?_
  refine Go.step (g' := (mkF m 20 #[.val (.ref o0), .val (.ref o1), .val (.int p2), .val (.int p3), .val (.ref aw), .val (.ref at_), .val (.int (8 : Int32))] [(.int (2 : Int32)), (.int (8 : Int32))])) (fun _ k => XS.iconst X12.here hx rfl (hb hby d8_19) k) ?_
  refine Go.step (g' := (mkF m 21 #[.val (.ref o0), .val (.ref o1), .val (.int p2), .val (.int p3), .val (.ref aw), .val (.ref at_), .val (.int (8 : Int32))] [(.int p3), (.int (2 : Int32)), (.int (8 : Int32))])) (fun _ k => XS.iloadN X12.here hx rfl (hb hby d8_20) rfl  k) ?_
  refine Go.step (g' := (mkF m 22 #[.val (.ref o0), .val (.ref o1), .val (.int p2), .val (.int p3), .val (.ref aw), .val (.ref at_), .val (.int (8 : Int32))] [(.int ((2 : Int32) * p3)), (.int (8 : Int32))])) (fun _ k => XS.imul X12.here hx rfl (hb hby d8_21) rfl k) ?_
  rw [show ((2 : Int32) * p3) = (8 : Int32) from by rw [hl]; decide]
  refine Go.step (g' := (mkF m 44 #[.val (.ref o0), .val (.ref o1), .val (.int p2), .val (.int p3), .val (.ref aw), .val (.ref at_), .val (.int (8 : Int32))] [])) (fun _ k => XS.icmpYes X12.here hx rfl (pc0 := 22) (pc' := 44) rfl (hb hby d8_22) rfl (flt (by decide : ¬ ((8 : Int32) < (8 : Int32)))).2.1 (by decide) (by decide) k) ?_
  skip
  exact Go.ret0 X12 hx hlk Bd.returns (hb hby d8_44) (by decide) (by decide) (by rw [e12]; exact ⟨rfl, N12, (Q11.wr W12 (Or.inl (List.mem_of_getElem? (i := 0) rfl))), V12.cong (fun k hk => by rw [hf, hl]; match k, hk with | 0, _ => rfl | 1, _ => rfl | 2, _ => rfl | 3, _ => rfl | 4, _ => rfl | 5, _ => rfl | 6, _ => rfl | 7, _ => rfl)⟩)

set_option maxRecDepth 65536 in
set_option maxHeartbeats 40000000 in
theorem rm8w33 (l : Launch) (Z : State) (a0 : Array Value) (hw : ∀ d ∈ tables_1, d.before a0 Z = true) (ws : List Jvm.Cond) (o0 : Addr) (o1 : Addr) (p2 : Int32) (p3 : Int32) (aw : Addr) (at_ : Addr) (gw : Nat → UInt64) (gt : Nat → UInt64) (h0 : Heap) (n0 : Nat) (Z0 : n0 ≤ h0.size) (F0 : Fld Z h0 o0 "com/example/rhadamanthus/rhadamanthus/learn/Histogram" "cells" "[D" (.ref aw)) (F1 : Fld Z h0 o1 "com/example/rhadamanthus/rhadamanthus/learn/Histogram" "cells" "[D" (.ref at_)) (A_w : IA Z h0 aw .double 8 (fun k => .double (gw k))) (A_t : IA Z h0 at_ .double 8 (fun k => .double (gt k))) (n1 : o0 ≠ aw) (n2 : o1 ≠ aw) (n3 : aw ≠ at_) (g_aw : n0 ≤ aw) (hnan : ∀ k, Jvm.Free.Fl.NoNaN64 (FP.dsub (gw k) (gt k))) (hf : p2 = (3 : Int32)) (hl : p3 = (3 : Int32)) :
    MetFree l (⟨"com/example/rhadamanthus/rhadamanthus/learn/Histogram", "subtractColumns", "(Lcom/example/rhadamanthus/rhadamanthus/learn/Histogram;II)V"⟩ : MethodName) (head1 (Jvm.Cond.code (⟨"com/example/rhadamanthus/rhadamanthus/learn/Histogram", "subtractColumns", "(Lcom/example/rhadamanthus/rhadamanthus/learn/Histogram;II)V"⟩ : MethodName) prog_64_method_10_code 7 none :: ws) ({ frames := 0, cells := 0, slots := 0, locals := 0 } : Room)) (fun a U => a = #[(.ref o0), (.ref o1), (.int p2), (.int p3)] ∧ Z.Warmed39 U.vm ∧ U.heap = h0) (fun _ _ _ _ _ => True) (fun _ U o U' => ∃ v L, o = .returned v ∧ (QA Z aw (fun k => if 2 * p2.toNatClampNeg ≤ k ∧ k < 2 * p3.toNatClampNeg then FP.dsub (gw k) (gt k) else gw k) h0 n0) v U'.heap L ∧ FrameEnd U o U' L ({ frames := 0, cells := 0, slots := 0, locals := 0 } : Room).cells ({ frames := 0, cells := 0, slots := 0, locals := 0 } : Room).slots) := by
  refine MetFree.of_bodySF (plainFor_of_name pn_8) hisR ?_
  intro p e s m args below meth c s₁ Bd hml0 hP hK
  obtain ⟨rfl, hZ, hh⟩ := hP
  have hx := Bd.exec
  have hby := Bd.bytes
  have hlk : meth.locks = false := BodyLoose.notSynchronized Bd
  have hml : c.maxLocals = 7 := hml0
  have hown : s.vm.findClass "com/example/rhadamanthus/rhadamanthus/learn/Histogram" = some m.cls := findClass_of_methodNamed Bd.named
  have hnm := (name_of_methodNamed Bd.named Bd.method).1
  have X0 : Stand p l e ({ frames := 0, cells := 0, slots := 0, locals := 0 } : Room) s m #[(.ref o0), (.ref o1), (.int p2), (.int p3)] below meth c s₁ ([] : List Loc) 0 0 := Stand.of_body Bd
  have e0 : s₁.heap = h0 := by rw [← hh, Bd.state]; rfl
  show Go p e below s 0 0 (QA Z aw (fun k => if 2 * p2.toNatClampNeg ≤ k ∧ k < 2 * p3.toNatClampNeg then FP.dsub (gw k) (gt k) else gw k) h0 n0) s₁ (entryFrame m #[(.ref o0), (.ref o1), (.int p2), (.int p3)] 7)
  rw [ef_8 m o0 o1 p2 p3]
  have N0 := Fr.nil n0
  refine Go.step (g' := (mkF m 1 #[.val (.ref o0), .val (.ref o1), .val (.int p2), .val (.int p3), .unset, .unset, .unset] [(.ref o0)])) (fun _ k => XS.aloadN X0.here hx rfl (hb hby d8_0) rfl rfl  k) ?_
  obtain ⟨T1, X1, e1, st1⟩ := getF X0 hx hZ hown (host := "") (Or.inl (hw _ (List.mem_of_getElem? (i := 10) rfl))) Via.refl e0 F0 (g := (mkF m 1 #[.val (.ref o0), .val (.ref o1), .val (.int p2), .val (.int p3), .unset, .unset, .unset] [(.ref o0)])) rfl rfl (hb hby d8_1)
  refine Go.step (g' := (mkF m 4 #[.val (.ref o0), .val (.ref o1), .val (.int p2), .val (.int p3), .unset, .unset, .unset] [(.ref aw)])) st1 ?_
  refine Go.step (g' := (mkF m 6 #[.val (.ref o0), .val (.ref o1), .val (.int p2), .val (.int p3), .val (.ref aw), .unset, .unset] [])) (fun _ k => XS.astore X1.here hx rfl (hb hby d8_4) rfl rfl (l' := #[.val (.ref o0), .val (.ref o1), .val (.int p2), .val (.int p3), .val (.ref aw), .unset, .unset]) rfl k) ?_
  refine Go.step (g' := (mkF m 7 #[.val (.ref o0), .val (.ref o1), .val (.int p2), .val (.int p3), .val (.ref aw), .unset, .unset] [(.ref o1)])) (fun _ k => XS.aloadN X1.here hx rfl (hb hby d8_6) rfl rfl  k) ?_
  obtain ⟨T2, X2, e2, st2⟩ := getF X1 hx hZ hown (host := "") (Or.inl (hw _ (List.mem_of_getElem? (i := 10) rfl))) Via.refl e1 F1 (g := (mkF m 7 #[.val (.ref o0), .val (.ref o1), .val (.int p2), .val (.int p3), .val (.ref aw), .unset, .unset] [(.ref o1)])) rfl rfl (hb hby d8_7)
  refine Go.step (g' := (mkF m 10 #[.val (.ref o0), .val (.ref o1), .val (.int p2), .val (.int p3), .val (.ref aw), .unset, .unset] [(.ref at_)])) st2 ?_
  refine Go.step (g' := (mkF m 12 #[.val (.ref o0), .val (.ref o1), .val (.int p2), .val (.int p3), .val (.ref aw), .val (.ref at_), .unset] [])) (fun _ k => XS.astore X2.here hx rfl (hb hby d8_10) rfl rfl (l' := #[.val (.ref o0), .val (.ref o1), .val (.int p2), .val (.int p3), .val (.ref aw), .val (.ref at_), .unset]) rfl k) ?_
  refine Go.step (g' := (mkF m 13 #[.val (.ref o0), .val (.ref o1), .val (.int p2), .val (.int p3), .val (.ref aw), .val (.ref at_), .unset] [(.int (2 : Int32))])) (fun _ k => XS.iconst X2.here hx rfl (hb hby d8_12) k) ?_
  refine Go.step (g' := (mkF m 14 #[.val (.ref o0), .val (.ref o1), .val (.int p2), .val (.int p3), .val (.ref aw), .val (.ref at_), .unset] [(.int p2), (.int (2 : Int32))])) (fun _ k => XS.iloadN X2.here hx rfl (hb hby d8_13) rfl  k) ?_
  refine Go.step (g' := (mkF m 15 #[.val (.ref o0), .val (.ref o1), .val (.int p2), .val (.int p3), .val (.ref aw), .val (.ref at_), .unset] [(.int ((2 : Int32) * p2))])) (fun _ k => XS.imul X2.here hx rfl (hb hby d8_14) rfl k) ?_
  rw [show ((2 : Int32) * p2) = (6 : Int32) from by rw [hf]; decide]
  refine Go.step (g' := (mkF m 17 #[.val (.ref o0), .val (.ref o1), .val (.int p2), .val (.int p3), .val (.ref aw), .val (.ref at_), .val (.int (6 : Int32))] [])) (fun _ k => XS.istore X2.here hx rfl (hb hby d8_15) rfl (l' := #[.val (.ref o0), .val (.ref o1), .val (.int p2), .val (.int p3), .val (.ref aw), .val (.ref at_), .val (.int (6 : Int32))]) rfl k) ?_
  skip
  refine Go.step (g' := (mkF m 19 #[.val (.ref o0), .val (.ref o1), .val (.int p2), .val (.int p3), .val (.ref aw), .val (.ref at_), .val (.int (6 : Int32))] [(.int (6 : Int32))])) (fun _ k => XS.iload X2.here hx rfl (hb hby d8_17) rfl  k) ?_
  refine Go.step (g' := (mkF m 20 #[.val (.ref o0), .val (.ref o1), .val (.int p2), .val (.int p3), .val (.ref aw), .val (.ref at_), .val (.int (6 : Int32))] [(.int (2 : Int32)), (.int (6 : Int32))])) (fun _ k => XS.iconst X2.here hx rfl (hb hby d8_19) k) ?_
  refine Go.step (g' := (mkF m 21 #[.val (.ref o0), .val (.ref o1), .val (.int p2), .val (.int p3), .val (.ref aw), .val (.ref at_), .val (.int (6 : Int32))] [(.int p3), (.int (2 : Int32)), (.int (6 : Int32))])) (fun _ k => XS.iloadN X2.here hx rfl (hb hby d8_20) rfl  k) ?_
  refine Go.step (g' := (mkF m 22 #[.val (.ref o0), .val (.ref o1), .val (.int p2), .val (.int p3), .val (.ref aw), .val (.ref at_), .val (.int (6 : Int32))] [(.int ((2 : Int32) * p3)), (.int (6 : Int32))])) (fun _ k => XS.imul X2.here hx rfl (hb hby d8_21) rfl k) ?_
  rw [show ((2 : Int32) * p3) = (6 : Int32) from by rw [hl]; decide]
  refine Go.step (g' := (mkF m 44 #[.val (.ref o0), .val (.ref o1), .val (.int p2), .val (.int p3), .val (.ref aw), .val (.ref at_), .val (.int (6 : Int32))] [])) (fun _ k => XS.icmpYes X2.here hx rfl (pc0 := 22) (pc' := 44) rfl (hb hby d8_22) rfl (flt (by decide : ¬ ((6 : Int32) < (6 : Int32)))).2.1 (by decide) (by decide) k) ?_
  skip
  exact Go.ret0 X2 hx hlk Bd.returns (hb hby d8_44) (by decide) (by decide) (by rw [e2]; exact ⟨rfl, N0, (Keep.refl h0 [aw]), A_w.cong (fun k hk => by rw [hf, hl]; match k, hk with | 0, _ => rfl | 1, _ => rfl | 2, _ => rfl | 3, _ => rfl | 4, _ => rfl | 5, _ => rfl | 6, _ => rfl | 7, _ => rfl)⟩)

set_option maxRecDepth 65536 in
set_option maxHeartbeats 40000000 in
theorem rm8w34 (l : Launch) (Z : State) (a0 : Array Value) (hw : ∀ d ∈ tables_1, d.before a0 Z = true) (ws : List Jvm.Cond) (o0 : Addr) (o1 : Addr) (p2 : Int32) (p3 : Int32) (aw : Addr) (at_ : Addr) (gw : Nat → UInt64) (gt : Nat → UInt64) (h0 : Heap) (n0 : Nat) (Z0 : n0 ≤ h0.size) (F0 : Fld Z h0 o0 "com/example/rhadamanthus/rhadamanthus/learn/Histogram" "cells" "[D" (.ref aw)) (F1 : Fld Z h0 o1 "com/example/rhadamanthus/rhadamanthus/learn/Histogram" "cells" "[D" (.ref at_)) (A_w : IA Z h0 aw .double 8 (fun k => .double (gw k))) (A_t : IA Z h0 at_ .double 8 (fun k => .double (gt k))) (n1 : o0 ≠ aw) (n2 : o1 ≠ aw) (n3 : aw ≠ at_) (g_aw : n0 ≤ aw) (hnan : ∀ k, Jvm.Free.Fl.NoNaN64 (FP.dsub (gw k) (gt k))) (hf : p2 = (3 : Int32)) (hl : p3 = (4 : Int32)) :
    MetFree l (⟨"com/example/rhadamanthus/rhadamanthus/learn/Histogram", "subtractColumns", "(Lcom/example/rhadamanthus/rhadamanthus/learn/Histogram;II)V"⟩ : MethodName) (head1 (Jvm.Cond.code (⟨"com/example/rhadamanthus/rhadamanthus/learn/Histogram", "subtractColumns", "(Lcom/example/rhadamanthus/rhadamanthus/learn/Histogram;II)V"⟩ : MethodName) prog_64_method_10_code 7 none :: ws) ({ frames := 0, cells := 0, slots := 0, locals := 0 } : Room)) (fun a U => a = #[(.ref o0), (.ref o1), (.int p2), (.int p3)] ∧ Z.Warmed39 U.vm ∧ U.heap = h0) (fun _ _ _ _ _ => True) (fun _ U o U' => ∃ v L, o = .returned v ∧ (QA Z aw (fun k => if 2 * p2.toNatClampNeg ≤ k ∧ k < 2 * p3.toNatClampNeg then FP.dsub (gw k) (gt k) else gw k) h0 n0) v U'.heap L ∧ FrameEnd U o U' L ({ frames := 0, cells := 0, slots := 0, locals := 0 } : Room).cells ({ frames := 0, cells := 0, slots := 0, locals := 0 } : Room).slots) := by
  refine MetFree.of_bodySF (plainFor_of_name pn_8) hisR ?_
  intro p e s m args below meth c s₁ Bd hml0 hP hK
  obtain ⟨rfl, hZ, hh⟩ := hP
  have hx := Bd.exec
  have hby := Bd.bytes
  have hlk : meth.locks = false := BodyLoose.notSynchronized Bd
  have hml : c.maxLocals = 7 := hml0
  have hown : s.vm.findClass "com/example/rhadamanthus/rhadamanthus/learn/Histogram" = some m.cls := findClass_of_methodNamed Bd.named
  have hnm := (name_of_methodNamed Bd.named Bd.method).1
  have X0 : Stand p l e ({ frames := 0, cells := 0, slots := 0, locals := 0 } : Room) s m #[(.ref o0), (.ref o1), (.int p2), (.int p3)] below meth c s₁ ([] : List Loc) 0 0 := Stand.of_body Bd
  have e0 : s₁.heap = h0 := by rw [← hh, Bd.state]; rfl
  show Go p e below s 0 0 (QA Z aw (fun k => if 2 * p2.toNatClampNeg ≤ k ∧ k < 2 * p3.toNatClampNeg then FP.dsub (gw k) (gt k) else gw k) h0 n0) s₁ (entryFrame m #[(.ref o0), (.ref o1), (.int p2), (.int p3)] 7)
  rw [ef_8 m o0 o1 p2 p3]
  have N0 := Fr.nil n0
  refine Go.step (g' := (mkF m 1 #[.val (.ref o0), .val (.ref o1), .val (.int p2), .val (.int p3), .unset, .unset, .unset] [(.ref o0)])) (fun _ k => XS.aloadN X0.here hx rfl (hb hby d8_0) rfl rfl  k) ?_
  obtain ⟨T1, X1, e1, st1⟩ := getF X0 hx hZ hown (host := "") (Or.inl (hw _ (List.mem_of_getElem? (i := 10) rfl))) Via.refl e0 F0 (g := (mkF m 1 #[.val (.ref o0), .val (.ref o1), .val (.int p2), .val (.int p3), .unset, .unset, .unset] [(.ref o0)])) rfl rfl (hb hby d8_1)
  refine Go.step (g' := (mkF m 4 #[.val (.ref o0), .val (.ref o1), .val (.int p2), .val (.int p3), .unset, .unset, .unset] [(.ref aw)])) st1 ?_
  refine Go.step (g' := (mkF m 6 #[.val (.ref o0), .val (.ref o1), .val (.int p2), .val (.int p3), .val (.ref aw), .unset, .unset] [])) (fun _ k => XS.astore X1.here hx rfl (hb hby d8_4) rfl rfl (l' := #[.val (.ref o0), .val (.ref o1), .val (.int p2), .val (.int p3), .val (.ref aw), .unset, .unset]) rfl k) ?_
  refine Go.step (g' := (mkF m 7 #[.val (.ref o0), .val (.ref o1), .val (.int p2), .val (.int p3), .val (.ref aw), .unset, .unset] [(.ref o1)])) (fun _ k => XS.aloadN X1.here hx rfl (hb hby d8_6) rfl rfl  k) ?_
  obtain ⟨T2, X2, e2, st2⟩ := getF X1 hx hZ hown (host := "") (Or.inl (hw _ (List.mem_of_getElem? (i := 10) rfl))) Via.refl e1 F1 (g := (mkF m 7 #[.val (.ref o0), .val (.ref o1), .val (.int p2), .val (.int p3), .val (.ref aw), .unset, .unset] [(.ref o1)])) rfl rfl (hb hby d8_7)
  refine Go.step (g' := (mkF m 10 #[.val (.ref o0), .val (.ref o1), .val (.int p2), .val (.int p3), .val (.ref aw), .unset, .unset] [(.ref at_)])) st2 ?_
  refine Go.step (g' := (mkF m 12 #[.val (.ref o0), .val (.ref o1), .val (.int p2), .val (.int p3), .val (.ref aw), .val (.ref at_), .unset] [])) (fun _ k => XS.astore X2.here hx rfl (hb hby d8_10) rfl rfl (l' := #[.val (.ref o0), .val (.ref o1), .val (.int p2), .val (.int p3), .val (.ref aw), .val (.ref at_), .unset]) rfl k) ?_
  refine Go.step (g' := (mkF m 13 #[.val (.ref o0), .val (.ref o1), .val (.int p2), .val (.int p3), .val (.ref aw), .val (.ref at_), .unset] [(.int (2 : Int32))])) (fun _ k => XS.iconst X2.here hx rfl (hb hby d8_12) k) ?_
  refine Go.step (g' := (mkF m 14 #[.val (.ref o0), .val (.ref o1), .val (.int p2), .val (.int p3), .val (.ref aw), .val (.ref at_), .unset] [(.int p2), (.int (2 : Int32))])) (fun _ k => XS.iloadN X2.here hx rfl (hb hby d8_13) rfl  k) ?_
  refine Go.step (g' := (mkF m 15 #[.val (.ref o0), .val (.ref o1), .val (.int p2), .val (.int p3), .val (.ref aw), .val (.ref at_), .unset] [(.int ((2 : Int32) * p2))])) (fun _ k => XS.imul X2.here hx rfl (hb hby d8_14) rfl k) ?_
  rw [show ((2 : Int32) * p2) = (6 : Int32) from by rw [hf]; decide]
  refine Go.step (g' := (mkF m 17 #[.val (.ref o0), .val (.ref o1), .val (.int p2), .val (.int p3), .val (.ref aw), .val (.ref at_), .val (.int (6 : Int32))] [])) (fun _ k => XS.istore X2.here hx rfl (hb hby d8_15) rfl (l' := #[.val (.ref o0), .val (.ref o1), .val (.int p2), .val (.int p3), .val (.ref aw), .val (.ref at_), .val (.int (6 : Int32))]) rfl k) ?_
  skip
  refine Go.step (g' := (mkF m 19 #[.val (.ref o0), .val (.ref o1), .val (.int p2), .val (.int p3), .val (.ref aw), .val (.ref at_), .val (.int (6 : Int32))] [(.int (6 : Int32))])) (fun _ k => XS.iload X2.here hx rfl (hb hby d8_17) rfl  k) ?_
  refine Go.step (g' := (mkF m 20 #[.val (.ref o0), .val (.ref o1), .val (.int p2), .val (.int p3), .val (.ref aw), .val (.ref at_), .val (.int (6 : Int32))] [(.int (2 : Int32)), (.int (6 : Int32))])) (fun _ k => XS.iconst X2.here hx rfl (hb hby d8_19) k) ?_
  refine Go.step (g' := (mkF m 21 #[.val (.ref o0), .val (.ref o1), .val (.int p2), .val (.int p3), .val (.ref aw), .val (.ref at_), .val (.int (6 : Int32))] [(.int p3), (.int (2 : Int32)), (.int (6 : Int32))])) (fun _ k => XS.iloadN X2.here hx rfl (hb hby d8_20) rfl  k) ?_
  refine Go.step (g' := (mkF m 22 #[.val (.ref o0), .val (.ref o1), .val (.int p2), .val (.int p3), .val (.ref aw), .val (.ref at_), .val (.int (6 : Int32))] [(.int ((2 : Int32) * p3)), (.int (6 : Int32))])) (fun _ k => XS.imul X2.here hx rfl (hb hby d8_21) rfl k) ?_
  rw [show ((2 : Int32) * p3) = (8 : Int32) from by rw [hl]; decide]
  refine Go.step (g' := (mkF m 25 #[.val (.ref o0), .val (.ref o1), .val (.int p2), .val (.int p3), .val (.ref aw), .val (.ref at_), .val (.int (6 : Int32))] [])) (fun _ k => XS.icmpNo X2.here hx rfl (hb hby d8_22) rfl (tlt (by decide : (6 : Int32) < (8 : Int32))).2.1 k) ?_
  skip
  refine Go.step (g' := (mkF m 27 #[.val (.ref o0), .val (.ref o1), .val (.int p2), .val (.int p3), .val (.ref aw), .val (.ref at_), .val (.int (6 : Int32))] [(.ref aw)])) (fun _ k => XS.aload X2.here hx rfl (hb hby d8_25) rfl rfl  k) ?_
  refine Go.step (g' := (mkF m 29 #[.val (.ref o0), .val (.ref o1), .val (.int p2), .val (.int p3), .val (.ref aw), .val (.ref at_), .val (.int (6 : Int32))] [(.int (6 : Int32)), (.ref aw)])) (fun _ k => XS.iload X2.here hx rfl (hb hby d8_27) rfl  k) ?_
  refine Go.step (g' := (mkF m 30 #[.val (.ref o0), .val (.ref o1), .val (.int p2), .val (.int p3), .val (.ref aw), .val (.ref at_), .val (.int (6 : Int32))] [(.int (6 : Int32)), (.ref aw), (.int (6 : Int32)), (.ref aw)])) (fun _ k => Jvm.Free.XT.dup2 X2.here hx rfl (hb hby d8_29) rfl rfl rfl k) ?_
  refine Go.step (g' := (mkF m 31 #[.val (.ref o0), .val (.ref o1), .val (.int p2), .val (.int p3), .val (.ref aw), .val (.ref at_), .val (.int (6 : Int32))] [(.double (gw (6 : Int32).toNatClampNeg)), (.int (6 : Int32)), (.ref aw)])) (fun _ k => getAD X2 hx hZ e2 A_w (j := (6 : Int32)) (by decide) (gf := (mkF m 30 #[.val (.ref o0), .val (.ref o1), .val (.int p2), .val (.int p3), .val (.ref aw), .val (.ref at_), .val (.int (6 : Int32))] [(.int (6 : Int32)), (.ref aw), (.int (6 : Int32)), (.ref aw)])) rfl rfl (hb hby d8_30) k) ?_
  rw [show (gw (6 : Int32).toNatClampNeg) = (gw 6) from rfl]
  refine Go.step (g' := (mkF m 33 #[.val (.ref o0), .val (.ref o1), .val (.int p2), .val (.int p3), .val (.ref aw), .val (.ref at_), .val (.int (6 : Int32))] [(.ref at_), (.double (gw 6)), (.int (6 : Int32)), (.ref aw)])) (fun _ k => XS.aload X2.here hx rfl (hb hby d8_31) rfl rfl  k) ?_
  refine Go.step (g' := (mkF m 35 #[.val (.ref o0), .val (.ref o1), .val (.int p2), .val (.int p3), .val (.ref aw), .val (.ref at_), .val (.int (6 : Int32))] [(.int (6 : Int32)), (.ref at_), (.double (gw 6)), (.int (6 : Int32)), (.ref aw)])) (fun _ k => XS.iload X2.here hx rfl (hb hby d8_33) rfl  k) ?_
  refine Go.step (g' := (mkF m 36 #[.val (.ref o0), .val (.ref o1), .val (.int p2), .val (.int p3), .val (.ref aw), .val (.ref at_), .val (.int (6 : Int32))] [(.double (gt (6 : Int32).toNatClampNeg)), (.double (gw 6)), (.int (6 : Int32)), (.ref aw)])) (fun _ k => getAD X2 hx hZ e2 A_t (j := (6 : Int32)) (by decide) (gf := (mkF m 35 #[.val (.ref o0), .val (.ref o1), .val (.int p2), .val (.int p3), .val (.ref aw), .val (.ref at_), .val (.int (6 : Int32))] [(.int (6 : Int32)), (.ref at_), (.double (gw 6)), (.int (6 : Int32)), (.ref aw)])) rfl rfl (hb hby d8_35) k) ?_
  rw [show (gt (6 : Int32).toNatClampNeg) = (gt 6) from rfl]
  refine Go.step (g' := (mkF m 37 #[.val (.ref o0), .val (.ref o1), .val (.int p2), .val (.int p3), .val (.ref aw), .val (.ref at_), .val (.int (6 : Int32))] [(.double (FP.dsub (gw 6) (gt 6))), (.int (6 : Int32)), (.ref aw)])) (fun _ k => XS.dsubS X2.here hx rfl (hb hby d8_36) rfl (hnan 6) rfl k) ?_
  obtain ⟨T3, h3, lc3, X3, e3, W3, N3, V3, st3⟩ := putAD X2 hx hZ e2 A_w (j := (6 : Int32)) (by decide) N0 g_aw (gf := (mkF m 37 #[.val (.ref o0), .val (.ref o1), .val (.int p2), .val (.int p3), .val (.ref aw), .val (.ref at_), .val (.int (6 : Int32))] [(.double (FP.dsub (gw 6) (gt 6))), (.int (6 : Int32)), (.ref aw)])) rfl rfl (hb hby d8_37)
  refine Go.step (g' := (mkF m 38 #[.val (.ref o0), .val (.ref o1), .val (.int p2), .val (.int p3), .val (.ref aw), .val (.ref at_), .val (.int (6 : Int32))] [])) st3 ?_
  have Q4 := ((Keep.refl h0 [aw]).wr W3 (Or.inl (List.mem_of_getElem? (i := 0) rfl)))
  refine Go.step (g' := (mkF m 41 #[.val (.ref o0), .val (.ref o1), .val (.int p2), .val (.int p3), .val (.ref aw), .val (.ref at_), .val (.int ((6 : Int32) + (1 : Int32)))] [])) (fun _ k => XS.iinc X3.here hx rfl (hb hby d8_38) rfl (l' := #[.val (.ref o0), .val (.ref o1), .val (.int p2), .val (.int p3), .val (.ref aw), .val (.ref at_), .val (.int ((6 : Int32) + (1 : Int32)))]) rfl k) ?_
  rw [show ((6 : Int32) + (1 : Int32)) = (7 : Int32) from by decide]
  refine Go.step (g' := (mkF m 17 #[.val (.ref o0), .val (.ref o1), .val (.int p2), .val (.int p3), .val (.ref aw), .val (.ref at_), .val (.int (7 : Int32))] [])) (fun _ k => XS.goto X3.here hx rfl (pc0 := 41) (pc' := 17) rfl (hb hby d8_41) (by decide) (by decide) k) ?_
  skip
  refine Go.step (g' := (mkF m 19 #[.val (.ref o0), .val (.ref o1), .val (.int p2), .val (.int p3), .val (.ref aw), .val (.ref at_), .val (.int (7 : Int32))] [(.int (7 : Int32))])) (fun _ k => XS.iload X3.here hx rfl (hb hby d8_17) rfl  k) ?_
  refine Go.step (g' := (mkF m 20 #[.val (.ref o0), .val (.ref o1), .val (.int p2), .val (.int p3), .val (.ref aw), .val (.ref at_), .val (.int (7 : Int32))] [(.int (2 : Int32)), (.int (7 : Int32))])) (fun _ k => XS.iconst X3.here hx rfl (hb hby d8_19) k) ?_
  refine Go.step (g' := (mkF m 21 #[.val (.ref o0), .val (.ref o1), .val (.int p2), .val (.int p3), .val (.ref aw), .val (.ref at_), .val (.int (7 : Int32))] [(.int p3), (.int (2 : Int32)), (.int (7 : Int32))])) (fun _ k => XS.iloadN X3.here hx rfl (hb hby d8_20) rfl  k) ?_
  refine Go.step (g' := (mkF m 22 #[.val (.ref o0), .val (.ref o1), .val (.int p2), .val (.int p3), .val (.ref aw), .val (.ref at_), .val (.int (7 : Int32))] [(.int ((2 : Int32) * p3)), (.int (7 : Int32))])) (fun _ k => XS.imul X3.here hx rfl (hb hby d8_21) rfl k) ?_
  rw [show ((2 : Int32) * p3) = (8 : Int32) from by rw [hl]; decide]
  refine Go.step (g' := (mkF m 25 #[.val (.ref o0), .val (.ref o1), .val (.int p2), .val (.int p3), .val (.ref aw), .val (.ref at_), .val (.int (7 : Int32))] [])) (fun _ k => XS.icmpNo X3.here hx rfl (hb hby d8_22) rfl (tlt (by decide : (7 : Int32) < (8 : Int32))).2.1 k) ?_
  skip
  refine Go.step (g' := (mkF m 27 #[.val (.ref o0), .val (.ref o1), .val (.int p2), .val (.int p3), .val (.ref aw), .val (.ref at_), .val (.int (7 : Int32))] [(.ref aw)])) (fun _ k => XS.aload X3.here hx rfl (hb hby d8_25) rfl rfl  k) ?_
  refine Go.step (g' := (mkF m 29 #[.val (.ref o0), .val (.ref o1), .val (.int p2), .val (.int p3), .val (.ref aw), .val (.ref at_), .val (.int (7 : Int32))] [(.int (7 : Int32)), (.ref aw)])) (fun _ k => XS.iload X3.here hx rfl (hb hby d8_27) rfl  k) ?_
  refine Go.step (g' := (mkF m 30 #[.val (.ref o0), .val (.ref o1), .val (.int p2), .val (.int p3), .val (.ref aw), .val (.ref at_), .val (.int (7 : Int32))] [(.int (7 : Int32)), (.ref aw), (.int (7 : Int32)), (.ref aw)])) (fun _ k => Jvm.Free.XT.dup2 X3.here hx rfl (hb hby d8_29) rfl rfl rfl k) ?_
  refine Go.step (g' := (mkF m 31 #[.val (.ref o0), .val (.ref o1), .val (.int p2), .val (.int p3), .val (.ref aw), .val (.ref at_), .val (.int (7 : Int32))] [(.double ((upd gw (6 : Int32).toNatClampNeg (FP.dsub (gw 6) (gt 6))) (7 : Int32).toNatClampNeg)), (.int (7 : Int32)), (.ref aw)])) (fun _ k => getAD X3 hx hZ e3 V3 (j := (7 : Int32)) (by decide) (gf := (mkF m 30 #[.val (.ref o0), .val (.ref o1), .val (.int p2), .val (.int p3), .val (.ref aw), .val (.ref at_), .val (.int (7 : Int32))] [(.int (7 : Int32)), (.ref aw), (.int (7 : Int32)), (.ref aw)])) rfl rfl (hb hby d8_30) k) ?_
  rw [show ((upd gw (6 : Int32).toNatClampNeg (FP.dsub (gw 6) (gt 6))) (7 : Int32).toNatClampNeg) = (gw 7) from rfl]
  refine Go.step (g' := (mkF m 33 #[.val (.ref o0), .val (.ref o1), .val (.int p2), .val (.int p3), .val (.ref aw), .val (.ref at_), .val (.int (7 : Int32))] [(.ref at_), (.double (gw 7)), (.int (7 : Int32)), (.ref aw)])) (fun _ k => XS.aload X3.here hx rfl (hb hby d8_31) rfl rfl  k) ?_
  refine Go.step (g' := (mkF m 35 #[.val (.ref o0), .val (.ref o1), .val (.int p2), .val (.int p3), .val (.ref aw), .val (.ref at_), .val (.int (7 : Int32))] [(.int (7 : Int32)), (.ref at_), (.double (gw 7)), (.int (7 : Int32)), (.ref aw)])) (fun _ k => XS.iload X3.here hx rfl (hb hby d8_33) rfl  k) ?_
  refine Go.step (g' := (mkF m 36 #[.val (.ref o0), .val (.ref o1), .val (.int p2), .val (.int p3), .val (.ref aw), .val (.ref at_), .val (.int (7 : Int32))] [(.double (gt (7 : Int32).toNatClampNeg)), (.double (gw 7)), (.int (7 : Int32)), (.ref aw)])) (fun _ k => getAD X3 hx hZ e3 (A_t.other W3 (Ne.symm n3)) (j := (7 : Int32)) (by decide) (gf := (mkF m 35 #[.val (.ref o0), .val (.ref o1), .val (.int p2), .val (.int p3), .val (.ref aw), .val (.ref at_), .val (.int (7 : Int32))] [(.int (7 : Int32)), (.ref at_), (.double (gw 7)), (.int (7 : Int32)), (.ref aw)])) rfl rfl (hb hby d8_35) k) ?_
  rw [show (gt (7 : Int32).toNatClampNeg) = (gt 7) from rfl]
  refine Go.step (g' := (mkF m 37 #[.val (.ref o0), .val (.ref o1), .val (.int p2), .val (.int p3), .val (.ref aw), .val (.ref at_), .val (.int (7 : Int32))] [(.double (FP.dsub (gw 7) (gt 7))), (.int (7 : Int32)), (.ref aw)])) (fun _ k => XS.dsubS X3.here hx rfl (hb hby d8_36) rfl (hnan 7) rfl k) ?_
  obtain ⟨T5, h5, lc5, X5, e5, W5, N5, V5, st5⟩ := putAD X3 hx hZ e3 V3 (j := (7 : Int32)) (by decide) N3 g_aw (gf := (mkF m 37 #[.val (.ref o0), .val (.ref o1), .val (.int p2), .val (.int p3), .val (.ref aw), .val (.ref at_), .val (.int (7 : Int32))] [(.double (FP.dsub (gw 7) (gt 7))), (.int (7 : Int32)), (.ref aw)])) rfl rfl (hb hby d8_37)
  refine Go.step (g' := (mkF m 38 #[.val (.ref o0), .val (.ref o1), .val (.int p2), .val (.int p3), .val (.ref aw), .val (.ref at_), .val (.int (7 : Int32))] [])) st5 ?_
  have Q6 := (Nat.le_trans (Nat.le_trans Z0 (Keep.of_wr W3).1) (Keep.of_wr W5).1)
  refine Go.step (g' := (mkF m 41 #[.val (.ref o0), .val (.ref o1), .val (.int p2), .val (.int p3), .val (.ref aw), .val (.ref at_), .val (.int ((7 : Int32) + (1 : Int32)))] [])) (fun _ k => XS.iinc X5.here hx rfl (hb hby d8_38) rfl (l' := #[.val (.ref o0), .val (.ref o1), .val (.int p2), .val (.int p3), .val (.ref aw), .val (.ref at_), .val (.int ((7 : Int32) + (1 : Int32)))]) rfl k) ?_
  rw [show ((7 : Int32) + (1 : Int32)) = (8 : Int32) from by decide]
  refine Go.step (g' := (mkF m 17 #[.val (.ref o0), .val (.ref o1), .val (.int p2), .val (.int p3), .val (.ref aw), .val (.ref at_), .val (.int (8 : Int32))] [])) (fun _ k => XS.goto X5.here hx rfl (pc0 := 41) (pc' := 17) rfl (hb hby d8_41) (by decide) (by decide) k) ?_
  skip
  refine Go.step (g' := (mkF m 19 #[.val (.ref o0), .val (.ref o1), .val (.int p2), .val (.int p3), .val (.ref aw), .val (.ref at_), .val (.int (8 : Int32))] [(.int (8 : Int32))])) (fun _ k => XS.iload X5.here hx rfl (hb hby d8_17) rfl  k) ?_
  refine Go.step (g' := (mkF m 20 #[.val (.ref o0), .val (.ref o1), .val (.int p2), .val (.int p3), .val (.ref aw), .val (.ref at_), .val (.int (8 : Int32))] [(.int (2 : Int32)), (.int (8 : Int32))])) (fun _ k => XS.iconst X5.here hx rfl (hb hby d8_19) k) ?_
  refine Go.step (g' := (mkF m 21 #[.val (.ref o0), .val (.ref o1), .val (.int p2), .val (.int p3), .val (.ref aw), .val (.ref at_), .val (.int (8 : Int32))] [(.int p3), (.int (2 : Int32)), (.int (8 : Int32))])) (fun _ k => XS.iloadN X5.here hx rfl (hb hby d8_20) rfl  k) ?_
  refine Go.step (g' := (mkF m 22 #[.val (.ref o0), .val (.ref o1), .val (.int p2), .val (.int p3), .val (.ref aw), .val (.ref at_), .val (.int (8 : Int32))] [(.int ((2 : Int32) * p3)), (.int (8 : Int32))])) (fun _ k => XS.imul X5.here hx rfl (hb hby d8_21) rfl k) ?_
  rw [show ((2 : Int32) * p3) = (8 : Int32) from by rw [hl]; decide]
  refine Go.step (g' := (mkF m 44 #[.val (.ref o0), .val (.ref o1), .val (.int p2), .val (.int p3), .val (.ref aw), .val (.ref at_), .val (.int (8 : Int32))] [])) (fun _ k => XS.icmpYes X5.here hx rfl (pc0 := 22) (pc' := 44) rfl (hb hby d8_22) rfl (flt (by decide : ¬ ((8 : Int32) < (8 : Int32)))).2.1 (by decide) (by decide) k) ?_
  skip
  exact Go.ret0 X5 hx hlk Bd.returns (hb hby d8_44) (by decide) (by decide) (by rw [e5]; exact ⟨rfl, N5, (Q4.wr W5 (Or.inl (List.mem_of_getElem? (i := 0) rfl))), V5.cong (fun k hk => by rw [hf, hl]; match k, hk with | 0, _ => rfl | 1, _ => rfl | 2, _ => rfl | 3, _ => rfl | 4, _ => rfl | 5, _ => rfl | 6, _ => rfl | 7, _ => rfl)⟩)

set_option maxRecDepth 65536 in
set_option maxHeartbeats 40000000 in
theorem rm8w44 (l : Launch) (Z : State) (a0 : Array Value) (hw : ∀ d ∈ tables_1, d.before a0 Z = true) (ws : List Jvm.Cond) (o0 : Addr) (o1 : Addr) (p2 : Int32) (p3 : Int32) (aw : Addr) (at_ : Addr) (gw : Nat → UInt64) (gt : Nat → UInt64) (h0 : Heap) (n0 : Nat) (Z0 : n0 ≤ h0.size) (F0 : Fld Z h0 o0 "com/example/rhadamanthus/rhadamanthus/learn/Histogram" "cells" "[D" (.ref aw)) (F1 : Fld Z h0 o1 "com/example/rhadamanthus/rhadamanthus/learn/Histogram" "cells" "[D" (.ref at_)) (A_w : IA Z h0 aw .double 8 (fun k => .double (gw k))) (A_t : IA Z h0 at_ .double 8 (fun k => .double (gt k))) (n1 : o0 ≠ aw) (n2 : o1 ≠ aw) (n3 : aw ≠ at_) (g_aw : n0 ≤ aw) (hnan : ∀ k, Jvm.Free.Fl.NoNaN64 (FP.dsub (gw k) (gt k))) (hf : p2 = (4 : Int32)) (hl : p3 = (4 : Int32)) :
    MetFree l (⟨"com/example/rhadamanthus/rhadamanthus/learn/Histogram", "subtractColumns", "(Lcom/example/rhadamanthus/rhadamanthus/learn/Histogram;II)V"⟩ : MethodName) (head1 (Jvm.Cond.code (⟨"com/example/rhadamanthus/rhadamanthus/learn/Histogram", "subtractColumns", "(Lcom/example/rhadamanthus/rhadamanthus/learn/Histogram;II)V"⟩ : MethodName) prog_64_method_10_code 7 none :: ws) ({ frames := 0, cells := 0, slots := 0, locals := 0 } : Room)) (fun a U => a = #[(.ref o0), (.ref o1), (.int p2), (.int p3)] ∧ Z.Warmed39 U.vm ∧ U.heap = h0) (fun _ _ _ _ _ => True) (fun _ U o U' => ∃ v L, o = .returned v ∧ (QA Z aw (fun k => if 2 * p2.toNatClampNeg ≤ k ∧ k < 2 * p3.toNatClampNeg then FP.dsub (gw k) (gt k) else gw k) h0 n0) v U'.heap L ∧ FrameEnd U o U' L ({ frames := 0, cells := 0, slots := 0, locals := 0 } : Room).cells ({ frames := 0, cells := 0, slots := 0, locals := 0 } : Room).slots) := by
  refine MetFree.of_bodySF (plainFor_of_name pn_8) hisR ?_
  intro p e s m args below meth c s₁ Bd hml0 hP hK
  obtain ⟨rfl, hZ, hh⟩ := hP
  have hx := Bd.exec
  have hby := Bd.bytes
  have hlk : meth.locks = false := BodyLoose.notSynchronized Bd
  have hml : c.maxLocals = 7 := hml0
  have hown : s.vm.findClass "com/example/rhadamanthus/rhadamanthus/learn/Histogram" = some m.cls := findClass_of_methodNamed Bd.named
  have hnm := (name_of_methodNamed Bd.named Bd.method).1
  have X0 : Stand p l e ({ frames := 0, cells := 0, slots := 0, locals := 0 } : Room) s m #[(.ref o0), (.ref o1), (.int p2), (.int p3)] below meth c s₁ ([] : List Loc) 0 0 := Stand.of_body Bd
  have e0 : s₁.heap = h0 := by rw [← hh, Bd.state]; rfl
  show Go p e below s 0 0 (QA Z aw (fun k => if 2 * p2.toNatClampNeg ≤ k ∧ k < 2 * p3.toNatClampNeg then FP.dsub (gw k) (gt k) else gw k) h0 n0) s₁ (entryFrame m #[(.ref o0), (.ref o1), (.int p2), (.int p3)] 7)
  rw [ef_8 m o0 o1 p2 p3]
  have N0 := Fr.nil n0
  refine Go.step (g' := (mkF m 1 #[.val (.ref o0), .val (.ref o1), .val (.int p2), .val (.int p3), .unset, .unset, .unset] [(.ref o0)])) (fun _ k => XS.aloadN X0.here hx rfl (hb hby d8_0) rfl rfl  k) ?_
  obtain ⟨T1, X1, e1, st1⟩ := getF X0 hx hZ hown (host := "") (Or.inl (hw _ (List.mem_of_getElem? (i := 10) rfl))) Via.refl e0 F0 (g := (mkF m 1 #[.val (.ref o0), .val (.ref o1), .val (.int p2), .val (.int p3), .unset, .unset, .unset] [(.ref o0)])) rfl rfl (hb hby d8_1)
  refine Go.step (g' := (mkF m 4 #[.val (.ref o0), .val (.ref o1), .val (.int p2), .val (.int p3), .unset, .unset, .unset] [(.ref aw)])) st1 ?_
  refine Go.step (g' := (mkF m 6 #[.val (.ref o0), .val (.ref o1), .val (.int p2), .val (.int p3), .val (.ref aw), .unset, .unset] [])) (fun _ k => XS.astore X1.here hx rfl (hb hby d8_4) rfl rfl (l' := #[.val (.ref o0), .val (.ref o1), .val (.int p2), .val (.int p3), .val (.ref aw), .unset, .unset]) rfl k) ?_
  refine Go.step (g' := (mkF m 7 #[.val (.ref o0), .val (.ref o1), .val (.int p2), .val (.int p3), .val (.ref aw), .unset, .unset] [(.ref o1)])) (fun _ k => XS.aloadN X1.here hx rfl (hb hby d8_6) rfl rfl  k) ?_
  obtain ⟨T2, X2, e2, st2⟩ := getF X1 hx hZ hown (host := "") (Or.inl (hw _ (List.mem_of_getElem? (i := 10) rfl))) Via.refl e1 F1 (g := (mkF m 7 #[.val (.ref o0), .val (.ref o1), .val (.int p2), .val (.int p3), .val (.ref aw), .unset, .unset] [(.ref o1)])) rfl rfl (hb hby d8_7)
  refine Go.step (g' := (mkF m 10 #[.val (.ref o0), .val (.ref o1), .val (.int p2), .val (.int p3), .val (.ref aw), .unset, .unset] [(.ref at_)])) st2 ?_
  refine Go.step (g' := (mkF m 12 #[.val (.ref o0), .val (.ref o1), .val (.int p2), .val (.int p3), .val (.ref aw), .val (.ref at_), .unset] [])) (fun _ k => XS.astore X2.here hx rfl (hb hby d8_10) rfl rfl (l' := #[.val (.ref o0), .val (.ref o1), .val (.int p2), .val (.int p3), .val (.ref aw), .val (.ref at_), .unset]) rfl k) ?_
  refine Go.step (g' := (mkF m 13 #[.val (.ref o0), .val (.ref o1), .val (.int p2), .val (.int p3), .val (.ref aw), .val (.ref at_), .unset] [(.int (2 : Int32))])) (fun _ k => XS.iconst X2.here hx rfl (hb hby d8_12) k) ?_
  refine Go.step (g' := (mkF m 14 #[.val (.ref o0), .val (.ref o1), .val (.int p2), .val (.int p3), .val (.ref aw), .val (.ref at_), .unset] [(.int p2), (.int (2 : Int32))])) (fun _ k => XS.iloadN X2.here hx rfl (hb hby d8_13) rfl  k) ?_
  refine Go.step (g' := (mkF m 15 #[.val (.ref o0), .val (.ref o1), .val (.int p2), .val (.int p3), .val (.ref aw), .val (.ref at_), .unset] [(.int ((2 : Int32) * p2))])) (fun _ k => XS.imul X2.here hx rfl (hb hby d8_14) rfl k) ?_
  rw [show ((2 : Int32) * p2) = (8 : Int32) from by rw [hf]; decide]
  refine Go.step (g' := (mkF m 17 #[.val (.ref o0), .val (.ref o1), .val (.int p2), .val (.int p3), .val (.ref aw), .val (.ref at_), .val (.int (8 : Int32))] [])) (fun _ k => XS.istore X2.here hx rfl (hb hby d8_15) rfl (l' := #[.val (.ref o0), .val (.ref o1), .val (.int p2), .val (.int p3), .val (.ref aw), .val (.ref at_), .val (.int (8 : Int32))]) rfl k) ?_
  skip
  refine Go.step (g' := (mkF m 19 #[.val (.ref o0), .val (.ref o1), .val (.int p2), .val (.int p3), .val (.ref aw), .val (.ref at_), .val (.int (8 : Int32))] [(.int (8 : Int32))])) (fun _ k => XS.iload X2.here hx rfl (hb hby d8_17) rfl  k) ?_
  refine Go.step (g' := (mkF m 20 #[.val (.ref o0), .val (.ref o1), .val (.int p2), .val (.int p3), .val (.ref aw), .val (.ref at_), .val (.int (8 : Int32))] [(.int (2 : Int32)), (.int (8 : Int32))])) (fun _ k => XS.iconst X2.here hx rfl (hb hby d8_19) k) ?_
  refine Go.step (g' := (mkF m 21 #[.val (.ref o0), .val (.ref o1), .val (.int p2), .val (.int p3), .val (.ref aw), .val (.ref at_), .val (.int (8 : Int32))] [(.int p3), (.int (2 : Int32)), (.int (8 : Int32))])) (fun _ k => XS.iloadN X2.here hx rfl (hb hby d8_20) rfl  k) ?_
  refine Go.step (g' := (mkF m 22 #[.val (.ref o0), .val (.ref o1), .val (.int p2), .val (.int p3), .val (.ref aw), .val (.ref at_), .val (.int (8 : Int32))] [(.int ((2 : Int32) * p3)), (.int (8 : Int32))])) (fun _ k => XS.imul X2.here hx rfl (hb hby d8_21) rfl k) ?_
  rw [show ((2 : Int32) * p3) = (8 : Int32) from by rw [hl]; decide]
  refine Go.step (g' := (mkF m 44 #[.val (.ref o0), .val (.ref o1), .val (.int p2), .val (.int p3), .val (.ref aw), .val (.ref at_), .val (.int (8 : Int32))] [])) (fun _ k => XS.icmpYes X2.here hx rfl (pc0 := 22) (pc' := 44) rfl (hb hby d8_22) rfl (flt (by decide : ¬ ((8 : Int32) < (8 : Int32)))).2.1 (by decide) (by decide) k) ?_
  skip
  exact Go.ret0 X2 hx hlk Bd.returns (hb hby d8_44) (by decide) (by decide) (by rw [e2]; exact ⟨rfl, N0, (Keep.refl h0 [aw]), A_w.cong (fun k hk => by rw [hf, hl]; match k, hk with | 0, _ => rfl | 1, _ => rfl | 2, _ => rfl | 3, _ => rfl | 4, _ => rfl | 5, _ => rfl | 6, _ => rfl | 7, _ => rfl)⟩)
set_option maxRecDepth 65536 in
theorem rm8 (l : Launch) (Z : State) (a0 : Array Value) (hw : ∀ d ∈ tables_1, d.before a0 Z = true) (ws : List Jvm.Cond) (o0 : Addr) (o1 : Addr) (p2 : Int32) (p3 : Int32) (aw : Addr) (at_ : Addr) (gw : Nat → UInt64) (gt : Nat → UInt64) (h0 : Heap) (n0 : Nat) (Z0 : n0 ≤ h0.size) (F0 : Fld Z h0 o0 "com/example/rhadamanthus/rhadamanthus/learn/Histogram" "cells" "[D" (.ref aw)) (F1 : Fld Z h0 o1 "com/example/rhadamanthus/rhadamanthus/learn/Histogram" "cells" "[D" (.ref at_)) (A_w : IA Z h0 aw .double 8 (fun k => .double (gw k))) (A_t : IA Z h0 at_ .double 8 (fun k => .double (gt k))) (n1 : o0 ≠ aw) (n2 : o1 ≠ aw) (n3 : aw ≠ at_) (g_aw : n0 ≤ aw) (hnan : ∀ k, Jvm.Free.Fl.NoNaN64 (FP.dsub (gw k) (gt k))) (hfl : ∃ i j : Fin 5, i ≤ j ∧ p2 = Int32.ofNat i.val ∧ p3 = Int32.ofNat j.val) :
    MetFree l (⟨"com/example/rhadamanthus/rhadamanthus/learn/Histogram", "subtractColumns", "(Lcom/example/rhadamanthus/rhadamanthus/learn/Histogram;II)V"⟩ : MethodName) (head1 (Jvm.Cond.code (⟨"com/example/rhadamanthus/rhadamanthus/learn/Histogram", "subtractColumns", "(Lcom/example/rhadamanthus/rhadamanthus/learn/Histogram;II)V"⟩ : MethodName) prog_64_method_10_code 7 none :: ws) ({ frames := 0, cells := 0, slots := 0, locals := 0 } : Room)) (fun a U => a = #[(.ref o0), (.ref o1), (.int p2), (.int p3)] ∧ Z.Warmed39 U.vm ∧ U.heap = h0) (fun _ _ _ _ _ => True) (fun _ U o U' => ∃ v L, o = .returned v ∧ (QA Z aw (fun k => if 2 * p2.toNatClampNeg ≤ k ∧ k < 2 * p3.toNatClampNeg then FP.dsub (gw k) (gt k) else gw k) h0 n0) v U'.heap L ∧ FrameEnd U o U' L ({ frames := 0, cells := 0, slots := 0, locals := 0 } : Room).cells ({ frames := 0, cells := 0, slots := 0, locals := 0 } : Room).slots) := by
  obtain ⟨i, j, hij, hf, hl⟩ := hfl
  match i, j, hij, hf, hl with
  | ⟨0, _⟩, ⟨0, _⟩, hij, hf, hl => exact rm8w00 l Z a0 hw ws o0 o1 p2 p3 aw at_ gw gt h0 n0 Z0 F0 F1 A_w A_t n1 n2 n3 g_aw hnan hf hl
  | ⟨0, _⟩, ⟨1, _⟩, hij, hf, hl => exact rm8w01 l Z a0 hw ws o0 o1 p2 p3 aw at_ gw gt h0 n0 Z0 F0 F1 A_w A_t n1 n2 n3 g_aw hnan hf hl
  | ⟨0, _⟩, ⟨2, _⟩, hij, hf, hl => exact rm8w02 l Z a0 hw ws o0 o1 p2 p3 aw at_ gw gt h0 n0 Z0 F0 F1 A_w A_t n1 n2 n3 g_aw hnan hf hl
  | ⟨0, _⟩, ⟨3, _⟩, hij, hf, hl => exact rm8w03 l Z a0 hw ws o0 o1 p2 p3 aw at_ gw gt h0 n0 Z0 F0 F1 A_w A_t n1 n2 n3 g_aw hnan hf hl
  | ⟨0, _⟩, ⟨4, _⟩, hij, hf, hl => exact rm8w04 l Z a0 hw ws o0 o1 p2 p3 aw at_ gw gt h0 n0 Z0 F0 F1 A_w A_t n1 n2 n3 g_aw hnan hf hl
  | ⟨1, _⟩, ⟨0, _⟩, hij, hf, hl => exact absurd (show (1 : Nat) ≤ 0 from hij) (by decide)
  | ⟨1, _⟩, ⟨1, _⟩, hij, hf, hl => exact rm8w11 l Z a0 hw ws o0 o1 p2 p3 aw at_ gw gt h0 n0 Z0 F0 F1 A_w A_t n1 n2 n3 g_aw hnan hf hl
  | ⟨1, _⟩, ⟨2, _⟩, hij, hf, hl => exact rm8w12 l Z a0 hw ws o0 o1 p2 p3 aw at_ gw gt h0 n0 Z0 F0 F1 A_w A_t n1 n2 n3 g_aw hnan hf hl
  | ⟨1, _⟩, ⟨3, _⟩, hij, hf, hl => exact rm8w13 l Z a0 hw ws o0 o1 p2 p3 aw at_ gw gt h0 n0 Z0 F0 F1 A_w A_t n1 n2 n3 g_aw hnan hf hl
  | ⟨1, _⟩, ⟨4, _⟩, hij, hf, hl => exact rm8w14 l Z a0 hw ws o0 o1 p2 p3 aw at_ gw gt h0 n0 Z0 F0 F1 A_w A_t n1 n2 n3 g_aw hnan hf hl
  | ⟨2, _⟩, ⟨0, _⟩, hij, hf, hl => exact absurd (show (2 : Nat) ≤ 0 from hij) (by decide)
  | ⟨2, _⟩, ⟨1, _⟩, hij, hf, hl => exact absurd (show (2 : Nat) ≤ 1 from hij) (by decide)
  | ⟨2, _⟩, ⟨2, _⟩, hij, hf, hl => exact rm8w22 l Z a0 hw ws o0 o1 p2 p3 aw at_ gw gt h0 n0 Z0 F0 F1 A_w A_t n1 n2 n3 g_aw hnan hf hl
  | ⟨2, _⟩, ⟨3, _⟩, hij, hf, hl => exact rm8w23 l Z a0 hw ws o0 o1 p2 p3 aw at_ gw gt h0 n0 Z0 F0 F1 A_w A_t n1 n2 n3 g_aw hnan hf hl
  | ⟨2, _⟩, ⟨4, _⟩, hij, hf, hl => exact rm8w24 l Z a0 hw ws o0 o1 p2 p3 aw at_ gw gt h0 n0 Z0 F0 F1 A_w A_t n1 n2 n3 g_aw hnan hf hl
  | ⟨3, _⟩, ⟨0, _⟩, hij, hf, hl => exact absurd (show (3 : Nat) ≤ 0 from hij) (by decide)
  | ⟨3, _⟩, ⟨1, _⟩, hij, hf, hl => exact absurd (show (3 : Nat) ≤ 1 from hij) (by decide)
  | ⟨3, _⟩, ⟨2, _⟩, hij, hf, hl => exact absurd (show (3 : Nat) ≤ 2 from hij) (by decide)
  | ⟨3, _⟩, ⟨3, _⟩, hij, hf, hl => exact rm8w33 l Z a0 hw ws o0 o1 p2 p3 aw at_ gw gt h0 n0 Z0 F0 F1 A_w A_t n1 n2 n3 g_aw hnan hf hl
  | ⟨3, _⟩, ⟨4, _⟩, hij, hf, hl => exact rm8w34 l Z a0 hw ws o0 o1 p2 p3 aw at_ gw gt h0 n0 Z0 F0 F1 A_w A_t n1 n2 n3 g_aw hnan hf hl
  | ⟨4, _⟩, ⟨0, _⟩, hij, hf, hl => exact absurd (show (4 : Nat) ≤ 0 from hij) (by decide)
  | ⟨4, _⟩, ⟨1, _⟩, hij, hf, hl => exact absurd (show (4 : Nat) ≤ 1 from hij) (by decide)
  | ⟨4, _⟩, ⟨2, _⟩, hij, hf, hl => exact absurd (show (4 : Nat) ≤ 2 from hij) (by decide)
  | ⟨4, _⟩, ⟨3, _⟩, hij, hf, hl => exact absurd (show (4 : Nat) ≤ 3 from hij) (by decide)
  | ⟨4, _⟩, ⟨4, _⟩, hij, hf, hl => exact rm8w44 l Z a0 hw ws o0 o1 p2 p3 aw at_ gw gt h0 n0 Z0 F0 F1 A_w A_t n1 n2 n3 g_aw hnan hf hl
theorem d9_0 : decode method_5_code 0 = .ok (.iload 6, 2) := by decide +kernel
theorem d9_2 : decode method_5_code 2 = .ok (.iconst 2, 1) := by decide +kernel
theorem d9_3 : decode method_5_code 3 = .ok (.idiv, 1) := by decide +kernel
theorem d9_4 : decode method_5_code 4 = .ok (.istore 9, 2) := by decide +kernel
theorem d9_6 : decode method_5_code 6 = .ok (.iload 7, 2) := by decide +kernel
theorem d9_8 : decode method_5_code 8 = .ok (.iload 9, 2) := by decide +kernel
theorem d9_10 : decode method_5_code 10 = .ok (.if_icmp .gt 29, 3) := by decide +kernel
theorem d9_13 : decode method_5_code 13 = .ok (.iload 9, 2) := by decide +kernel
theorem d9_15 : decode method_5_code 15 = .ok (.iload 8, 2) := by decide +kernel
theorem d9_17 : decode method_5_code 17 = .ok (.if_icmp .ge 22, 3) := by decide +kernel
theorem d9_20 : decode method_5_code 20 = .ok (.lload_n 2, 1) := by decide +kernel
theorem d9_21 : decode method_5_code 21 = .ok (.iload 6, 2) := by decide +kernel
theorem d9_23 : decode method_5_code 23 = .ok (.invokestatic 40, 3) := by decide +kernel
theorem d9_26 : decode method_5_code 26 = .ok (.lload 4, 2) := by decide +kernel
theorem d9_28 : decode method_5_code 28 = .ok (.iload 6, 2) := by decide +kernel
theorem d9_30 : decode method_5_code 30 = .ok (.invokestatic 40, 3) := by decide +kernel
theorem d9_33 : decode method_5_code 33 = .ok (.dsub, 1) := by decide +kernel
theorem d9_34 : decode method_5_code 34 = .ok (.dstore 10, 2) := by decide +kernel
theorem d9_36 : decode method_5_code 36 = .ok (.goto 11, 3) := by decide +kernel
theorem d9_39 : decode method_5_code 39 = .ok (.lload_n 2, 1) := by decide +kernel
theorem d9_40 : decode method_5_code 40 = .ok (.iload 6, 2) := by decide +kernel
theorem d9_42 : decode method_5_code 42 = .ok (.invokestatic 40, 3) := by decide +kernel
theorem d9_45 : decode method_5_code 45 = .ok (.dstore 10, 2) := by decide +kernel
theorem d9_47 : decode method_5_code 47 = .ok (.aload_n 0, 1) := by decide +kernel
theorem d9_48 : decode method_5_code 48 = .ok (.iload 6, 2) := by decide +kernel
theorem d9_50 : decode method_5_code 50 = .ok (.daload, 1) := by decide +kernel
theorem d9_51 : decode method_5_code 51 = .ok (.dload 10, 2) := by decide +kernel
theorem d9_53 : decode method_5_code 53 = .ok (.dcmp .l, 1) := by decide +kernel
theorem d9_54 : decode method_5_code 54 = .ok (.ifCond .ne 22, 3) := by decide +kernel
theorem d9_57 : decode method_5_code 57 = .ok (.aload_n 1, 1) := by decide +kernel
theorem d9_58 : decode method_5_code 58 = .ok (.iload 6, 2) := by decide +kernel
theorem d9_60 : decode method_5_code 60 = .ok (.daload, 1) := by decide +kernel
theorem d9_61 : decode method_5_code 61 = .ok (.lload 4, 2) := by decide +kernel
theorem d9_63 : decode method_5_code 63 = .ok (.iload 6, 2) := by decide +kernel
theorem d9_65 : decode method_5_code 65 = .ok (.invokestatic 40, 3) := by decide +kernel
theorem d9_68 : decode method_5_code 68 = .ok (.dcmp .l, 1) := by decide +kernel
theorem d9_69 : decode method_5_code 69 = .ok (.ifCond .ne 7, 3) := by decide +kernel
theorem d9_72 : decode method_5_code 72 = .ok (.iconst 1, 1) := by decide +kernel
theorem d9_73 : decode method_5_code 73 = .ok (.goto 4, 3) := by decide +kernel
theorem d9_76 : decode method_5_code 76 = .ok (.iconst 0, 1) := by decide +kernel
theorem d9_77 : decode method_5_code 77 = .ok (.ireturn, 1) := by decide +kernel
theorem pn_9 : plainName "com/example/rhadamanthus/rhadamanthus/learn/HistogramSubtractColumnsPinLaw" = true := by first | (simp [plainName, overriddenIn]; done) | decide +kernel
theorem ef_9 (m : MethodId) (o0 : Addr) (o1 : Addr) (q2 : Int64) (q3 : Int64) (p4 : Int32) (p5 : Int32) (p6 : Int32) : entryFrame m #[(.ref o0), (.ref o1), (.long q2), (.long q3), (.int p4), (.int p5), (.int p6)] 12 = mkF m 0 #[.val (.ref o0), .val (.ref o1), .val (.long q2), .second, .val (.long q3), .second, .val (.int p4), .val (.int p5), .val (.int p6), .unset, .unset, .unset] [] := by first | (simp [entryFrame, mkF, argsToLocals, Value.category]; done) | rfl
def f9_77 (v77_s0 : Int32) : Int32 := (nar .boolean v77_s0)
def f9_76 : Int32 := (f9_77 (0 : Int32))
def f9_72 : Int32 := (f9_77 (1 : Int32))
def f9_57 (q3 : Int64) (p4 : Int32) (gt : Nat → UInt64) : Int32 := if (cmpValue (FP.dcmp (gt p4.toNatClampNeg) (f5_0 q3 p4)) .l) = (0 : Int32) then f9_72 else f9_76
def f9_47 (q3 : Int64) (p4 : Int32) (gw : Nat → UInt64) (gt : Nat → UInt64) (v47_10 : UInt64) : Int32 := if (cmpValue (FP.dcmp (gw p4.toNatClampNeg) v47_10) .l) = (0 : Int32) then (f9_57 q3 p4 gt) else f9_76
def f9_39 (q2 : Int64) (q3 : Int64) (p4 : Int32) (gw : Nat → UInt64) (gt : Nat → UInt64) : Int32 := (f9_47 q3 p4 gw gt (f5_0 q2 p4))
def f9_20 (q2 : Int64) (q3 : Int64) (p4 : Int32) (gw : Nat → UInt64) (gt : Nat → UInt64) : Int32 := (f9_47 q3 p4 gw gt (FP.dsub (f5_0 q2 p4) (f5_0 q3 p4)))
def f9_13 (q2 : Int64) (q3 : Int64) (p4 : Int32) (p6 : Int32) (gw : Nat → UInt64) (gt : Nat → UInt64) : Int32 := if (p4 / (2 : Int32)) < p6 then (f9_20 q2 q3 p4 gw gt) else (f9_39 q2 q3 p4 gw gt)
def f9_0 (q2 : Int64) (q3 : Int64) (p4 : Int32) (p5 : Int32) (p6 : Int32) (gw : Nat → UInt64) (gt : Nat → UInt64) : Int32 := if (p4 / (2 : Int32)) < p5 then (f9_39 q2 q3 p4 gw gt) else (f9_13 q2 q3 p4 p6 gw gt)
set_option maxRecDepth 65536 in
set_option maxHeartbeats 40000000 in
theorem rm9 (l : Launch) (Z : State) (a0 : Array Value) (hw : ∀ d ∈ tables_1, d.before a0 Z = true) (ws : List Jvm.Cond) (o0 : Addr) (o1 : Addr) (q2 : Int64) (q3 : Int64) (p4 : Int32) (p5 : Int32) (p6 : Int32) (gw : Nat → UInt64) (gt : Nat → UInt64) (h0 : Heap) (A_w : IA Z h0 o0 .double 8 (fun k => .double (gw k))) (A_t : IA Z h0 o1 .double 8 (fun k => .double (gt k))) (hi : ¬ (p4 < 0 ∨ 8 ≤ p4.toNatClampNeg)) :
    MetFree l (⟨"com/example/rhadamanthus/rhadamanthus/learn/HistogramSubtractColumnsPinLaw", "cell", "([D[DJJIII)Z"⟩ : MethodName) (head1 (Jvm.Cond.code (⟨"com/example/rhadamanthus/rhadamanthus/learn/HistogramSubtractColumnsPinLaw", "cell", "([D[DJJIII)Z"⟩ : MethodName) method_5_code 12 (some .boolean) :: ws) ({ frames := 1, cells := 0, slots := 0, locals := 16 } : Room)) (fun a U => a = #[(.ref o0), (.ref o1), (.long q2), (.long q3), (.int p4), (.int p5), (.int p6)] ∧ Z.Warmed39 U.vm ∧ U.heap = h0) (fun _ _ _ _ _ => True) (fun _ U o U' => ∃ v L, o = .returned v ∧ (PureQ (.int (f9_0 q2 q3 p4 p5 p6 gw gt)) h0) v U'.heap L ∧ FrameEnd U o U' L ({ frames := 1, cells := 0, slots := 0, locals := 16 } : Room).cells ({ frames := 1, cells := 0, slots := 0, locals := 16 } : Room).slots) := by
  refine MetFree.of_bodySF (plainFor_of_name pn_9) hisR ?_
  intro p e s m args below meth c s₁ Bd hml0 hP hK
  obtain ⟨rfl, hZ, hh⟩ := hP
  have hx := Bd.exec
  have hby := Bd.bytes
  have hlk : meth.locks = false := BodyLoose.notSynchronized Bd
  have hml : c.maxLocals = 12 := hml0
  have hown : s.vm.findClass "com/example/rhadamanthus/rhadamanthus/learn/HistogramSubtractColumnsPinLaw" = some m.cls := findClass_of_methodNamed Bd.named
  have hnm := (name_of_methodNamed Bd.named Bd.method).1
  have X0 : Stand p l e ({ frames := 1, cells := 0, slots := 0, locals := 16 } : Room) s m #[(.ref o0), (.ref o1), (.long q2), (.long q3), (.int p4), (.int p5), (.int p6)] below meth c s₁ ([] : List Loc) 0 0 := Stand.of_body Bd
  have e0 : s₁.heap = h0 := by rw [← hh, Bd.state]; rfl
  show Go p e below s 0 0 (PureQ (.int (f9_0 q2 q3 p4 p5 p6 gw gt)) h0) s₁ (entryFrame m #[(.ref o0), (.ref o1), (.long q2), (.long q3), (.int p4), (.int p5), (.int p6)] 12)
  rw [ef_9 m o0 o1 q2 q3 p4 p5 p6]
  refine Go.step (g' := (mkF m 2 #[.val (.ref o0), .val (.ref o1), .val (.long q2), .second, .val (.long q3), .second, .val (.int p4), .val (.int p5), .val (.int p6), .unset, .unset, .unset] [(.int p4)])) (fun _ k => XS.iload X0.here hx rfl (hb hby d9_0) rfl  k) ?_
  refine Go.step (g' := (mkF m 3 #[.val (.ref o0), .val (.ref o1), .val (.long q2), .second, .val (.long q3), .second, .val (.int p4), .val (.int p5), .val (.int p6), .unset, .unset, .unset] [(.int (2 : Int32)), (.int p4)])) (fun _ k => XS.iconst X0.here hx rfl (hb hby d9_2) k) ?_
  refine Go.step (g' := (mkF m 4 #[.val (.ref o0), .val (.ref o1), .val (.long q2), .second, .val (.long q3), .second, .val (.int p4), .val (.int p5), .val (.int p6), .unset, .unset, .unset] [(.int (p4 / (2 : Int32)))])) (fun _ k => XS.idiv X0.here hx rfl (hb hby d9_3) rfl (by decide) k) ?_
  refine Go.step (g' := (mkF m 6 #[.val (.ref o0), .val (.ref o1), .val (.long q2), .second, .val (.long q3), .second, .val (.int p4), .val (.int p5), .val (.int p6), .val (.int (p4 / (2 : Int32))), .unset, .unset] [])) (fun _ k => XS.istore X0.here hx rfl (hb hby d9_4) rfl (l' := #[.val (.ref o0), .val (.ref o1), .val (.long q2), .second, .val (.long q3), .second, .val (.int p4), .val (.int p5), .val (.int p6), .val (.int (p4 / (2 : Int32))), .unset, .unset]) rfl k) ?_
  refine Go.step (g' := (mkF m 8 #[.val (.ref o0), .val (.ref o1), .val (.long q2), .second, .val (.long q3), .second, .val (.int p4), .val (.int p5), .val (.int p6), .val (.int (p4 / (2 : Int32))), .unset, .unset] [(.int p5)])) (fun _ k => XS.iload X0.here hx rfl (hb hby d9_6) rfl  k) ?_
  refine Go.step (g' := (mkF m 10 #[.val (.ref o0), .val (.ref o1), .val (.long q2), .second, .val (.long q3), .second, .val (.int p4), .val (.int p5), .val (.int p6), .val (.int (p4 / (2 : Int32))), .unset, .unset] [(.int (p4 / (2 : Int32))), (.int p5)])) (fun _ k => XS.iload X0.here hx rfl (hb hby d9_8) rfl  k) ?_
  have t47 : ∀ (T_47 : State) (X_47 : Stand p l e ({ frames := 1, cells := 0, slots := 0, locals := 16 } : Room) s m #[(.ref o0), (.ref o1), (.long q2), (.long q3), (.int p4), (.int p5), (.int p6)] below meth c T_47 ([] : List Loc) 0 0) (e_47 : T_47.heap = h0) (v47_10 : UInt64), Go p e below s 0 0 (PureQ (.int (f9_47 q3 p4 gw gt v47_10)) h0) T_47 (mkF m 47 #[.val (.ref o0), .val (.ref o1), .val (.long q2), .second, .val (.long q3), .second, .val (.int p4), .val (.int p5), .val (.int p6), .val (.int (p4 / (2 : Int32))), .val (.double v47_10), .second] []) := by
    intro T_47 X_47 e_47 v47_10
    refine Go.step (g' := (mkF m 48 #[.val (.ref o0), .val (.ref o1), .val (.long q2), .second, .val (.long q3), .second, .val (.int p4), .val (.int p5), .val (.int p6), .val (.int (p4 / (2 : Int32))), .val (.double v47_10), .second] [(.ref o0)])) (fun _ k => XS.aloadN X_47.here hx rfl (hb hby d9_47) rfl rfl  k) ?_
    refine Go.step (g' := (mkF m 50 #[.val (.ref o0), .val (.ref o1), .val (.long q2), .second, .val (.long q3), .second, .val (.int p4), .val (.int p5), .val (.int p6), .val (.int (p4 / (2 : Int32))), .val (.double v47_10), .second] [(.int p4), (.ref o0)])) (fun _ k => XS.iload X_47.here hx rfl (hb hby d9_48) rfl  k) ?_
    refine Go.step (g' := (mkF m 51 #[.val (.ref o0), .val (.ref o1), .val (.long q2), .second, .val (.long q3), .second, .val (.int p4), .val (.int p5), .val (.int p6), .val (.int (p4 / (2 : Int32))), .val (.double v47_10), .second] [(.double (gw p4.toNatClampNeg))])) (fun _ k => getAD X_47 hx hZ e_47 A_w (j := p4) hi (gf := (mkF m 50 #[.val (.ref o0), .val (.ref o1), .val (.long q2), .second, .val (.long q3), .second, .val (.int p4), .val (.int p5), .val (.int p6), .val (.int (p4 / (2 : Int32))), .val (.double v47_10), .second] [(.int p4), (.ref o0)])) rfl rfl (hb hby d9_50) k) ?_
    refine Go.step (g' := (mkF m 53 #[.val (.ref o0), .val (.ref o1), .val (.long q2), .second, .val (.long q3), .second, .val (.int p4), .val (.int p5), .val (.int p6), .val (.int (p4 / (2 : Int32))), .val (.double v47_10), .second] [(.double v47_10), (.double (gw p4.toNatClampNeg))])) (fun _ k => XS.dload X_47.here hx rfl (hb hby d9_51) rfl k) ?_
    refine Go.step (g' := (mkF m 54 #[.val (.ref o0), .val (.ref o1), .val (.long q2), .second, .val (.long q3), .second, .val (.int p4), .val (.int p5), .val (.int p6), .val (.int (p4 / (2 : Int32))), .val (.double v47_10), .second] [(.int (cmpValue (FP.dcmp (gw p4.toNatClampNeg) v47_10) .l))])) (fun _ k => XS.dcmpS X_47.here hx rfl (hb hby d9_53) rfl rfl k) ?_
    have t77 : ∀ (T_77 : State) (X_77 : Stand p l e ({ frames := 1, cells := 0, slots := 0, locals := 16 } : Room) s m #[(.ref o0), (.ref o1), (.long q2), (.long q3), (.int p4), (.int p5), (.int p6)] below meth c T_77 ([] : List Loc) 0 0) (e_77 : T_77.heap = h0) (v77_s0 : Int32), Go p e below s 0 0 (PureQ (.int (f9_77 v77_s0)) h0) T_77 (mkF m 77 #[.val (.ref o0), .val (.ref o1), .val (.long q2), .second, .val (.long q3), .second, .val (.int p4), .val (.int p5), .val (.int p6), .val (.int (p4 / (2 : Int32))), .val (.double v47_10), .second] [(.int v77_s0)]) := by
      intro T_77 X_77 e_77 v77_s0
      exact Go.retN X_77 hx hlk (t := .boolean) Bd.returns (by simp) (hb hby d9_77) (by decide) (by decide) ⟨rfl, rfl, e_77⟩
    have t76 : ∀ (T_76 : State) (X_76 : Stand p l e ({ frames := 1, cells := 0, slots := 0, locals := 16 } : Room) s m #[(.ref o0), (.ref o1), (.long q2), (.long q3), (.int p4), (.int p5), (.int p6)] below meth c T_76 ([] : List Loc) 0 0) (e_76 : T_76.heap = h0), Go p e below s 0 0 (PureQ (.int f9_76) h0) T_76 (mkF m 76 #[.val (.ref o0), .val (.ref o1), .val (.long q2), .second, .val (.long q3), .second, .val (.int p4), .val (.int p5), .val (.int p6), .val (.int (p4 / (2 : Int32))), .val (.double v47_10), .second] []) := by
      intro T_76 X_76 e_76
      refine Go.step (g' := (mkF m 77 #[.val (.ref o0), .val (.ref o1), .val (.long q2), .second, .val (.long q3), .second, .val (.int p4), .val (.int p5), .val (.int p6), .val (.int (p4 / (2 : Int32))), .val (.double v47_10), .second] [(.int (0 : Int32))])) (fun _ k => XS.iconst X_76.here hx rfl (hb hby d9_76) k) ?_
      rw [show f9_76 = (f9_77 (0 : Int32)) from rfl]
      exact t77 T_76 X_76 e_76 (0 : Int32)
    by_cases hc54 : (cmpValue (FP.dcmp (gw p4.toNatClampNeg) v47_10) .l) = (0 : Int32)
    · rw [show (f9_47 q3 p4 gw gt v47_10) = (f9_57 q3 p4 gt) from if_pos hc54]
      refine Go.step (g' := (mkF m 57 #[.val (.ref o0), .val (.ref o1), .val (.long q2), .second, .val (.long q3), .second, .val (.int p4), .val (.int p5), .val (.int p6), .val (.int (p4 / (2 : Int32))), .val (.double v47_10), .second] [])) (fun _ k => XS.ifNo X_47.here hx rfl (hb hby d9_54) rfl ((if0 _ _).trans (teq hc54).2) k) ?_
      refine Go.step (g' := (mkF m 58 #[.val (.ref o0), .val (.ref o1), .val (.long q2), .second, .val (.long q3), .second, .val (.int p4), .val (.int p5), .val (.int p6), .val (.int (p4 / (2 : Int32))), .val (.double v47_10), .second] [(.ref o1)])) (fun _ k => XS.aloadN X_47.here hx rfl (hb hby d9_57) rfl rfl  k) ?_
      refine Go.step (g' := (mkF m 60 #[.val (.ref o0), .val (.ref o1), .val (.long q2), .second, .val (.long q3), .second, .val (.int p4), .val (.int p5), .val (.int p6), .val (.int (p4 / (2 : Int32))), .val (.double v47_10), .second] [(.int p4), (.ref o1)])) (fun _ k => XS.iload X_47.here hx rfl (hb hby d9_58) rfl  k) ?_
      refine Go.step (g' := (mkF m 61 #[.val (.ref o0), .val (.ref o1), .val (.long q2), .second, .val (.long q3), .second, .val (.int p4), .val (.int p5), .val (.int p6), .val (.int (p4 / (2 : Int32))), .val (.double v47_10), .second] [(.double (gt p4.toNatClampNeg))])) (fun _ k => getAD X_47 hx hZ e_47 A_t (j := p4) hi (gf := (mkF m 60 #[.val (.ref o0), .val (.ref o1), .val (.long q2), .second, .val (.long q3), .second, .val (.int p4), .val (.int p5), .val (.int p6), .val (.int (p4 / (2 : Int32))), .val (.double v47_10), .second] [(.int p4), (.ref o1)])) rfl rfl (hb hby d9_60) k) ?_
      refine Go.step (g' := (mkF m 63 #[.val (.ref o0), .val (.ref o1), .val (.long q2), .second, .val (.long q3), .second, .val (.int p4), .val (.int p5), .val (.int p6), .val (.int (p4 / (2 : Int32))), .val (.double v47_10), .second] [(.long q3), (.double (gt p4.toNatClampNeg))])) (fun _ k => XS.lload X_47.here hx rfl (hb hby d9_61) rfl  k) ?_
      refine Go.step (g' := (mkF m 65 #[.val (.ref o0), .val (.ref o1), .val (.long q2), .second, .val (.long q3), .second, .val (.int p4), .val (.int p5), .val (.int p6), .val (.int (p4 / (2 : Int32))), .val (.double v47_10), .second] [(.int p4), (.long q3), (.double (gt p4.toNatClampNeg))])) (fun _ k => XS.iload X_47.here hx rfl (hb hby d9_63) rfl  k) ?_
      obtain ⟨_, _, ⟨T4, L4, k4, n4⟩, -, X4, ⟨Lc4, hQ4, l4, y4, z4⟩, st4⟩ := Jvm.LawKit.callS X_47 hx (y := (⟨"com/example/rhadamanthus/rhadamanthus/learn/HistogramSubtractColumnsPinLaw", "v", "(JI)D"⟩ : MethodName)) hown (mvT hZ (hw _ (List.mem_of_getElem? (i := 21) rfl))) (mvT hZ (hw _ (List.mem_of_getElem? (i := 22) rfl))) (mvT hZ (hw _ (List.mem_of_getElem? (i := 19) rfl))) (mvT hZ (hw _ (List.mem_of_getElem? (i := 23) rfl))) (by decide) (backOf (W := 2) (rm5 l Z a0 hw [] q3 p4 h0 ) hZ (hw _ (List.mem_of_getElem? (i := 23) rfl)) (hw _ (List.mem_of_getElem? (i := 19) rfl)) (by decide) (by decide)) (g := (mkF m 65 #[.val (.ref o0), .val (.ref o1), .val (.long q2), .second, .val (.long q3), .second, .val (.int p4), .val (.int p5), .val (.int p6), .val (.int (p4 / (2 : Int32))), .val (.double v47_10), .second] [(.int p4), (.long q3), (.double (gt p4.toNatClampNeg))])) rfl (by rw [hml]; rfl) (argsL := [(.long q3), (.int p4)]) (rest := [(.double (gt p4.toNatClampNeg))]) (lenOf pd_0 rfl) rfl (by show 2 * 0 + _ ≤ _; exact Nat.le_of_eq rfl) (hb hby d9_65) (fun _ _ => ⟨rfl, e_47, (by decide : 0 + 0 ≤ _), (by decide : 0 + 0 ≤ _)⟩)
      dsimp only [Pt.U, Pt.locs, Pt.cells, Pt.slots] at X4 l4 y4 z4 st4 hQ4
      subst l4 y4 z4
      obtain ⟨rfl, rfl, e4⟩ := hQ4
      try rw [List.append_nil] at X4
      refine Go.step (g' := (mkF m 68 #[.val (.ref o0), .val (.ref o1), .val (.long q2), .second, .val (.long q3), .second, .val (.int p4), .val (.int p5), .val (.int p6), .val (.int (p4 / (2 : Int32))), .val (.double v47_10), .second] [(.double (f5_0 q3 p4)), (.double (gt p4.toNatClampNeg))])) st4 ?_
      refine Go.step (g' := (mkF m 69 #[.val (.ref o0), .val (.ref o1), .val (.long q2), .second, .val (.long q3), .second, .val (.int p4), .val (.int p5), .val (.int p6), .val (.int (p4 / (2 : Int32))), .val (.double v47_10), .second] [(.int (cmpValue (FP.dcmp (gt p4.toNatClampNeg) (f5_0 q3 p4)) .l))])) (fun _ k => XS.dcmpS X4.here hx rfl (hb hby d9_68) rfl rfl k) ?_
      by_cases hc69 : (cmpValue (FP.dcmp (gt p4.toNatClampNeg) (f5_0 q3 p4)) .l) = (0 : Int32)
      · rw [show (f9_57 q3 p4 gt) = f9_72 from if_pos hc69]
        refine Go.step (g' := (mkF m 72 #[.val (.ref o0), .val (.ref o1), .val (.long q2), .second, .val (.long q3), .second, .val (.int p4), .val (.int p5), .val (.int p6), .val (.int (p4 / (2 : Int32))), .val (.double v47_10), .second] [])) (fun _ k => XS.ifNo X4.here hx rfl (hb hby d9_69) rfl ((if0 _ _).trans (teq hc69).2) k) ?_
        refine Go.step (g' := (mkF m 73 #[.val (.ref o0), .val (.ref o1), .val (.long q2), .second, .val (.long q3), .second, .val (.int p4), .val (.int p5), .val (.int p6), .val (.int (p4 / (2 : Int32))), .val (.double v47_10), .second] [(.int (1 : Int32))])) (fun _ k => XS.iconst X4.here hx rfl (hb hby d9_72) k) ?_
        refine Go.step (g' := (mkF m 77 #[.val (.ref o0), .val (.ref o1), .val (.long q2), .second, .val (.long q3), .second, .val (.int p4), .val (.int p5), .val (.int p6), .val (.int (p4 / (2 : Int32))), .val (.double v47_10), .second] [(.int (1 : Int32))])) (fun _ k => XS.goto X4.here hx rfl (pc0 := 73) (pc' := 77) rfl (hb hby d9_73) (by decide) (by decide) k) ?_
        rw [show f9_72 = (f9_77 (1 : Int32)) from rfl]
        exact t77 T4 X4 e4 (1 : Int32)
      · rw [show (f9_57 q3 p4 gt) = f9_76 from if_neg hc69]
        refine Go.step (g' := (mkF m 76 #[.val (.ref o0), .val (.ref o1), .val (.long q2), .second, .val (.long q3), .second, .val (.int p4), .val (.int p5), .val (.int p6), .val (.int (p4 / (2 : Int32))), .val (.double v47_10), .second] [])) (fun _ k => XS.ifYes X4.here hx rfl (pc0 := 69) (pc' := 76) rfl (hb hby d9_69) rfl ((if0 _ _).trans (feq hc69).2) (by decide) (by decide) k) ?_
        exact t76 T4 X4 e4
    · rw [show (f9_47 q3 p4 gw gt v47_10) = f9_76 from if_neg hc54]
      refine Go.step (g' := (mkF m 76 #[.val (.ref o0), .val (.ref o1), .val (.long q2), .second, .val (.long q3), .second, .val (.int p4), .val (.int p5), .val (.int p6), .val (.int (p4 / (2 : Int32))), .val (.double v47_10), .second] [])) (fun _ k => XS.ifYes X_47.here hx rfl (pc0 := 54) (pc' := 76) rfl (hb hby d9_54) rfl ((if0 _ _).trans (feq hc54).2) (by decide) (by decide) k) ?_
      exact t76 T_47 X_47 e_47
  have t39 : Go p e below s 0 0 (PureQ (.int (f9_39 q2 q3 p4 gw gt)) h0) s₁ (mkF m 39 #[.val (.ref o0), .val (.ref o1), .val (.long q2), .second, .val (.long q3), .second, .val (.int p4), .val (.int p5), .val (.int p6), .val (.int (p4 / (2 : Int32))), .unset, .unset] []) := by
    refine Go.step (g' := (mkF m 40 #[.val (.ref o0), .val (.ref o1), .val (.long q2), .second, .val (.long q3), .second, .val (.int p4), .val (.int p5), .val (.int p6), .val (.int (p4 / (2 : Int32))), .unset, .unset] [(.long q2)])) (fun _ k => XS.lloadN X0.here hx rfl (hb hby d9_39) rfl  k) ?_
    refine Go.step (g' := (mkF m 42 #[.val (.ref o0), .val (.ref o1), .val (.long q2), .second, .val (.long q3), .second, .val (.int p4), .val (.int p5), .val (.int p6), .val (.int (p4 / (2 : Int32))), .unset, .unset] [(.int p4), (.long q2)])) (fun _ k => XS.iload X0.here hx rfl (hb hby d9_40) rfl  k) ?_
    obtain ⟨_, _, ⟨T3, L3, k3, n3⟩, -, X3, ⟨Lc3, hQ3, l3, y3, z3⟩, st3⟩ := Jvm.LawKit.callS X0 hx (y := (⟨"com/example/rhadamanthus/rhadamanthus/learn/HistogramSubtractColumnsPinLaw", "v", "(JI)D"⟩ : MethodName)) hown (mvT hZ (hw _ (List.mem_of_getElem? (i := 21) rfl))) (mvT hZ (hw _ (List.mem_of_getElem? (i := 22) rfl))) (mvT hZ (hw _ (List.mem_of_getElem? (i := 19) rfl))) (mvT hZ (hw _ (List.mem_of_getElem? (i := 23) rfl))) (by decide) (backOf (W := 0) (rm5 l Z a0 hw [] q2 p4 h0 ) hZ (hw _ (List.mem_of_getElem? (i := 23) rfl)) (hw _ (List.mem_of_getElem? (i := 19) rfl)) (by decide) (by decide)) (g := (mkF m 42 #[.val (.ref o0), .val (.ref o1), .val (.long q2), .second, .val (.long q3), .second, .val (.int p4), .val (.int p5), .val (.int p6), .val (.int (p4 / (2 : Int32))), .unset, .unset] [(.int p4), (.long q2)])) rfl (by rw [hml]; rfl) (argsL := [(.long q2), (.int p4)]) (rest := []) (lenOf pd_0 rfl) rfl (by show 2 * 0 + _ ≤ _; exact Nat.le_of_eq rfl) (hb hby d9_42) (fun _ _ => ⟨rfl, e0, (by decide : 0 + 0 ≤ _), (by decide : 0 + 0 ≤ _)⟩)
    dsimp only [Pt.U, Pt.locs, Pt.cells, Pt.slots] at X3 l3 y3 z3 st3 hQ3
    subst l3 y3 z3
    obtain ⟨rfl, rfl, e3⟩ := hQ3
    try rw [List.append_nil] at X3
    refine Go.step (g' := (mkF m 45 #[.val (.ref o0), .val (.ref o1), .val (.long q2), .second, .val (.long q3), .second, .val (.int p4), .val (.int p5), .val (.int p6), .val (.int (p4 / (2 : Int32))), .unset, .unset] [(.double (f5_0 q2 p4))])) st3 ?_
    refine Go.step (g' := (mkF m 47 #[.val (.ref o0), .val (.ref o1), .val (.long q2), .second, .val (.long q3), .second, .val (.int p4), .val (.int p5), .val (.int p6), .val (.int (p4 / (2 : Int32))), .val (.double (f5_0 q2 p4)), .second] [])) (fun _ k => XS.dstore X3.here hx rfl (hb hby d9_45) rfl (l' := #[.val (.ref o0), .val (.ref o1), .val (.long q2), .second, .val (.long q3), .second, .val (.int p4), .val (.int p5), .val (.int p6), .val (.int (p4 / (2 : Int32))), .val (.double (f5_0 q2 p4)), .second]) rfl k) ?_
    rw [show (f9_39 q2 q3 p4 gw gt) = (f9_47 q3 p4 gw gt (f5_0 q2 p4)) from rfl]
    exact t47 T3 X3 e3 (f5_0 q2 p4)
  by_cases hc10 : (p4 / (2 : Int32)) < p5
  · rw [show (f9_0 q2 q3 p4 p5 p6 gw gt) = (f9_39 q2 q3 p4 gw gt) from if_pos hc10]
    refine Go.step (g' := (mkF m 39 #[.val (.ref o0), .val (.ref o1), .val (.long q2), .second, .val (.long q3), .second, .val (.int p4), .val (.int p5), .val (.int p6), .val (.int (p4 / (2 : Int32))), .unset, .unset] [])) (fun _ k => XS.icmpYes X0.here hx rfl (pc0 := 10) (pc' := 39) rfl (hb hby d9_10) rfl (tlt hc10).2.2.1 (by decide) (by decide) k) ?_
    exact t39 
  · rw [show (f9_0 q2 q3 p4 p5 p6 gw gt) = (f9_13 q2 q3 p4 p6 gw gt) from if_neg hc10]
    refine Go.step (g' := (mkF m 13 #[.val (.ref o0), .val (.ref o1), .val (.long q2), .second, .val (.long q3), .second, .val (.int p4), .val (.int p5), .val (.int p6), .val (.int (p4 / (2 : Int32))), .unset, .unset] [])) (fun _ k => XS.icmpNo X0.here hx rfl (hb hby d9_10) rfl (flt hc10).2.2.1 k) ?_
    refine Go.step (g' := (mkF m 15 #[.val (.ref o0), .val (.ref o1), .val (.long q2), .second, .val (.long q3), .second, .val (.int p4), .val (.int p5), .val (.int p6), .val (.int (p4 / (2 : Int32))), .unset, .unset] [(.int (p4 / (2 : Int32)))])) (fun _ k => XS.iload X0.here hx rfl (hb hby d9_13) rfl  k) ?_
    refine Go.step (g' := (mkF m 17 #[.val (.ref o0), .val (.ref o1), .val (.long q2), .second, .val (.long q3), .second, .val (.int p4), .val (.int p5), .val (.int p6), .val (.int (p4 / (2 : Int32))), .unset, .unset] [(.int p6), (.int (p4 / (2 : Int32)))])) (fun _ k => XS.iload X0.here hx rfl (hb hby d9_15) rfl  k) ?_
    by_cases hc17 : (p4 / (2 : Int32)) < p6
    · rw [show (f9_13 q2 q3 p4 p6 gw gt) = (f9_20 q2 q3 p4 gw gt) from if_pos hc17]
      refine Go.step (g' := (mkF m 20 #[.val (.ref o0), .val (.ref o1), .val (.long q2), .second, .val (.long q3), .second, .val (.int p4), .val (.int p5), .val (.int p6), .val (.int (p4 / (2 : Int32))), .unset, .unset] [])) (fun _ k => XS.icmpNo X0.here hx rfl (hb hby d9_17) rfl (tlt hc17).2.1 k) ?_
      refine Go.step (g' := (mkF m 21 #[.val (.ref o0), .val (.ref o1), .val (.long q2), .second, .val (.long q3), .second, .val (.int p4), .val (.int p5), .val (.int p6), .val (.int (p4 / (2 : Int32))), .unset, .unset] [(.long q2)])) (fun _ k => XS.lloadN X0.here hx rfl (hb hby d9_20) rfl  k) ?_
      refine Go.step (g' := (mkF m 23 #[.val (.ref o0), .val (.ref o1), .val (.long q2), .second, .val (.long q3), .second, .val (.int p4), .val (.int p5), .val (.int p6), .val (.int (p4 / (2 : Int32))), .unset, .unset] [(.int p4), (.long q2)])) (fun _ k => XS.iload X0.here hx rfl (hb hby d9_21) rfl  k) ?_
      obtain ⟨_, _, ⟨T1, L1, k1, n1⟩, -, X1, ⟨Lc1, hQ1, l1, y1, z1⟩, st1⟩ := Jvm.LawKit.callS X0 hx (y := (⟨"com/example/rhadamanthus/rhadamanthus/learn/HistogramSubtractColumnsPinLaw", "v", "(JI)D"⟩ : MethodName)) hown (mvT hZ (hw _ (List.mem_of_getElem? (i := 21) rfl))) (mvT hZ (hw _ (List.mem_of_getElem? (i := 22) rfl))) (mvT hZ (hw _ (List.mem_of_getElem? (i := 19) rfl))) (mvT hZ (hw _ (List.mem_of_getElem? (i := 23) rfl))) (by decide) (backOf (W := 0) (rm5 l Z a0 hw [] q2 p4 h0 ) hZ (hw _ (List.mem_of_getElem? (i := 23) rfl)) (hw _ (List.mem_of_getElem? (i := 19) rfl)) (by decide) (by decide)) (g := (mkF m 23 #[.val (.ref o0), .val (.ref o1), .val (.long q2), .second, .val (.long q3), .second, .val (.int p4), .val (.int p5), .val (.int p6), .val (.int (p4 / (2 : Int32))), .unset, .unset] [(.int p4), (.long q2)])) rfl (by rw [hml]; rfl) (argsL := [(.long q2), (.int p4)]) (rest := []) (lenOf pd_0 rfl) rfl (by show 2 * 0 + _ ≤ _; exact Nat.le_of_eq rfl) (hb hby d9_23) (fun _ _ => ⟨rfl, e0, (by decide : 0 + 0 ≤ _), (by decide : 0 + 0 ≤ _)⟩)
      dsimp only [Pt.U, Pt.locs, Pt.cells, Pt.slots] at X1 l1 y1 z1 st1 hQ1
      subst l1 y1 z1
      obtain ⟨rfl, rfl, e1⟩ := hQ1
      try rw [List.append_nil] at X1
      refine Go.step (g' := (mkF m 26 #[.val (.ref o0), .val (.ref o1), .val (.long q2), .second, .val (.long q3), .second, .val (.int p4), .val (.int p5), .val (.int p6), .val (.int (p4 / (2 : Int32))), .unset, .unset] [(.double (f5_0 q2 p4))])) st1 ?_
      refine Go.step (g' := (mkF m 28 #[.val (.ref o0), .val (.ref o1), .val (.long q2), .second, .val (.long q3), .second, .val (.int p4), .val (.int p5), .val (.int p6), .val (.int (p4 / (2 : Int32))), .unset, .unset] [(.long q3), (.double (f5_0 q2 p4))])) (fun _ k => XS.lload X1.here hx rfl (hb hby d9_26) rfl  k) ?_
      refine Go.step (g' := (mkF m 30 #[.val (.ref o0), .val (.ref o1), .val (.long q2), .second, .val (.long q3), .second, .val (.int p4), .val (.int p5), .val (.int p6), .val (.int (p4 / (2 : Int32))), .unset, .unset] [(.int p4), (.long q3), (.double (f5_0 q2 p4))])) (fun _ k => XS.iload X1.here hx rfl (hb hby d9_28) rfl  k) ?_
      obtain ⟨_, _, ⟨T2, L2, k2, n2⟩, -, X2, ⟨Lc2, hQ2, l2, y2, z2⟩, st2⟩ := Jvm.LawKit.callS X1 hx (y := (⟨"com/example/rhadamanthus/rhadamanthus/learn/HistogramSubtractColumnsPinLaw", "v", "(JI)D"⟩ : MethodName)) hown (mvT hZ (hw _ (List.mem_of_getElem? (i := 21) rfl))) (mvT hZ (hw _ (List.mem_of_getElem? (i := 22) rfl))) (mvT hZ (hw _ (List.mem_of_getElem? (i := 19) rfl))) (mvT hZ (hw _ (List.mem_of_getElem? (i := 23) rfl))) (by decide) (backOf (W := 2) (rm5 l Z a0 hw [] q3 p4 h0 ) hZ (hw _ (List.mem_of_getElem? (i := 23) rfl)) (hw _ (List.mem_of_getElem? (i := 19) rfl)) (by decide) (by decide)) (g := (mkF m 30 #[.val (.ref o0), .val (.ref o1), .val (.long q2), .second, .val (.long q3), .second, .val (.int p4), .val (.int p5), .val (.int p6), .val (.int (p4 / (2 : Int32))), .unset, .unset] [(.int p4), (.long q3), (.double (f5_0 q2 p4))])) rfl (by rw [hml]; rfl) (argsL := [(.long q3), (.int p4)]) (rest := [(.double (f5_0 q2 p4))]) (lenOf pd_0 rfl) rfl (by show 2 * 0 + _ ≤ _; exact Nat.le_of_eq rfl) (hb hby d9_30) (fun _ _ => ⟨rfl, e1, (by decide : 0 + 0 ≤ _), (by decide : 0 + 0 ≤ _)⟩)
      dsimp only [Pt.U, Pt.locs, Pt.cells, Pt.slots] at X2 l2 y2 z2 st2 hQ2
      subst l2 y2 z2
      obtain ⟨rfl, rfl, e2⟩ := hQ2
      try rw [List.append_nil] at X2
      refine Go.step (g' := (mkF m 33 #[.val (.ref o0), .val (.ref o1), .val (.long q2), .second, .val (.long q3), .second, .val (.int p4), .val (.int p5), .val (.int p6), .val (.int (p4 / (2 : Int32))), .unset, .unset] [(.double (f5_0 q3 p4)), (.double (f5_0 q2 p4))])) st2 ?_
      refine Go.step (g' := (mkF m 34 #[.val (.ref o0), .val (.ref o1), .val (.long q2), .second, .val (.long q3), .second, .val (.int p4), .val (.int p5), .val (.int p6), .val (.int (p4 / (2 : Int32))), .unset, .unset] [(.double (FP.dsub (f5_0 q2 p4) (f5_0 q3 p4)))])) (fun _ k => XS.dsubS X2.here hx rfl (hb hby d9_33) rfl (own_vnan _ _ _ _) rfl k) ?_
      refine Go.step (g' := (mkF m 36 #[.val (.ref o0), .val (.ref o1), .val (.long q2), .second, .val (.long q3), .second, .val (.int p4), .val (.int p5), .val (.int p6), .val (.int (p4 / (2 : Int32))), .val (.double (FP.dsub (f5_0 q2 p4) (f5_0 q3 p4))), .second] [])) (fun _ k => XS.dstore X2.here hx rfl (hb hby d9_34) rfl (l' := #[.val (.ref o0), .val (.ref o1), .val (.long q2), .second, .val (.long q3), .second, .val (.int p4), .val (.int p5), .val (.int p6), .val (.int (p4 / (2 : Int32))), .val (.double (FP.dsub (f5_0 q2 p4) (f5_0 q3 p4))), .second]) rfl k) ?_
      refine Go.step (g' := (mkF m 47 #[.val (.ref o0), .val (.ref o1), .val (.long q2), .second, .val (.long q3), .second, .val (.int p4), .val (.int p5), .val (.int p6), .val (.int (p4 / (2 : Int32))), .val (.double (FP.dsub (f5_0 q2 p4) (f5_0 q3 p4))), .second] [])) (fun _ k => XS.goto X2.here hx rfl (pc0 := 36) (pc' := 47) rfl (hb hby d9_36) (by decide) (by decide) k) ?_
      rw [show (f9_20 q2 q3 p4 gw gt) = (f9_47 q3 p4 gw gt (FP.dsub (f5_0 q2 p4) (f5_0 q3 p4))) from rfl]
      exact t47 T2 X2 e2 (FP.dsub (f5_0 q2 p4) (f5_0 q3 p4))
    · rw [show (f9_13 q2 q3 p4 p6 gw gt) = (f9_39 q2 q3 p4 gw gt) from if_neg hc17]
      refine Go.step (g' := (mkF m 39 #[.val (.ref o0), .val (.ref o1), .val (.long q2), .second, .val (.long q3), .second, .val (.int p4), .val (.int p5), .val (.int p6), .val (.int (p4 / (2 : Int32))), .unset, .unset] [])) (fun _ k => XS.icmpYes X0.here hx rfl (pc0 := 17) (pc' := 39) rfl (hb hby d9_17) rfl (flt hc17).2.1 (by decide) (by decide) k) ?_
      exact t39 
theorem own_k5 (x : Int32) : ∃ k : Fin 5, (x &&& 2147483647) % 5 = Int32.ofNat k.val := by
  have e : (x &&& (2147483647 : Int32)).toInt = x.toInt % (2 ^ 31 : Nat) := c_mask x 2147483647 31 (by decide) (by decide)
  have q : (5 : Int32).toInt = 5 := by decide
  have r := (c_irem (x &&& 2147483647) 5 5 q).1 (by omega)
  have r1 : 0 ≤ ((x &&& (2147483647 : Int32)) % 5).toInt := by omega
  have r2 : ((x &&& (2147483647 : Int32)) % 5).toInt < 5 := by omega
  generalize (x &&& (2147483647 : Int32)) % 5 = z at *
  refine ⟨⟨z.toInt.toNat, by omega⟩, ?_⟩
  apply Int32.toInt_inj.mp
  rw [Int32.toInt_ofNat_of_lt (by simp only; omega)]
  simp only; omega
theorem own_mm : ∀ a b : Fin 5, ∃ i j : Fin 5, i ≤ j ∧ (f6_0 (Int32.ofNat a.val) (Int32.ofNat b.val)) = Int32.ofNat i.val ∧ (f7_0 (Int32.ofNat a.val) (Int32.ofNat b.val)) = Int32.ofNat j.val := by decide +kernel
theorem own_fl (x y : Int32) : ∃ i j : Fin 5, i ≤ j ∧ (f6_0 ((x &&& 2147483647) % 5) ((y &&& 2147483647) % 5)) = Int32.ofNat i.val ∧ (f7_0 ((x &&& 2147483647) % 5) ((y &&& 2147483647) % 5)) = Int32.ofNat j.val := by
  obtain ⟨a, ha⟩ := own_k5 x
  obtain ⟨b, hb⟩ := own_k5 y
  rw [ha, hb]
  exact own_mm a b
theorem own_iff : ∀ i : Fin 8, ∀ a b : Fin 5, (2 * (Int32.ofNat a.val).toNatClampNeg ≤ i.val ∧ i.val < 2 * (Int32.ofNat b.val).toNatClampNeg) ↔ (¬ Int32.ofNat i.val / 2 < Int32.ofNat a.val ∧ Int32.ofNat i.val / 2 < Int32.ofNat b.val) := by decide +kernel
theorem own_en : ∀ i : Fin 8, (Int32.ofNat i.val).toNatClampNeg = i.val := by decide +kernel
theorem own_cell (i : Fin 8) (q0 q1 : Int64) (fi la : Int32) (hfl : ∃ i j : Fin 5, i ≤ j ∧ fi = Int32.ofNat i.val ∧ la = Int32.ofNat j.val) : ¬ f9_0 q0 q1 (Int32.ofNat i.val) fi la (fun k => if 2 * fi.toNatClampNeg ≤ k ∧ k < 2 * la.toNatClampNeg then FP.dsub ((own_v q0) k) ((own_v q1) k) else (own_v q0) k) (own_v q1) = 0 := by
  have n1 : nar .boolean 1 = 1 := by decide
  obtain ⟨a, b, -, rfl, rfl⟩ := hfl
  have hi := own_iff i a b
  have en : (Int32.ofNat i.val).toNatClampNeg = i.val := own_en i
  have e1 : own_v q1 i.val = (f5_0 q1 (Int32.ofNat i.val)) := rfl
  have e0 : own_v q0 i.val = (f5_0 q0 (Int32.ofNat i.val)) := rfl
  have k1 : cmpValue (FP.dcmp (f5_0 q1 (Int32.ofNat i.val)) (f5_0 q1 (Int32.ofNat i.val))) .l = 0 := own_cmp (Jvm.Free.Fl.i2d_fin _).noNaN
  have k0 : cmpValue (FP.dcmp (f5_0 q0 (Int32.ofNat i.val)) (f5_0 q0 (Int32.ofNat i.val))) .l = 0 := own_cmp (Jvm.Free.Fl.i2d_fin _).noNaN
  have kd : cmpValue (FP.dcmp (FP.dsub (f5_0 q0 (Int32.ofNat i.val)) (f5_0 q1 (Int32.ofNat i.val))) (FP.dsub (f5_0 q0 (Int32.ofNat i.val)) (f5_0 q1 (Int32.ofNat i.val)))) .l = 0 := own_cmp (own_vnan _ _ _ _)
  have e : f9_0 q0 q1 (Int32.ofNat i.val) (Int32.ofNat a.val) (Int32.ofNat b.val) (fun k => if 2 * (Int32.ofNat a.val).toNatClampNeg ≤ k ∧ k < 2 * (Int32.ofNat b.val).toNatClampNeg then FP.dsub ((own_v q0) k) ((own_v q1) k) else (own_v q0) k) (own_v q1) = 1 := by
    simp only [f9_77, f9_76, f9_72, f9_57, f9_47, f9_39, f9_20, f9_13, f9_0, en, hi, e0, e1]
    by_cases c1 : Int32.ofNat i.val / 2 < Int32.ofNat a.val
    · simp only [c1, if_true, not_true, false_and, if_false, k0, k1]; exact n1
    · by_cases c2 : Int32.ofNat i.val / 2 < Int32.ofNat b.val
      · simp only [c1, c2, if_true, if_false, not_false_eq_true, true_and, kd, k1]; exact n1
      · simp only [c1, c2, if_false, not_false_eq_true, and_false, k0, k1]; exact n1
  rw [e]; decide
theorem pn_0 : plainName "com/example/rhadamanthus/rhadamanthus/learn/HistogramSubtractColumnsPinLaw" = true := by first | (simp [plainName, overriddenIn]; done) | decide +kernel
theorem ef_0 (m : MethodId) (q0 : Int64) (q1 : Int64) (p2 : Int32) (p3 : Int32) : entryFrame m #[(.long q0), (.long q1), (.int p2), (.int p3)] maxLocals = mkF m 0 #[.val (.long q0), .second, .val (.long q1), .second, .val (.int p2), .val (.int p3), .unset, .unset, .unset, .unset, .unset, .unset, .unset, .unset] [] := by first | (simp [entryFrame, mkF, argsToLocals, Value.category, maxLocals]; done) | rfl
def f0_254 : Int32 := (nar .boolean (1 : Int32))
def f0_249 : Int32 := f0_254
def f0_231 : Int32 := f0_249
def f0_213 : Int32 := f0_231
def f0_196 : Int32 := f0_213
def f0_179 : Int32 := f0_196
def f0_162 : Int32 := f0_179
def f0_145 : Int32 := f0_162
def f0_128 : Int32 := f0_145
def f0_52 : Int32 := f0_128
def f0_42 : Int32 := f0_52
def f0_0 : Int32 := f0_42
theorem law_eq : f0_0 = 1 := by decide
set_option maxRecDepth 65536 in
set_option maxHeartbeats 40000000 in
theorem rm0 (l : Launch) (Z : State) (a0 : Array Value) (hw : ∀ d ∈ tables_1, d.before a0 Z = true) (ws : List Jvm.Cond) (q0 : Int64) (q1 : Int64) (p2 : Int32) (p3 : Int32)  (h0 : Heap) (n0 : Nat) (Z0 : n0 ≤ h0.size) :
    MetFree l x (head1 (Jvm.Cond.code x code maxLocals ret :: ws) room_1) (fun a U => a = #[(.long q0), (.long q1), (.int p2), (.int p3)] ∧ Z.Warmed39 U.vm ∧ U.heap = h0) (fun _ _ _ _ _ => True) (fun _ U o U' => ∃ v L, o = .returned v ∧ (LawQ (some (.int f0_0)) n0) v U'.heap L ∧ FrameEnd U o U' L room_1.cells room_1.slots) := by
  refine MetFree.of_bodySF (plainFor_of_name pn_0) hisR ?_
  intro p e s m args below meth c s₁ Bd hml0 hP hK
  obtain ⟨rfl, hZ, hh⟩ := hP
  have hx := Bd.exec
  have hby := Bd.bytes
  have hlk : meth.locks = false := BodyLoose.notSynchronized Bd
  have hml : c.maxLocals = 14 := hml0
  have hown : s.vm.findClass "com/example/rhadamanthus/rhadamanthus/learn/HistogramSubtractColumnsPinLaw" = some m.cls := findClass_of_methodNamed Bd.named
  have hnm := (name_of_methodNamed Bd.named Bd.method).1
  have X0 : Stand p l e room_1 s m #[(.long q0), (.long q1), (.int p2), (.int p3)] below meth c s₁ ([] : List Loc) 0 0 := Stand.of_body Bd
  have e0 : s₁.heap = h0 := by rw [← hh, Bd.state]; rfl
  show Go p e below s room_1.cells room_1.slots (LawQ (some (.int f0_0)) n0) s₁ (entryFrame m #[(.long q0), (.long q1), (.int p2), (.int p3)] maxLocals)
  rw [ef_0 m q0 q1 p2 p3]
  have N0 := Fr.nil n0
  obtain ⟨T1, h1, X1, e1, E1, A1, D1, -, st1⟩ := newO X0 hx hZ hown (hw _ (List.mem_of_getElem? (i := 0) rfl)) (hw _ (List.mem_of_getElem? (i := 1) rfl)) (hw _ (List.mem_of_getElem? (i := 2) rfl)) e0 (g := (mkF m 0 #[.val (.long q0), .second, .val (.long q1), .second, .val (.int p2), .val (.int p3), .unset, .unset, .unset, .unset, .unset, .unset, .unset, .unset] [])) rfl (hb hby at_0) (by decide) (by decide)
  obtain ⟨b1, g1⟩ : ∃ z, z = h0.size := ⟨_, rfl⟩
  rw [← g1] at A1 D1 st1
  have g_b1 : n0 ≤ b1 := Nat.le_trans Z0 (Nat.le_of_eq g1.symm)
  have sz_b1 : h0.size ≤ b1 := Nat.le_trans (Keep.refl h0 []).1 (Nat.le_of_eq g1.symm)
  have F1_cells : Fld Z h1 b1 "com/example/rhadamanthus/rhadamanthus/learn/Histogram" "cells" "[D" .null := D1 (Or.inr (hw _ (List.mem_of_getElem? (i := 11) rfl))) (ty := (.array .double)) (by decide)
  refine Go.step (g' := (mkF m 3 #[.val (.long q0), .second, .val (.long q1), .second, .val (.int p2), .val (.int p3), .unset, .unset, .unset, .unset, .unset, .unset, .unset, .unset] [(.ref b1)])) st1 ?_
  refine Go.step (g' := (mkF m 4 #[.val (.long q0), .second, .val (.long q1), .second, .val (.int p2), .val (.int p3), .unset, .unset, .unset, .unset, .unset, .unset, .unset, .unset] [(.ref b1), (.ref b1)])) (fun _ k => XS.dup X1.here hx rfl (hb hby at_3) rfl rfl k) ?_
  refine Go.step (g' := (mkF m 5 #[.val (.long q0), .second, .val (.long q1), .second, .val (.int p2), .val (.int p3), .unset, .unset, .unset, .unset, .unset, .unset, .unset, .unset] [(.int (4 : Int32)), (.ref b1), (.ref b1)])) (fun _ k => XS.iconst X1.here hx rfl (hb hby at_4) k) ?_
  obtain ⟨_, _, ⟨T2, L2, k2, n2⟩, -, X2, ⟨Lc2, hQ2, l2, y2, z2⟩, st2⟩ := X1.specialBack hx (y := (⟨"com/example/rhadamanthus/rhadamanthus/learn/Histogram", "<init>", "(I)V"⟩ : MethodName)) rfl hown (mvT hZ (hw _ (List.mem_of_getElem? (i := 3) rfl))) (mvT hZ (hw _ (List.mem_of_getElem? (i := 4) rfl))) (mvT hZ (hw _ (List.mem_of_getElem? (i := 5) rfl))) (by decide) (backOf (W := 1) (rm1 l Z a0 hw [] b1 (4 : Int32) h1 n0 (Nat.le_trans Z0 E1.1) A1 g_b1 F1_cells rfl) hZ (hw _ (List.mem_of_getElem? (i := 5) rfl)) (hw _ (List.mem_of_getElem? (i := 2) rfl)) (by decide) (by decide)) (g := (mkF m 5 #[.val (.long q0), .second, .val (.long q1), .second, .val (.int p2), .val (.int p3), .unset, .unset, .unset, .unset, .unset, .unset, .unset, .unset] [(.int (4 : Int32)), (.ref b1), (.ref b1)])) rfl (by rw [hml]; rfl) (Steps.refl _) (a := b1) (argsL := [(.int (4 : Int32))]) (rest := [(.ref b1)]) (lenOf pd_1 rfl) rfl (by show 2 * 0 + _ ≤ _; exact Nat.le_of_eq rfl) (hb hby at_5) (fun _ _ => ⟨rfl, e1, (by decide : (0 + 1) + 1 ≤ _), (by decide : (0 + 4) + 8 ≤ _)⟩)
  dsimp only [Pt.U, Pt.locs, Pt.cells, Pt.slots] at X2 l2 y2 z2 st2 hQ2
  subst l2 y2 z2
  obtain ⟨rfl, N2q, K2, Ei2, c2, sc2, Fc2, Ac2⟩ := hQ2
  obtain ⟨lc2, X2, N2⟩ := own_pack X2 (Fr.app N0 N2q)
  have ne_b1_c2 : b1 ≠ c2 := Nat.ne_of_lt (Nat.lt_of_lt_of_le A1.lt sc2)
  have g_c2 : n0 ≤ c2 := Nat.le_trans (Nat.le_trans Z0 E1.1) sc2
  have sz_c2 : h0.size ≤ c2 := Nat.le_trans ((Keep.refl h0 []).ext E1).1 sc2
  have Q3 := (((Keep.refl h0 []).ext E1).trans K2 (allS (Or.inr sz_b1) all0))
  refine Go.step (g' := (mkF m 8 #[.val (.long q0), .second, .val (.long q1), .second, .val (.int p2), .val (.int p3), .unset, .unset, .unset, .unset, .unset, .unset, .unset, .unset] [(.ref b1)])) (fun _ k => st2.trans k) ?_
  refine Go.step (g' := (mkF m 10 #[.val (.long q0), .second, .val (.long q1), .second, .val (.int p2), .val (.int p3), .val (.ref b1), .unset, .unset, .unset, .unset, .unset, .unset, .unset] [])) (fun _ k => XS.astore X2.here hx rfl (hb hby at_8) rfl rfl (l' := #[.val (.long q0), .second, .val (.long q1), .second, .val (.int p2), .val (.int p3), .val (.ref b1), .unset, .unset, .unset, .unset, .unset, .unset, .unset]) rfl k) ?_
  obtain ⟨T4, h4, X4, e4, E4, A4, D4, -, st4⟩ := newO X2 hx hZ hown (hw _ (List.mem_of_getElem? (i := 0) rfl)) (hw _ (List.mem_of_getElem? (i := 1) rfl)) (hw _ (List.mem_of_getElem? (i := 2) rfl)) rfl (g := (mkF m 10 #[.val (.long q0), .second, .val (.long q1), .second, .val (.int p2), .val (.int p3), .val (.ref b1), .unset, .unset, .unset, .unset, .unset, .unset, .unset] [])) rfl (hb hby at_10) (by decide) (by decide)
  obtain ⟨b4, g4⟩ : ∃ z, z = T2.heap.size := ⟨_, rfl⟩
  rw [← g4] at A4 D4 st4
  have ne_b1_b4 : b1 ≠ b4 := Nat.ne_of_lt (Nat.lt_of_lt_of_le Ei2.lt (Nat.le_of_eq g4.symm))
  have ne_c2_b4 : c2 ≠ b4 := Nat.ne_of_lt (Nat.lt_of_lt_of_le Ac2.lt (Nat.le_of_eq g4.symm))
  have g_b4 : n0 ≤ b4 := Nat.le_trans (Nat.le_trans (Nat.le_trans Z0 E1.1) K2.1) (Nat.le_of_eq g4.symm)
  have sz_b4 : h0.size ≤ b4 := Nat.le_trans Q3.1 (Nat.le_of_eq g4.symm)
  have F4_cells : Fld Z h4 b4 "com/example/rhadamanthus/rhadamanthus/learn/Histogram" "cells" "[D" .null := D4 (Or.inr (hw _ (List.mem_of_getElem? (i := 11) rfl))) (ty := (.array .double)) (by decide)
  refine Go.step (g' := (mkF m 13 #[.val (.long q0), .second, .val (.long q1), .second, .val (.int p2), .val (.int p3), .val (.ref b1), .unset, .unset, .unset, .unset, .unset, .unset, .unset] [(.ref b4)])) st4 ?_
  have Q5 := (Nat.le_trans (Nat.le_trans (Nat.le_trans Z0 E1.1) K2.1) E4.1)
  refine Go.step (g' := (mkF m 14 #[.val (.long q0), .second, .val (.long q1), .second, .val (.int p2), .val (.int p3), .val (.ref b1), .unset, .unset, .unset, .unset, .unset, .unset, .unset] [(.ref b4), (.ref b4)])) (fun _ k => XS.dup X4.here hx rfl (hb hby at_13) rfl rfl k) ?_
  refine Go.step (g' := (mkF m 15 #[.val (.long q0), .second, .val (.long q1), .second, .val (.int p2), .val (.int p3), .val (.ref b1), .unset, .unset, .unset, .unset, .unset, .unset, .unset] [(.int (4 : Int32)), (.ref b4), (.ref b4)])) (fun _ k => XS.iconst X4.here hx rfl (hb hby at_14) k) ?_
  obtain ⟨_, _, ⟨T6, L6, k6, n6⟩, -, X6, ⟨Lc6, hQ6, l6, y6, z6⟩, st6⟩ := X4.specialBack hx (y := (⟨"com/example/rhadamanthus/rhadamanthus/learn/Histogram", "<init>", "(I)V"⟩ : MethodName)) rfl hown (mvT hZ (hw _ (List.mem_of_getElem? (i := 3) rfl))) (mvT hZ (hw _ (List.mem_of_getElem? (i := 4) rfl))) (mvT hZ (hw _ (List.mem_of_getElem? (i := 5) rfl))) (by decide) (backOf (W := 1) (rm1 l Z a0 hw [] b4 (4 : Int32) h4 n0 Q5 A4 g_b4 F4_cells rfl) hZ (hw _ (List.mem_of_getElem? (i := 5) rfl)) (hw _ (List.mem_of_getElem? (i := 2) rfl)) (by decide) (by decide)) (g := (mkF m 15 #[.val (.long q0), .second, .val (.long q1), .second, .val (.int p2), .val (.int p3), .val (.ref b1), .unset, .unset, .unset, .unset, .unset, .unset, .unset] [(.int (4 : Int32)), (.ref b4), (.ref b4)])) rfl (by rw [hml]; rfl) (Steps.refl _) (a := b4) (argsL := [(.int (4 : Int32))]) (rest := [(.ref b4)]) (lenOf pd_1 rfl) rfl (by show 2 * 0 + _ ≤ _; exact Nat.le_of_eq rfl) (hb hby at_15) (fun _ _ => ⟨rfl, e4, (by decide : (((0 + 1) + 1) + 1) + 1 ≤ _), (by decide : (((0 + 4) + 8) + 4) + 8 ≤ _)⟩)
  dsimp only [Pt.U, Pt.locs, Pt.cells, Pt.slots] at X6 l6 y6 z6 st6 hQ6
  subst l6 y6 z6
  obtain ⟨rfl, N6q, K6, Ei6, c6, sc6, Fc6, Ac6⟩ := hQ6
  obtain ⟨lc6, X6, N6⟩ := own_pack X6 (Fr.app N2 N6q)
  have ne_b1_c6 : b1 ≠ c6 := Nat.ne_of_lt (Nat.lt_of_lt_of_le (Ei2.ext E4).lt sc6)
  have ne_c2_c6 : c2 ≠ c6 := Nat.ne_of_lt (Nat.lt_of_lt_of_le (Ac2.ext E4).lt sc6)
  have ne_b4_c6 : b4 ≠ c6 := Nat.ne_of_lt (Nat.lt_of_lt_of_le A4.lt sc6)
  have g_c6 : n0 ≤ c6 := Nat.le_trans Q5 sc6
  have sz_c6 : h0.size ≤ c6 := Nat.le_trans (Q3.ext E4).1 sc6
  refine Go.step (g' := (mkF m 18 #[.val (.long q0), .second, .val (.long q1), .second, .val (.int p2), .val (.int p3), .val (.ref b1), .unset, .unset, .unset, .unset, .unset, .unset, .unset] [(.ref b4)])) (fun _ k => st6.trans k) ?_
  refine Go.step (g' := (mkF m 20 #[.val (.long q0), .second, .val (.long q1), .second, .val (.int p2), .val (.int p3), .val (.ref b1), .val (.ref b4), .unset, .unset, .unset, .unset, .unset, .unset] [])) (fun _ k => XS.astore X6.here hx rfl (hb hby at_18) rfl rfl (l' := #[.val (.long q0), .second, .val (.long q1), .second, .val (.int p2), .val (.int p3), .val (.ref b1), .val (.ref b4), .unset, .unset, .unset, .unset, .unset, .unset]) rfl k) ?_
  refine Go.step (g' := (mkF m 22 #[.val (.long q0), .second, .val (.long q1), .second, .val (.int p2), .val (.int p3), .val (.ref b1), .val (.ref b4), .unset, .unset, .unset, .unset, .unset, .unset] [(.ref b1)])) (fun _ k => XS.aload X6.here hx rfl (hb hby at_20) rfl rfl  k) ?_
  obtain ⟨cq7, kq7, q7a, q7b, q7c⟩ := isOf hZ rfl ((Ei2.ext E4).keep K6)
  obtain ⟨_, _, ⟨T7, L7, k7, n7⟩, -, X7, ⟨Lc7, hQ7, l7, y7, z7⟩, st7⟩ := X6.virtualBack hx (y := (⟨"com/example/rhadamanthus/rhadamanthus/learn/Histogram", "cells", "()[D"⟩ : MethodName)) (z := (⟨"com/example/rhadamanthus/rhadamanthus/learn/Histogram", "cells", "()[D"⟩ : MethodName)) hown (mvT hZ (hw _ (List.mem_of_getElem? (i := 12) rfl))) (mvT hZ (hw _ (List.mem_of_getElem? (i := 13) rfl))) (notFace_of_selects (args := #[]) (mvT hZ (hw _ (List.mem_of_getElem? (i := 15) rfl)))) (mvT hZ (hw _ (List.mem_of_getElem? (i := 15) rfl))) (mvT hZ (hw _ (List.mem_of_getElem? (i := 14) rfl))) (by decide) (backOf (W := 0) (rm3 l Z a0 hw [] b1 c2 T6.heap ((Fc2.ext E4).keep K6 (ninS ne_b1_b4 nin0))) hZ (hw _ (List.mem_of_getElem? (i := 16) rfl)) (hw _ (List.mem_of_getElem? (i := 2) rfl)) (by decide) (by decide)) q7a q7c (g := (mkF m 22 #[.val (.long q0), .second, .val (.long q1), .second, .val (.int p2), .val (.int p3), .val (.ref b1), .val (.ref b4), .unset, .unset, .unset, .unset, .unset, .unset] [(.ref b1)])) rfl (by rw [hml]; rfl) (Steps.refl _) (argsL := []) (rest := []) (lenOf pd_2 rfl) rfl (by show 2 * 0 + _ ≤ _; exact Nat.le_of_eq rfl) (hb hby at_22) (fun _ _ => ⟨rfl, rfl, (by decide : ((((0 + 1) + 1) + 1) + 1) + 0 ≤ _), (by decide : ((((0 + 4) + 8) + 4) + 8) + 0 ≤ _)⟩)
  dsimp only [Pt.U, Pt.locs, Pt.cells, Pt.slots] at X7 l7 y7 z7 st7 hQ7
  subst l7 y7 z7
  obtain ⟨rfl, rfl, e7⟩ := hQ7
  try rw [List.append_nil] at X7
  refine Go.step (g' := (mkF m 25 #[.val (.long q0), .second, .val (.long q1), .second, .val (.int p2), .val (.int p3), .val (.ref b1), .val (.ref b4), .unset, .unset, .unset, .unset, .unset, .unset] [(.ref c2)])) (fun _ k => st7.trans k) ?_
  refine Go.step (g' := (mkF m 27 #[.val (.long q0), .second, .val (.long q1), .second, .val (.int p2), .val (.int p3), .val (.ref b1), .val (.ref b4), .val (.ref c2), .unset, .unset, .unset, .unset, .unset] [])) (fun _ k => XS.astore X7.here hx rfl (hb hby at_25) rfl rfl (l' := #[.val (.long q0), .second, .val (.long q1), .second, .val (.int p2), .val (.int p3), .val (.ref b1), .val (.ref b4), .val (.ref c2), .unset, .unset, .unset, .unset, .unset]) rfl k) ?_
  refine Go.step (g' := (mkF m 29 #[.val (.long q0), .second, .val (.long q1), .second, .val (.int p2), .val (.int p3), .val (.ref b1), .val (.ref b4), .val (.ref c2), .unset, .unset, .unset, .unset, .unset] [(.ref b4)])) (fun _ k => XS.aload X7.here hx rfl (hb hby at_27) rfl rfl  k) ?_
  obtain ⟨cq8, kq8, q8a, q8b, q8c⟩ := isOf hZ e7 Ei6
  obtain ⟨_, _, ⟨T8, L8, k8, n8⟩, -, X8, ⟨Lc8, hQ8, l8, y8, z8⟩, st8⟩ := X7.virtualBack hx (y := (⟨"com/example/rhadamanthus/rhadamanthus/learn/Histogram", "cells", "()[D"⟩ : MethodName)) (z := (⟨"com/example/rhadamanthus/rhadamanthus/learn/Histogram", "cells", "()[D"⟩ : MethodName)) hown (mvT hZ (hw _ (List.mem_of_getElem? (i := 12) rfl))) (mvT hZ (hw _ (List.mem_of_getElem? (i := 13) rfl))) (notFace_of_selects (args := #[]) (mvT hZ (hw _ (List.mem_of_getElem? (i := 15) rfl)))) (mvT hZ (hw _ (List.mem_of_getElem? (i := 15) rfl))) (mvT hZ (hw _ (List.mem_of_getElem? (i := 14) rfl))) (by decide) (backOf (W := 0) (rm3 l Z a0 hw [] b4 c6 T6.heap Fc6) hZ (hw _ (List.mem_of_getElem? (i := 16) rfl)) (hw _ (List.mem_of_getElem? (i := 2) rfl)) (by decide) (by decide)) q8a q8c (g := (mkF m 29 #[.val (.long q0), .second, .val (.long q1), .second, .val (.int p2), .val (.int p3), .val (.ref b1), .val (.ref b4), .val (.ref c2), .unset, .unset, .unset, .unset, .unset] [(.ref b4)])) rfl (by rw [hml]; rfl) (Steps.refl _) (argsL := []) (rest := []) (lenOf pd_2 rfl) rfl (by show 2 * 0 + _ ≤ _; exact Nat.le_of_eq rfl) (hb hby at_29) (fun _ _ => ⟨rfl, e7, (by decide : ((((0 + 1) + 1) + 1) + 1) + 0 ≤ _), (by decide : ((((0 + 4) + 8) + 4) + 8) + 0 ≤ _)⟩)
  dsimp only [Pt.U, Pt.locs, Pt.cells, Pt.slots] at X8 l8 y8 z8 st8 hQ8
  subst l8 y8 z8
  obtain ⟨rfl, rfl, e8⟩ := hQ8
  try rw [List.append_nil] at X8
  refine Go.step (g' := (mkF m 32 #[.val (.long q0), .second, .val (.long q1), .second, .val (.int p2), .val (.int p3), .val (.ref b1), .val (.ref b4), .val (.ref c2), .unset, .unset, .unset, .unset, .unset] [(.ref c6)])) (fun _ k => st8.trans k) ?_
  refine Go.step (g' := (mkF m 34 #[.val (.long q0), .second, .val (.long q1), .second, .val (.int p2), .val (.int p3), .val (.ref b1), .val (.ref b4), .val (.ref c2), .val (.ref c6), .unset, .unset, .unset, .unset] [])) (fun _ k => XS.astore X8.here hx rfl (hb hby at_32) rfl rfl (l' := #[.val (.long q0), .second, .val (.long q1), .second, .val (.int p2), .val (.int p3), .val (.ref b1), .val (.ref b4), .val (.ref c2), .val (.ref c6), .unset, .unset, .unset, .unset]) rfl k) ?_
  refine Go.step (g' := (mkF m 36 #[.val (.long q0), .second, .val (.long q1), .second, .val (.int p2), .val (.int p3), .val (.ref b1), .val (.ref b4), .val (.ref c2), .val (.ref c6), .unset, .unset, .unset, .unset] [(.ref c2)])) (fun _ k => XS.aload X8.here hx rfl (hb hby at_34) rfl rfl  k) ?_
  refine Go.step (g' := (mkF m 37 #[.val (.long q0), .second, .val (.long q1), .second, .val (.int p2), .val (.int p3), .val (.ref b1), .val (.ref b4), .val (.ref c2), .val (.ref c6), .unset, .unset, .unset, .unset] [(.int (8 : Int32))])) (fun _ k => getLen X8 hx hZ e8 ((Ac2.ext E4).keep K6 (ninS ne_c2_b4 nin0)) rfl (gf := (mkF m 36 #[.val (.long q0), .second, .val (.long q1), .second, .val (.int p2), .val (.int p3), .val (.ref b1), .val (.ref b4), .val (.ref c2), .val (.ref c6), .unset, .unset, .unset, .unset] [(.ref c2)])) rfl rfl (hb hby at_36) k) ?_
  refine Go.step (g' := (mkF m 39 #[.val (.long q0), .second, .val (.long q1), .second, .val (.int p2), .val (.int p3), .val (.ref b1), .val (.ref b4), .val (.ref c2), .val (.ref c6), .unset, .unset, .unset, .unset] [(.int (8 : Int32)), (.int (8 : Int32))])) (fun _ k => XS.bipush X8.here hx rfl (hb hby at_37) k) ?_
  refine Go.step (g' := (mkF m 42 #[.val (.long q0), .second, .val (.long q1), .second, .val (.int p2), .val (.int p3), .val (.ref b1), .val (.ref b4), .val (.ref c2), .val (.ref c6), .unset, .unset, .unset, .unset] [])) (fun _ k => XS.icmpNo X8.here hx rfl (hb hby at_39) rfl (teq (by decide : (8 : Int32) = (8 : Int32))).2 k) ?_
  rw [show f0_0 = f0_42 from rfl]
  refine Go.step (g' := (mkF m 44 #[.val (.long q0), .second, .val (.long q1), .second, .val (.int p2), .val (.int p3), .val (.ref b1), .val (.ref b4), .val (.ref c2), .val (.ref c6), .unset, .unset, .unset, .unset] [(.ref c6)])) (fun _ k => XS.aload X8.here hx rfl (hb hby at_42) rfl rfl  k) ?_
  refine Go.step (g' := (mkF m 45 #[.val (.long q0), .second, .val (.long q1), .second, .val (.int p2), .val (.int p3), .val (.ref b1), .val (.ref b4), .val (.ref c2), .val (.ref c6), .unset, .unset, .unset, .unset] [(.int (8 : Int32))])) (fun _ k => getLen X8 hx hZ e8 Ac6 rfl (gf := (mkF m 44 #[.val (.long q0), .second, .val (.long q1), .second, .val (.int p2), .val (.int p3), .val (.ref b1), .val (.ref b4), .val (.ref c2), .val (.ref c6), .unset, .unset, .unset, .unset] [(.ref c6)])) rfl rfl (hb hby at_44) k) ?_
  refine Go.step (g' := (mkF m 47 #[.val (.long q0), .second, .val (.long q1), .second, .val (.int p2), .val (.int p3), .val (.ref b1), .val (.ref b4), .val (.ref c2), .val (.ref c6), .unset, .unset, .unset, .unset] [(.int (8 : Int32)), (.int (8 : Int32))])) (fun _ k => XS.bipush X8.here hx rfl (hb hby at_45) k) ?_
  refine Go.step (g' := (mkF m 52 #[.val (.long q0), .second, .val (.long q1), .second, .val (.int p2), .val (.int p3), .val (.ref b1), .val (.ref b4), .val (.ref c2), .val (.ref c6), .unset, .unset, .unset, .unset] [])) (fun _ k => XS.icmpYes X8.here hx rfl (pc0 := 47) (pc' := 52) rfl (hb hby at_47) rfl (teq (by decide : (8 : Int32) = (8 : Int32))).1 (by decide) (by decide) k) ?_
  rw [show f0_42 = f0_52 from rfl]
  refine Go.step (g' := (mkF m 54 #[.val (.long q0), .second, .val (.long q1), .second, .val (.int p2), .val (.int p3), .val (.ref b1), .val (.ref b4), .val (.ref c2), .val (.ref c6), .unset, .unset, .unset, .unset] [(.ref c2)])) (fun _ k => XS.aload X8.here hx rfl (hb hby at_52) rfl rfl  k) ?_
  refine Go.step (g' := (mkF m 55 #[.val (.long q0), .second, .val (.long q1), .second, .val (.int p2), .val (.int p3), .val (.ref b1), .val (.ref b4), .val (.ref c2), .val (.ref c6), .unset, .unset, .unset, .unset] [(.long q0), (.ref c2)])) (fun _ k => XS.lloadN X8.here hx rfl (hb hby at_54) rfl  k) ?_
  obtain ⟨_, _, ⟨T9, L9, k9, n9⟩, -, X9, ⟨Lc9, hQ9, l9, y9, z9⟩, st9⟩ := Jvm.LawKit.callS X8 hx (y := (⟨"com/example/rhadamanthus/rhadamanthus/learn/HistogramSubtractColumnsPinLaw", "fill", "([DJ)V"⟩ : MethodName)) hown (mvT hZ (hw _ (List.mem_of_getElem? (i := 17) rfl))) (mvT hZ (hw _ (List.mem_of_getElem? (i := 18) rfl))) (mvT hZ (hw _ (List.mem_of_getElem? (i := 19) rfl))) (mvT hZ (hw _ (List.mem_of_getElem? (i := 20) rfl))) (by decide) (backOf (W := 0) (rm4 l Z a0 hw [] c2 q0 (fun _ => (0 : UInt64)) T6.heap n0 (Nat.le_trans Q5 K6.1) ((Ac2.ext E4).keep K6 (ninS ne_c2_b4 nin0)) g_c2) hZ (hw _ (List.mem_of_getElem? (i := 20) rfl)) (hw _ (List.mem_of_getElem? (i := 19) rfl)) (by decide) (by decide)) (g := (mkF m 55 #[.val (.long q0), .second, .val (.long q1), .second, .val (.int p2), .val (.int p3), .val (.ref b1), .val (.ref b4), .val (.ref c2), .val (.ref c6), .unset, .unset, .unset, .unset] [(.long q0), (.ref c2)])) rfl (by rw [hml]; rfl) (argsL := [(.ref c2), (.long q0)]) (rest := []) (lenOf pd_3 rfl) rfl (by show 2 * 0 + _ ≤ _; exact Nat.le_of_eq rfl) (hb hby at_55) (fun _ _ => ⟨rfl, e8, (by decide : ((((0 + 1) + 1) + 1) + 1) + 0 ≤ _), (by decide : ((((0 + 4) + 8) + 4) + 8) + 0 ≤ _)⟩)
  dsimp only [Pt.U, Pt.locs, Pt.cells, Pt.slots] at X9 l9 y9 z9 st9 hQ9
  subst l9 y9 z9
  obtain ⟨rfl, N9q, K9, Ac9⟩ := hQ9
  obtain ⟨lc9, X9, N9⟩ := own_pack X9 (Fr.app N6 N9q)
  have Q10 := (((Fc2.ext E4).keep K6 (ninS ne_b1_b4 nin0)).keep K9 (ninS ne_b1_c2 nin0))
  have Q11 := (((Q3.ext E4).trans K6 (allS (Or.inr sz_b4) all0)).trans K9 (allS (Or.inr sz_c2) all0))
  refine Go.step (g' := (mkF m 58 #[.val (.long q0), .second, .val (.long q1), .second, .val (.int p2), .val (.int p3), .val (.ref b1), .val (.ref b4), .val (.ref c2), .val (.ref c6), .unset, .unset, .unset, .unset] [])) st9 ?_
  refine Go.step (g' := (mkF m 60 #[.val (.long q0), .second, .val (.long q1), .second, .val (.int p2), .val (.int p3), .val (.ref b1), .val (.ref b4), .val (.ref c2), .val (.ref c6), .unset, .unset, .unset, .unset] [(.ref c6)])) (fun _ k => XS.aload X9.here hx rfl (hb hby at_58) rfl rfl  k) ?_
  refine Go.step (g' := (mkF m 61 #[.val (.long q0), .second, .val (.long q1), .second, .val (.int p2), .val (.int p3), .val (.ref b1), .val (.ref b4), .val (.ref c2), .val (.ref c6), .unset, .unset, .unset, .unset] [(.long q1), (.ref c6)])) (fun _ k => XS.lloadN X9.here hx rfl (hb hby at_60) rfl  k) ?_
  obtain ⟨_, _, ⟨T12, L12, k12, n12⟩, -, X12, ⟨Lc12, hQ12, l12, y12, z12⟩, st12⟩ := Jvm.LawKit.callS X9 hx (y := (⟨"com/example/rhadamanthus/rhadamanthus/learn/HistogramSubtractColumnsPinLaw", "fill", "([DJ)V"⟩ : MethodName)) hown (mvT hZ (hw _ (List.mem_of_getElem? (i := 17) rfl))) (mvT hZ (hw _ (List.mem_of_getElem? (i := 18) rfl))) (mvT hZ (hw _ (List.mem_of_getElem? (i := 19) rfl))) (mvT hZ (hw _ (List.mem_of_getElem? (i := 20) rfl))) (by decide) (backOf (W := 0) (rm4 l Z a0 hw [] c6 q1 (fun _ => (0 : UInt64)) T9.heap n0 (Nat.le_trans (Nat.le_trans Q5 K6.1) K9.1) (Ac6.keep K9 (ninS (Ne.symm ne_c2_c6) nin0)) g_c6) hZ (hw _ (List.mem_of_getElem? (i := 20) rfl)) (hw _ (List.mem_of_getElem? (i := 19) rfl)) (by decide) (by decide)) (g := (mkF m 61 #[.val (.long q0), .second, .val (.long q1), .second, .val (.int p2), .val (.int p3), .val (.ref b1), .val (.ref b4), .val (.ref c2), .val (.ref c6), .unset, .unset, .unset, .unset] [(.long q1), (.ref c6)])) rfl (by rw [hml]; rfl) (argsL := [(.ref c6), (.long q1)]) (rest := []) (lenOf pd_3 rfl) rfl (by show 2 * 0 + _ ≤ _; exact Nat.le_of_eq rfl) (hb hby at_61) (fun _ _ => ⟨rfl, rfl, (by decide : (((((0 + 1) + 1) + 1) + 1) + 0) + 0 ≤ _), (by decide : (((((0 + 4) + 8) + 4) + 8) + 0) + 0 ≤ _)⟩)
  dsimp only [Pt.U, Pt.locs, Pt.cells, Pt.slots] at X12 l12 y12 z12 st12 hQ12
  subst l12 y12 z12
  obtain ⟨rfl, N12q, K12, Ac12⟩ := hQ12
  obtain ⟨lc12, X12, N12⟩ := own_pack X12 (Fr.app N9 N12q)
  have Q13 := ((Fc6.keep K9 (ninS (Ne.symm ne_c2_b4) nin0)).keep K12 (ninS ne_b4_c6 nin0))
  have Q14 := (Nat.le_trans (Nat.le_trans (Nat.le_trans Q5 K6.1) K9.1) K12.1)
  refine Go.step (g' := (mkF m 64 #[.val (.long q0), .second, .val (.long q1), .second, .val (.int p2), .val (.int p3), .val (.ref b1), .val (.ref b4), .val (.ref c2), .val (.ref c6), .unset, .unset, .unset, .unset] [])) st12 ?_
  refine Go.step (g' := (mkF m 66 #[.val (.long q0), .second, .val (.long q1), .second, .val (.int p2), .val (.int p3), .val (.ref b1), .val (.ref b4), .val (.ref c2), .val (.ref c6), .unset, .unset, .unset, .unset] [(.int p2)])) (fun _ k => XS.iload X12.here hx rfl (hb hby at_64) rfl  k) ?_
  refine Go.step (g' := (mkF m 68 #[.val (.long q0), .second, .val (.long q1), .second, .val (.int p2), .val (.int p3), .val (.ref b1), .val (.ref b4), .val (.ref c2), .val (.ref c6), .unset, .unset, .unset, .unset] [(.int (2147483647 : Int32)), (.int p2)])) (fun _ k => X12.ldcI hx hown (mvT hZ (hw _ (List.mem_of_getElem? (i := 24) rfl))) rfl (hb hby at_66) k) ?_
  refine Go.step (g' := (mkF m 69 #[.val (.long q0), .second, .val (.long q1), .second, .val (.int p2), .val (.int p3), .val (.ref b1), .val (.ref b4), .val (.ref c2), .val (.ref c6), .unset, .unset, .unset, .unset] [(.int (p2 &&& (2147483647 : Int32)))])) (fun _ k => XS.iand X12.here hx rfl (hb hby at_68) rfl k) ?_
  refine Go.step (g' := (mkF m 70 #[.val (.long q0), .second, .val (.long q1), .second, .val (.int p2), .val (.int p3), .val (.ref b1), .val (.ref b4), .val (.ref c2), .val (.ref c6), .unset, .unset, .unset, .unset] [(.int (5 : Int32)), (.int (p2 &&& (2147483647 : Int32)))])) (fun _ k => XS.iconst X12.here hx rfl (hb hby at_69) k) ?_
  refine Go.step (g' := (mkF m 71 #[.val (.long q0), .second, .val (.long q1), .second, .val (.int p2), .val (.int p3), .val (.ref b1), .val (.ref b4), .val (.ref c2), .val (.ref c6), .unset, .unset, .unset, .unset] [(.int ((p2 &&& (2147483647 : Int32)) % (5 : Int32)))])) (fun _ k => Jvm.RoadKit.iremM X12 hx rfl (hb hby at_70) rfl (by decide) k) ?_
  refine Go.step (g' := (mkF m 73 #[.val (.long q0), .second, .val (.long q1), .second, .val (.int p2), .val (.int p3), .val (.ref b1), .val (.ref b4), .val (.ref c2), .val (.ref c6), .val (.int ((p2 &&& (2147483647 : Int32)) % (5 : Int32))), .unset, .unset, .unset] [])) (fun _ k => XS.istore X12.here hx rfl (hb hby at_71) rfl (l' := #[.val (.long q0), .second, .val (.long q1), .second, .val (.int p2), .val (.int p3), .val (.ref b1), .val (.ref b4), .val (.ref c2), .val (.ref c6), .val (.int ((p2 &&& (2147483647 : Int32)) % (5 : Int32))), .unset, .unset, .unset]) rfl k) ?_
  refine Go.step (g' := (mkF m 75 #[.val (.long q0), .second, .val (.long q1), .second, .val (.int p2), .val (.int p3), .val (.ref b1), .val (.ref b4), .val (.ref c2), .val (.ref c6), .val (.int ((p2 &&& (2147483647 : Int32)) % (5 : Int32))), .unset, .unset, .unset] [(.int p3)])) (fun _ k => XS.iload X12.here hx rfl (hb hby at_73) rfl  k) ?_
  refine Go.step (g' := (mkF m 77 #[.val (.long q0), .second, .val (.long q1), .second, .val (.int p2), .val (.int p3), .val (.ref b1), .val (.ref b4), .val (.ref c2), .val (.ref c6), .val (.int ((p2 &&& (2147483647 : Int32)) % (5 : Int32))), .unset, .unset, .unset] [(.int (2147483647 : Int32)), (.int p3)])) (fun _ k => X12.ldcI hx hown (mvT hZ (hw _ (List.mem_of_getElem? (i := 24) rfl))) rfl (hb hby at_75) k) ?_
  refine Go.step (g' := (mkF m 78 #[.val (.long q0), .second, .val (.long q1), .second, .val (.int p2), .val (.int p3), .val (.ref b1), .val (.ref b4), .val (.ref c2), .val (.ref c6), .val (.int ((p2 &&& (2147483647 : Int32)) % (5 : Int32))), .unset, .unset, .unset] [(.int (p3 &&& (2147483647 : Int32)))])) (fun _ k => XS.iand X12.here hx rfl (hb hby at_77) rfl k) ?_
  refine Go.step (g' := (mkF m 79 #[.val (.long q0), .second, .val (.long q1), .second, .val (.int p2), .val (.int p3), .val (.ref b1), .val (.ref b4), .val (.ref c2), .val (.ref c6), .val (.int ((p2 &&& (2147483647 : Int32)) % (5 : Int32))), .unset, .unset, .unset] [(.int (5 : Int32)), (.int (p3 &&& (2147483647 : Int32)))])) (fun _ k => XS.iconst X12.here hx rfl (hb hby at_78) k) ?_
  refine Go.step (g' := (mkF m 80 #[.val (.long q0), .second, .val (.long q1), .second, .val (.int p2), .val (.int p3), .val (.ref b1), .val (.ref b4), .val (.ref c2), .val (.ref c6), .val (.int ((p2 &&& (2147483647 : Int32)) % (5 : Int32))), .unset, .unset, .unset] [(.int ((p3 &&& (2147483647 : Int32)) % (5 : Int32)))])) (fun _ k => Jvm.RoadKit.iremM X12 hx rfl (hb hby at_79) rfl (by decide) k) ?_
  refine Go.step (g' := (mkF m 82 #[.val (.long q0), .second, .val (.long q1), .second, .val (.int p2), .val (.int p3), .val (.ref b1), .val (.ref b4), .val (.ref c2), .val (.ref c6), .val (.int ((p2 &&& (2147483647 : Int32)) % (5 : Int32))), .val (.int ((p3 &&& (2147483647 : Int32)) % (5 : Int32))), .unset, .unset] [])) (fun _ k => XS.istore X12.here hx rfl (hb hby at_80) rfl (l' := #[.val (.long q0), .second, .val (.long q1), .second, .val (.int p2), .val (.int p3), .val (.ref b1), .val (.ref b4), .val (.ref c2), .val (.ref c6), .val (.int ((p2 &&& (2147483647 : Int32)) % (5 : Int32))), .val (.int ((p3 &&& (2147483647 : Int32)) % (5 : Int32))), .unset, .unset]) rfl k) ?_
  refine Go.step (g' := (mkF m 84 #[.val (.long q0), .second, .val (.long q1), .second, .val (.int p2), .val (.int p3), .val (.ref b1), .val (.ref b4), .val (.ref c2), .val (.ref c6), .val (.int ((p2 &&& (2147483647 : Int32)) % (5 : Int32))), .val (.int ((p3 &&& (2147483647 : Int32)) % (5 : Int32))), .unset, .unset] [(.int ((p2 &&& (2147483647 : Int32)) % (5 : Int32)))])) (fun _ k => XS.iload X12.here hx rfl (hb hby at_82) rfl  k) ?_
  refine Go.step (g' := (mkF m 86 #[.val (.long q0), .second, .val (.long q1), .second, .val (.int p2), .val (.int p3), .val (.ref b1), .val (.ref b4), .val (.ref c2), .val (.ref c6), .val (.int ((p2 &&& (2147483647 : Int32)) % (5 : Int32))), .val (.int ((p3 &&& (2147483647 : Int32)) % (5 : Int32))), .unset, .unset] [(.int ((p3 &&& (2147483647 : Int32)) % (5 : Int32))), (.int ((p2 &&& (2147483647 : Int32)) % (5 : Int32)))])) (fun _ k => XS.iload X12.here hx rfl (hb hby at_84) rfl  k) ?_
  obtain ⟨_, _, ⟨T15, L15, k15, n15⟩, -, X15, ⟨Lc15, hQ15, l15, y15, z15⟩, st15⟩ := Jvm.LawKit.callS X12 hx (y := (⟨"java/lang/Math", "min", "(II)I"⟩ : MethodName)) hown (mvT hZ (hw _ (List.mem_of_getElem? (i := 25) rfl))) (mvT hZ (hw _ (List.mem_of_getElem? (i := 26) rfl))) (mvT hZ (hw _ (List.mem_of_getElem? (i := 27) rfl))) (mvT hZ (hw _ (List.mem_of_getElem? (i := 28) rfl))) (by decide) (backOf (W := 0) (rm6 l Z a0 hw [] ((p2 &&& (2147483647 : Int32)) % (5 : Int32)) ((p3 &&& (2147483647 : Int32)) % (5 : Int32)) T12.heap ) hZ (hw _ (List.mem_of_getElem? (i := 28) rfl)) (hw _ (List.mem_of_getElem? (i := 27) rfl)) (by decide) (by decide)) (g := (mkF m 86 #[.val (.long q0), .second, .val (.long q1), .second, .val (.int p2), .val (.int p3), .val (.ref b1), .val (.ref b4), .val (.ref c2), .val (.ref c6), .val (.int ((p2 &&& (2147483647 : Int32)) % (5 : Int32))), .val (.int ((p3 &&& (2147483647 : Int32)) % (5 : Int32))), .unset, .unset] [(.int ((p3 &&& (2147483647 : Int32)) % (5 : Int32))), (.int ((p2 &&& (2147483647 : Int32)) % (5 : Int32)))])) rfl (by rw [hml]; rfl) (argsL := [(.int ((p2 &&& (2147483647 : Int32)) % (5 : Int32))), (.int ((p3 &&& (2147483647 : Int32)) % (5 : Int32)))]) (rest := []) (lenOf pd_4 rfl) rfl (by show 2 * 0 + _ ≤ _; exact Nat.le_of_eq rfl) (hb hby at_86) (fun _ _ => ⟨rfl, rfl, (by decide : ((((((0 + 1) + 1) + 1) + 1) + 0) + 0) + 0 ≤ _), (by decide : ((((((0 + 4) + 8) + 4) + 8) + 0) + 0) + 0 ≤ _)⟩)
  dsimp only [Pt.U, Pt.locs, Pt.cells, Pt.slots] at X15 l15 y15 z15 st15 hQ15
  subst l15 y15 z15
  obtain ⟨rfl, rfl, e15⟩ := hQ15
  try rw [List.append_nil] at X15
  refine Go.step (g' := (mkF m 89 #[.val (.long q0), .second, .val (.long q1), .second, .val (.int p2), .val (.int p3), .val (.ref b1), .val (.ref b4), .val (.ref c2), .val (.ref c6), .val (.int ((p2 &&& (2147483647 : Int32)) % (5 : Int32))), .val (.int ((p3 &&& (2147483647 : Int32)) % (5 : Int32))), .unset, .unset] [(.int (f6_0 ((p2 &&& (2147483647 : Int32)) % (5 : Int32)) ((p3 &&& (2147483647 : Int32)) % (5 : Int32))))])) st15 ?_
  refine Go.step (g' := (mkF m 91 #[.val (.long q0), .second, .val (.long q1), .second, .val (.int p2), .val (.int p3), .val (.ref b1), .val (.ref b4), .val (.ref c2), .val (.ref c6), .val (.int ((p2 &&& (2147483647 : Int32)) % (5 : Int32))), .val (.int ((p3 &&& (2147483647 : Int32)) % (5 : Int32))), .val (.int (f6_0 ((p2 &&& (2147483647 : Int32)) % (5 : Int32)) ((p3 &&& (2147483647 : Int32)) % (5 : Int32)))), .unset] [])) (fun _ k => XS.istore X15.here hx rfl (hb hby at_89) rfl (l' := #[.val (.long q0), .second, .val (.long q1), .second, .val (.int p2), .val (.int p3), .val (.ref b1), .val (.ref b4), .val (.ref c2), .val (.ref c6), .val (.int ((p2 &&& (2147483647 : Int32)) % (5 : Int32))), .val (.int ((p3 &&& (2147483647 : Int32)) % (5 : Int32))), .val (.int (f6_0 ((p2 &&& (2147483647 : Int32)) % (5 : Int32)) ((p3 &&& (2147483647 : Int32)) % (5 : Int32)))), .unset]) rfl k) ?_
  generalize hfi : (f6_0 ((p2 &&& (2147483647 : Int32)) % (5 : Int32)) ((p3 &&& (2147483647 : Int32)) % (5 : Int32))) = fi
  refine Go.step (g' := (mkF m 93 #[.val (.long q0), .second, .val (.long q1), .second, .val (.int p2), .val (.int p3), .val (.ref b1), .val (.ref b4), .val (.ref c2), .val (.ref c6), .val (.int ((p2 &&& (2147483647 : Int32)) % (5 : Int32))), .val (.int ((p3 &&& (2147483647 : Int32)) % (5 : Int32))), .val (.int fi), .unset] [(.int ((p2 &&& (2147483647 : Int32)) % (5 : Int32)))])) (fun _ k => XS.iload X15.here hx rfl (hb hby at_91) rfl  k) ?_
  refine Go.step (g' := (mkF m 95 #[.val (.long q0), .second, .val (.long q1), .second, .val (.int p2), .val (.int p3), .val (.ref b1), .val (.ref b4), .val (.ref c2), .val (.ref c6), .val (.int ((p2 &&& (2147483647 : Int32)) % (5 : Int32))), .val (.int ((p3 &&& (2147483647 : Int32)) % (5 : Int32))), .val (.int fi), .unset] [(.int ((p3 &&& (2147483647 : Int32)) % (5 : Int32))), (.int ((p2 &&& (2147483647 : Int32)) % (5 : Int32)))])) (fun _ k => XS.iload X15.here hx rfl (hb hby at_93) rfl  k) ?_
  obtain ⟨_, _, ⟨T16, L16, k16, n16⟩, -, X16, ⟨Lc16, hQ16, l16, y16, z16⟩, st16⟩ := Jvm.LawKit.callS X15 hx (y := (⟨"java/lang/Math", "max", "(II)I"⟩ : MethodName)) hown (mvT hZ (hw _ (List.mem_of_getElem? (i := 29) rfl))) (mvT hZ (hw _ (List.mem_of_getElem? (i := 30) rfl))) (mvT hZ (hw _ (List.mem_of_getElem? (i := 27) rfl))) (mvT hZ (hw _ (List.mem_of_getElem? (i := 31) rfl))) (by decide) (backOf (W := 0) (rm7 l Z a0 hw [] ((p2 &&& (2147483647 : Int32)) % (5 : Int32)) ((p3 &&& (2147483647 : Int32)) % (5 : Int32)) T12.heap ) hZ (hw _ (List.mem_of_getElem? (i := 31) rfl)) (hw _ (List.mem_of_getElem? (i := 27) rfl)) (by decide) (by decide)) (g := (mkF m 95 #[.val (.long q0), .second, .val (.long q1), .second, .val (.int p2), .val (.int p3), .val (.ref b1), .val (.ref b4), .val (.ref c2), .val (.ref c6), .val (.int ((p2 &&& (2147483647 : Int32)) % (5 : Int32))), .val (.int ((p3 &&& (2147483647 : Int32)) % (5 : Int32))), .val (.int fi), .unset] [(.int ((p3 &&& (2147483647 : Int32)) % (5 : Int32))), (.int ((p2 &&& (2147483647 : Int32)) % (5 : Int32)))])) rfl (by rw [hml]; rfl) (argsL := [(.int ((p2 &&& (2147483647 : Int32)) % (5 : Int32))), (.int ((p3 &&& (2147483647 : Int32)) % (5 : Int32)))]) (rest := []) (lenOf pd_4 rfl) rfl (by show 2 * 0 + _ ≤ _; exact Nat.le_of_eq rfl) (hb hby at_95) (fun _ _ => ⟨rfl, e15, (by decide : ((((((0 + 1) + 1) + 1) + 1) + 0) + 0) + 0 ≤ _), (by decide : ((((((0 + 4) + 8) + 4) + 8) + 0) + 0) + 0 ≤ _)⟩)
  dsimp only [Pt.U, Pt.locs, Pt.cells, Pt.slots] at X16 l16 y16 z16 st16 hQ16
  subst l16 y16 z16
  obtain ⟨rfl, rfl, e16⟩ := hQ16
  try rw [List.append_nil] at X16
  refine Go.step (g' := (mkF m 98 #[.val (.long q0), .second, .val (.long q1), .second, .val (.int p2), .val (.int p3), .val (.ref b1), .val (.ref b4), .val (.ref c2), .val (.ref c6), .val (.int ((p2 &&& (2147483647 : Int32)) % (5 : Int32))), .val (.int ((p3 &&& (2147483647 : Int32)) % (5 : Int32))), .val (.int fi), .unset] [(.int (f7_0 ((p2 &&& (2147483647 : Int32)) % (5 : Int32)) ((p3 &&& (2147483647 : Int32)) % (5 : Int32))))])) st16 ?_
  refine Go.step (g' := (mkF m 100 #[.val (.long q0), .second, .val (.long q1), .second, .val (.int p2), .val (.int p3), .val (.ref b1), .val (.ref b4), .val (.ref c2), .val (.ref c6), .val (.int ((p2 &&& (2147483647 : Int32)) % (5 : Int32))), .val (.int ((p3 &&& (2147483647 : Int32)) % (5 : Int32))), .val (.int fi), .val (.int (f7_0 ((p2 &&& (2147483647 : Int32)) % (5 : Int32)) ((p3 &&& (2147483647 : Int32)) % (5 : Int32))))] [])) (fun _ k => XS.istore X16.here hx rfl (hb hby at_98) rfl (l' := #[.val (.long q0), .second, .val (.long q1), .second, .val (.int p2), .val (.int p3), .val (.ref b1), .val (.ref b4), .val (.ref c2), .val (.ref c6), .val (.int ((p2 &&& (2147483647 : Int32)) % (5 : Int32))), .val (.int ((p3 &&& (2147483647 : Int32)) % (5 : Int32))), .val (.int fi), .val (.int (f7_0 ((p2 &&& (2147483647 : Int32)) % (5 : Int32)) ((p3 &&& (2147483647 : Int32)) % (5 : Int32))))]) rfl k) ?_
  generalize hla : (f7_0 ((p2 &&& (2147483647 : Int32)) % (5 : Int32)) ((p3 &&& (2147483647 : Int32)) % (5 : Int32))) = la
  have hfl := own_fl p2 p3
  rw [hfi, hla] at hfl
  refine Go.step (g' := (mkF m 102 #[.val (.long q0), .second, .val (.long q1), .second, .val (.int p2), .val (.int p3), .val (.ref b1), .val (.ref b4), .val (.ref c2), .val (.ref c6), .val (.int ((p2 &&& (2147483647 : Int32)) % (5 : Int32))), .val (.int ((p3 &&& (2147483647 : Int32)) % (5 : Int32))), .val (.int fi), .val (.int la)] [(.ref b1)])) (fun _ k => XS.aload X16.here hx rfl (hb hby at_100) rfl rfl  k) ?_
  refine Go.step (g' := (mkF m 104 #[.val (.long q0), .second, .val (.long q1), .second, .val (.int p2), .val (.int p3), .val (.ref b1), .val (.ref b4), .val (.ref c2), .val (.ref c6), .val (.int ((p2 &&& (2147483647 : Int32)) % (5 : Int32))), .val (.int ((p3 &&& (2147483647 : Int32)) % (5 : Int32))), .val (.int fi), .val (.int la)] [(.ref b4), (.ref b1)])) (fun _ k => XS.aload X16.here hx rfl (hb hby at_102) rfl rfl  k) ?_
  refine Go.step (g' := (mkF m 106 #[.val (.long q0), .second, .val (.long q1), .second, .val (.int p2), .val (.int p3), .val (.ref b1), .val (.ref b4), .val (.ref c2), .val (.ref c6), .val (.int ((p2 &&& (2147483647 : Int32)) % (5 : Int32))), .val (.int ((p3 &&& (2147483647 : Int32)) % (5 : Int32))), .val (.int fi), .val (.int la)] [(.int fi), (.ref b4), (.ref b1)])) (fun _ k => XS.iload X16.here hx rfl (hb hby at_104) rfl  k) ?_
  refine Go.step (g' := (mkF m 108 #[.val (.long q0), .second, .val (.long q1), .second, .val (.int p2), .val (.int p3), .val (.ref b1), .val (.ref b4), .val (.ref c2), .val (.ref c6), .val (.int ((p2 &&& (2147483647 : Int32)) % (5 : Int32))), .val (.int ((p3 &&& (2147483647 : Int32)) % (5 : Int32))), .val (.int fi), .val (.int la)] [(.int la), (.int fi), (.ref b4), (.ref b1)])) (fun _ k => XS.iload X16.here hx rfl (hb hby at_106) rfl  k) ?_
  obtain ⟨cq17, kq17, q17a, q17b, q17c⟩ := isOf hZ e16 ((((Ei2.ext E4).keep K6).keep K9).keep K12)
  obtain ⟨_, _, ⟨T17, L17, k17, n17⟩, -, X17, ⟨Lc17, hQ17, l17, y17, z17⟩, st17⟩ := X16.virtualBack hx (y := (⟨"com/example/rhadamanthus/rhadamanthus/learn/Histogram", "subtractColumns", "(Lcom/example/rhadamanthus/rhadamanthus/learn/Histogram;II)V"⟩ : MethodName)) (z := (⟨"com/example/rhadamanthus/rhadamanthus/learn/Histogram", "subtractColumns", "(Lcom/example/rhadamanthus/rhadamanthus/learn/Histogram;II)V"⟩ : MethodName)) hown (mvT hZ (hw _ (List.mem_of_getElem? (i := 32) rfl))) (mvT hZ (hw _ (List.mem_of_getElem? (i := 33) rfl))) (notFace_of_selects (args := #[]) (mvT hZ (hw _ (List.mem_of_getElem? (i := 35) rfl)))) (mvT hZ (hw _ (List.mem_of_getElem? (i := 35) rfl))) (mvT hZ (hw _ (List.mem_of_getElem? (i := 34) rfl))) (by decide) (backOf (W := 0) (rm8 l Z a0 hw [] b1 b4 fi la c2 c6 (own_v q0) (own_v q1) T12.heap n0 Q14 (Q10.keep K12 (ninS ne_b1_c6 nin0)) Q13 (Ac9.keep K12 (ninS ne_c2_c6 nin0)) Ac12 ne_b1_c2 (Ne.symm ne_c2_b4) ne_c2_c6 g_c2 (fun k => own_vnan _ _ _ _) hfl) hZ (hw _ (List.mem_of_getElem? (i := 36) rfl)) (hw _ (List.mem_of_getElem? (i := 2) rfl)) (by decide) (by decide)) q17a q17c (g := (mkF m 108 #[.val (.long q0), .second, .val (.long q1), .second, .val (.int p2), .val (.int p3), .val (.ref b1), .val (.ref b4), .val (.ref c2), .val (.ref c6), .val (.int ((p2 &&& (2147483647 : Int32)) % (5 : Int32))), .val (.int ((p3 &&& (2147483647 : Int32)) % (5 : Int32))), .val (.int fi), .val (.int la)] [(.int la), (.int fi), (.ref b4), (.ref b1)])) rfl (by rw [hml]; rfl) (Steps.refl _) (argsL := [(.ref b4), (.int fi), (.int la)]) (rest := []) (lenOf pd_5 rfl) rfl (by show 2 * 0 + _ ≤ _; exact Nat.le_of_eq rfl) (hb hby at_108) (fun _ _ => ⟨rfl, e16, (by decide : ((((((0 + 1) + 1) + 1) + 1) + 0) + 0) + 0 ≤ _), (by decide : ((((((0 + 4) + 8) + 4) + 8) + 0) + 0) + 0 ≤ _)⟩)
  dsimp only [Pt.U, Pt.locs, Pt.cells, Pt.slots] at X17 l17 y17 z17 st17 hQ17
  subst l17 y17 z17
  obtain ⟨rfl, N17q, K17, Ac17⟩ := hQ17
  obtain ⟨lc17, X17, N17⟩ := own_pack X17 (Fr.app N12 N17q)
  have Q18 := ((Q10.keep K12 (ninS ne_b1_c6 nin0)).keep K17 (ninS ne_b1_c2 nin0))
  have Q19 := ((Q11.trans K12 (allS (Or.inr sz_c6) all0)).trans K17 (allS (Or.inr sz_c2) all0))
  refine Go.step (g' := (mkF m 111 #[.val (.long q0), .second, .val (.long q1), .second, .val (.int p2), .val (.int p3), .val (.ref b1), .val (.ref b4), .val (.ref c2), .val (.ref c6), .val (.int ((p2 &&& (2147483647 : Int32)) % (5 : Int32))), .val (.int ((p3 &&& (2147483647 : Int32)) % (5 : Int32))), .val (.int fi), .val (.int la)] [])) (fun _ k => st17.trans k) ?_
  refine Go.step (g' := (mkF m 113 #[.val (.long q0), .second, .val (.long q1), .second, .val (.int p2), .val (.int p3), .val (.ref b1), .val (.ref b4), .val (.ref c2), .val (.ref c6), .val (.int ((p2 &&& (2147483647 : Int32)) % (5 : Int32))), .val (.int ((p3 &&& (2147483647 : Int32)) % (5 : Int32))), .val (.int fi), .val (.int la)] [(.ref c2)])) (fun _ k => XS.aload X17.here hx rfl (hb hby at_111) rfl rfl  k) ?_
  refine Go.step (g' := (mkF m 115 #[.val (.long q0), .second, .val (.long q1), .second, .val (.int p2), .val (.int p3), .val (.ref b1), .val (.ref b4), .val (.ref c2), .val (.ref c6), .val (.int ((p2 &&& (2147483647 : Int32)) % (5 : Int32))), .val (.int ((p3 &&& (2147483647 : Int32)) % (5 : Int32))), .val (.int fi), .val (.int la)] [(.ref c6), (.ref c2)])) (fun _ k => XS.aload X17.here hx rfl (hb hby at_113) rfl rfl  k) ?_
  refine Go.step (g' := (mkF m 116 #[.val (.long q0), .second, .val (.long q1), .second, .val (.int p2), .val (.int p3), .val (.ref b1), .val (.ref b4), .val (.ref c2), .val (.ref c6), .val (.int ((p2 &&& (2147483647 : Int32)) % (5 : Int32))), .val (.int ((p3 &&& (2147483647 : Int32)) % (5 : Int32))), .val (.int fi), .val (.int la)] [(.long q0), (.ref c6), (.ref c2)])) (fun _ k => XS.lloadN X17.here hx rfl (hb hby at_115) rfl  k) ?_
  refine Go.step (g' := (mkF m 117 #[.val (.long q0), .second, .val (.long q1), .second, .val (.int p2), .val (.int p3), .val (.ref b1), .val (.ref b4), .val (.ref c2), .val (.ref c6), .val (.int ((p2 &&& (2147483647 : Int32)) % (5 : Int32))), .val (.int ((p3 &&& (2147483647 : Int32)) % (5 : Int32))), .val (.int fi), .val (.int la)] [(.long q1), (.long q0), (.ref c6), (.ref c2)])) (fun _ k => XS.lloadN X17.here hx rfl (hb hby at_116) rfl  k) ?_
  refine Go.step (g' := (mkF m 118 #[.val (.long q0), .second, .val (.long q1), .second, .val (.int p2), .val (.int p3), .val (.ref b1), .val (.ref b4), .val (.ref c2), .val (.ref c6), .val (.int ((p2 &&& (2147483647 : Int32)) % (5 : Int32))), .val (.int ((p3 &&& (2147483647 : Int32)) % (5 : Int32))), .val (.int fi), .val (.int la)] [(.int (0 : Int32)), (.long q1), (.long q0), (.ref c6), (.ref c2)])) (fun _ k => XS.iconst X17.here hx rfl (hb hby at_117) k) ?_
  refine Go.step (g' := (mkF m 120 #[.val (.long q0), .second, .val (.long q1), .second, .val (.int p2), .val (.int p3), .val (.ref b1), .val (.ref b4), .val (.ref c2), .val (.ref c6), .val (.int ((p2 &&& (2147483647 : Int32)) % (5 : Int32))), .val (.int ((p3 &&& (2147483647 : Int32)) % (5 : Int32))), .val (.int fi), .val (.int la)] [(.int fi), (.int (0 : Int32)), (.long q1), (.long q0), (.ref c6), (.ref c2)])) (fun _ k => XS.iload X17.here hx rfl (hb hby at_118) rfl  k) ?_
  refine Go.step (g' := (mkF m 122 #[.val (.long q0), .second, .val (.long q1), .second, .val (.int p2), .val (.int p3), .val (.ref b1), .val (.ref b4), .val (.ref c2), .val (.ref c6), .val (.int ((p2 &&& (2147483647 : Int32)) % (5 : Int32))), .val (.int ((p3 &&& (2147483647 : Int32)) % (5 : Int32))), .val (.int fi), .val (.int la)] [(.int la), (.int fi), (.int (0 : Int32)), (.long q1), (.long q0), (.ref c6), (.ref c2)])) (fun _ k => XS.iload X17.here hx rfl (hb hby at_120) rfl  k) ?_
  obtain ⟨_, _, ⟨T20, L20, k20, n20⟩, -, X20, ⟨Lc20, hQ20, l20, y20, z20⟩, st20⟩ := Jvm.LawKit.callS X17 hx (y := (⟨"com/example/rhadamanthus/rhadamanthus/learn/HistogramSubtractColumnsPinLaw", "cell", "([D[DJJIII)Z"⟩ : MethodName)) hown (mvT hZ (hw _ (List.mem_of_getElem? (i := 37) rfl))) (mvT hZ (hw _ (List.mem_of_getElem? (i := 38) rfl))) (mvT hZ (hw _ (List.mem_of_getElem? (i := 19) rfl))) (mvT hZ (hw _ (List.mem_of_getElem? (i := 39) rfl))) (by decide) (backOf (W := 0) (rm9 l Z a0 hw [] c2 c6 q0 q1 (0 : Int32) fi la (fun k => if 2 * fi.toNatClampNeg ≤ k ∧ k < 2 * la.toNatClampNeg then FP.dsub ((own_v q0) k) ((own_v q1) k) else (own_v q0) k) (own_v q1) T17.heap Ac17 (Ac12.keep K17 (ninS (Ne.symm ne_c2_c6) nin0)) (by decide)) hZ (hw _ (List.mem_of_getElem? (i := 39) rfl)) (hw _ (List.mem_of_getElem? (i := 19) rfl)) (by decide) (by decide)) (g := (mkF m 122 #[.val (.long q0), .second, .val (.long q1), .second, .val (.int p2), .val (.int p3), .val (.ref b1), .val (.ref b4), .val (.ref c2), .val (.ref c6), .val (.int ((p2 &&& (2147483647 : Int32)) % (5 : Int32))), .val (.int ((p3 &&& (2147483647 : Int32)) % (5 : Int32))), .val (.int fi), .val (.int la)] [(.int la), (.int fi), (.int (0 : Int32)), (.long q1), (.long q0), (.ref c6), (.ref c2)])) rfl (by rw [hml]; rfl) (argsL := [(.ref c2), (.ref c6), (.long q0), (.long q1), (.int (0 : Int32)), (.int fi), (.int la)]) (rest := []) (lenOf pd_6 rfl) rfl (by show 2 * 0 + _ ≤ _; exact Nat.le_of_eq rfl) (hb hby at_122) (fun _ _ => ⟨rfl, rfl, (by decide : (((((((0 + 1) + 1) + 1) + 1) + 0) + 0) + 0) + 0 ≤ _), (by decide : (((((((0 + 4) + 8) + 4) + 8) + 0) + 0) + 0) + 0 ≤ _)⟩)
  dsimp only [Pt.U, Pt.locs, Pt.cells, Pt.slots] at X20 l20 y20 z20 st20 hQ20
  subst l20 y20 z20
  obtain ⟨rfl, rfl, e20⟩ := hQ20
  try rw [List.append_nil] at X20
  refine Go.step (g' := (mkF m 125 #[.val (.long q0), .second, .val (.long q1), .second, .val (.int p2), .val (.int p3), .val (.ref b1), .val (.ref b4), .val (.ref c2), .val (.ref c6), .val (.int ((p2 &&& (2147483647 : Int32)) % (5 : Int32))), .val (.int ((p3 &&& (2147483647 : Int32)) % (5 : Int32))), .val (.int fi), .val (.int la)] [(.int (f9_0 q0 q1 (0 : Int32) fi la (fun k => if 2 * fi.toNatClampNeg ≤ k ∧ k < 2 * la.toNatClampNeg then FP.dsub ((own_v q0) k) ((own_v q1) k) else (own_v q0) k) (own_v q1)))])) st20 ?_
  refine Go.step (g' := (mkF m 128 #[.val (.long q0), .second, .val (.long q1), .second, .val (.int p2), .val (.int p3), .val (.ref b1), .val (.ref b4), .val (.ref c2), .val (.ref c6), .val (.int ((p2 &&& (2147483647 : Int32)) % (5 : Int32))), .val (.int ((p3 &&& (2147483647 : Int32)) % (5 : Int32))), .val (.int fi), .val (.int la)] [])) (fun _ k => XS.ifNo X20.here hx rfl (hb hby at_125) rfl ((if0 _ _).trans (feq (own_cell 0 _ _ _ _ hfl : ¬ ((f9_0 q0 q1 (0 : Int32) fi la (fun k => if 2 * fi.toNatClampNeg ≤ k ∧ k < 2 * la.toNatClampNeg then FP.dsub ((own_v q0) k) ((own_v q1) k) else (own_v q0) k) (own_v q1)) = (0 : Int32)))).1) k) ?_
  rw [show f0_52 = f0_128 from rfl]
  refine Go.step (g' := (mkF m 130 #[.val (.long q0), .second, .val (.long q1), .second, .val (.int p2), .val (.int p3), .val (.ref b1), .val (.ref b4), .val (.ref c2), .val (.ref c6), .val (.int ((p2 &&& (2147483647 : Int32)) % (5 : Int32))), .val (.int ((p3 &&& (2147483647 : Int32)) % (5 : Int32))), .val (.int fi), .val (.int la)] [(.ref c2)])) (fun _ k => XS.aload X20.here hx rfl (hb hby at_128) rfl rfl  k) ?_
  refine Go.step (g' := (mkF m 132 #[.val (.long q0), .second, .val (.long q1), .second, .val (.int p2), .val (.int p3), .val (.ref b1), .val (.ref b4), .val (.ref c2), .val (.ref c6), .val (.int ((p2 &&& (2147483647 : Int32)) % (5 : Int32))), .val (.int ((p3 &&& (2147483647 : Int32)) % (5 : Int32))), .val (.int fi), .val (.int la)] [(.ref c6), (.ref c2)])) (fun _ k => XS.aload X20.here hx rfl (hb hby at_130) rfl rfl  k) ?_
  refine Go.step (g' := (mkF m 133 #[.val (.long q0), .second, .val (.long q1), .second, .val (.int p2), .val (.int p3), .val (.ref b1), .val (.ref b4), .val (.ref c2), .val (.ref c6), .val (.int ((p2 &&& (2147483647 : Int32)) % (5 : Int32))), .val (.int ((p3 &&& (2147483647 : Int32)) % (5 : Int32))), .val (.int fi), .val (.int la)] [(.long q0), (.ref c6), (.ref c2)])) (fun _ k => XS.lloadN X20.here hx rfl (hb hby at_132) rfl  k) ?_
  refine Go.step (g' := (mkF m 134 #[.val (.long q0), .second, .val (.long q1), .second, .val (.int p2), .val (.int p3), .val (.ref b1), .val (.ref b4), .val (.ref c2), .val (.ref c6), .val (.int ((p2 &&& (2147483647 : Int32)) % (5 : Int32))), .val (.int ((p3 &&& (2147483647 : Int32)) % (5 : Int32))), .val (.int fi), .val (.int la)] [(.long q1), (.long q0), (.ref c6), (.ref c2)])) (fun _ k => XS.lloadN X20.here hx rfl (hb hby at_133) rfl  k) ?_
  refine Go.step (g' := (mkF m 135 #[.val (.long q0), .second, .val (.long q1), .second, .val (.int p2), .val (.int p3), .val (.ref b1), .val (.ref b4), .val (.ref c2), .val (.ref c6), .val (.int ((p2 &&& (2147483647 : Int32)) % (5 : Int32))), .val (.int ((p3 &&& (2147483647 : Int32)) % (5 : Int32))), .val (.int fi), .val (.int la)] [(.int (1 : Int32)), (.long q1), (.long q0), (.ref c6), (.ref c2)])) (fun _ k => XS.iconst X20.here hx rfl (hb hby at_134) k) ?_
  refine Go.step (g' := (mkF m 137 #[.val (.long q0), .second, .val (.long q1), .second, .val (.int p2), .val (.int p3), .val (.ref b1), .val (.ref b4), .val (.ref c2), .val (.ref c6), .val (.int ((p2 &&& (2147483647 : Int32)) % (5 : Int32))), .val (.int ((p3 &&& (2147483647 : Int32)) % (5 : Int32))), .val (.int fi), .val (.int la)] [(.int fi), (.int (1 : Int32)), (.long q1), (.long q0), (.ref c6), (.ref c2)])) (fun _ k => XS.iload X20.here hx rfl (hb hby at_135) rfl  k) ?_
  refine Go.step (g' := (mkF m 139 #[.val (.long q0), .second, .val (.long q1), .second, .val (.int p2), .val (.int p3), .val (.ref b1), .val (.ref b4), .val (.ref c2), .val (.ref c6), .val (.int ((p2 &&& (2147483647 : Int32)) % (5 : Int32))), .val (.int ((p3 &&& (2147483647 : Int32)) % (5 : Int32))), .val (.int fi), .val (.int la)] [(.int la), (.int fi), (.int (1 : Int32)), (.long q1), (.long q0), (.ref c6), (.ref c2)])) (fun _ k => XS.iload X20.here hx rfl (hb hby at_137) rfl  k) ?_
  obtain ⟨_, _, ⟨T21, L21, k21, n21⟩, -, X21, ⟨Lc21, hQ21, l21, y21, z21⟩, st21⟩ := Jvm.LawKit.callS X20 hx (y := (⟨"com/example/rhadamanthus/rhadamanthus/learn/HistogramSubtractColumnsPinLaw", "cell", "([D[DJJIII)Z"⟩ : MethodName)) hown (mvT hZ (hw _ (List.mem_of_getElem? (i := 37) rfl))) (mvT hZ (hw _ (List.mem_of_getElem? (i := 38) rfl))) (mvT hZ (hw _ (List.mem_of_getElem? (i := 19) rfl))) (mvT hZ (hw _ (List.mem_of_getElem? (i := 39) rfl))) (by decide) (backOf (W := 0) (rm9 l Z a0 hw [] c2 c6 q0 q1 (1 : Int32) fi la (fun k => if 2 * fi.toNatClampNeg ≤ k ∧ k < 2 * la.toNatClampNeg then FP.dsub ((own_v q0) k) ((own_v q1) k) else (own_v q0) k) (own_v q1) T17.heap Ac17 (Ac12.keep K17 (ninS (Ne.symm ne_c2_c6) nin0)) (by decide)) hZ (hw _ (List.mem_of_getElem? (i := 39) rfl)) (hw _ (List.mem_of_getElem? (i := 19) rfl)) (by decide) (by decide)) (g := (mkF m 139 #[.val (.long q0), .second, .val (.long q1), .second, .val (.int p2), .val (.int p3), .val (.ref b1), .val (.ref b4), .val (.ref c2), .val (.ref c6), .val (.int ((p2 &&& (2147483647 : Int32)) % (5 : Int32))), .val (.int ((p3 &&& (2147483647 : Int32)) % (5 : Int32))), .val (.int fi), .val (.int la)] [(.int la), (.int fi), (.int (1 : Int32)), (.long q1), (.long q0), (.ref c6), (.ref c2)])) rfl (by rw [hml]; rfl) (argsL := [(.ref c2), (.ref c6), (.long q0), (.long q1), (.int (1 : Int32)), (.int fi), (.int la)]) (rest := []) (lenOf pd_6 rfl) rfl (by show 2 * 0 + _ ≤ _; exact Nat.le_of_eq rfl) (hb hby at_139) (fun _ _ => ⟨rfl, e20, (by decide : (((((((0 + 1) + 1) + 1) + 1) + 0) + 0) + 0) + 0 ≤ _), (by decide : (((((((0 + 4) + 8) + 4) + 8) + 0) + 0) + 0) + 0 ≤ _)⟩)
  dsimp only [Pt.U, Pt.locs, Pt.cells, Pt.slots] at X21 l21 y21 z21 st21 hQ21
  subst l21 y21 z21
  obtain ⟨rfl, rfl, e21⟩ := hQ21
  try rw [List.append_nil] at X21
  refine Go.step (g' := (mkF m 142 #[.val (.long q0), .second, .val (.long q1), .second, .val (.int p2), .val (.int p3), .val (.ref b1), .val (.ref b4), .val (.ref c2), .val (.ref c6), .val (.int ((p2 &&& (2147483647 : Int32)) % (5 : Int32))), .val (.int ((p3 &&& (2147483647 : Int32)) % (5 : Int32))), .val (.int fi), .val (.int la)] [(.int (f9_0 q0 q1 (1 : Int32) fi la (fun k => if 2 * fi.toNatClampNeg ≤ k ∧ k < 2 * la.toNatClampNeg then FP.dsub ((own_v q0) k) ((own_v q1) k) else (own_v q0) k) (own_v q1)))])) st21 ?_
  refine Go.step (g' := (mkF m 145 #[.val (.long q0), .second, .val (.long q1), .second, .val (.int p2), .val (.int p3), .val (.ref b1), .val (.ref b4), .val (.ref c2), .val (.ref c6), .val (.int ((p2 &&& (2147483647 : Int32)) % (5 : Int32))), .val (.int ((p3 &&& (2147483647 : Int32)) % (5 : Int32))), .val (.int fi), .val (.int la)] [])) (fun _ k => XS.ifNo X21.here hx rfl (hb hby at_142) rfl ((if0 _ _).trans (feq (own_cell 1 _ _ _ _ hfl : ¬ ((f9_0 q0 q1 (1 : Int32) fi la (fun k => if 2 * fi.toNatClampNeg ≤ k ∧ k < 2 * la.toNatClampNeg then FP.dsub ((own_v q0) k) ((own_v q1) k) else (own_v q0) k) (own_v q1)) = (0 : Int32)))).1) k) ?_
  rw [show f0_128 = f0_145 from rfl]
  refine Go.step (g' := (mkF m 147 #[.val (.long q0), .second, .val (.long q1), .second, .val (.int p2), .val (.int p3), .val (.ref b1), .val (.ref b4), .val (.ref c2), .val (.ref c6), .val (.int ((p2 &&& (2147483647 : Int32)) % (5 : Int32))), .val (.int ((p3 &&& (2147483647 : Int32)) % (5 : Int32))), .val (.int fi), .val (.int la)] [(.ref c2)])) (fun _ k => XS.aload X21.here hx rfl (hb hby at_145) rfl rfl  k) ?_
  refine Go.step (g' := (mkF m 149 #[.val (.long q0), .second, .val (.long q1), .second, .val (.int p2), .val (.int p3), .val (.ref b1), .val (.ref b4), .val (.ref c2), .val (.ref c6), .val (.int ((p2 &&& (2147483647 : Int32)) % (5 : Int32))), .val (.int ((p3 &&& (2147483647 : Int32)) % (5 : Int32))), .val (.int fi), .val (.int la)] [(.ref c6), (.ref c2)])) (fun _ k => XS.aload X21.here hx rfl (hb hby at_147) rfl rfl  k) ?_
  refine Go.step (g' := (mkF m 150 #[.val (.long q0), .second, .val (.long q1), .second, .val (.int p2), .val (.int p3), .val (.ref b1), .val (.ref b4), .val (.ref c2), .val (.ref c6), .val (.int ((p2 &&& (2147483647 : Int32)) % (5 : Int32))), .val (.int ((p3 &&& (2147483647 : Int32)) % (5 : Int32))), .val (.int fi), .val (.int la)] [(.long q0), (.ref c6), (.ref c2)])) (fun _ k => XS.lloadN X21.here hx rfl (hb hby at_149) rfl  k) ?_
  refine Go.step (g' := (mkF m 151 #[.val (.long q0), .second, .val (.long q1), .second, .val (.int p2), .val (.int p3), .val (.ref b1), .val (.ref b4), .val (.ref c2), .val (.ref c6), .val (.int ((p2 &&& (2147483647 : Int32)) % (5 : Int32))), .val (.int ((p3 &&& (2147483647 : Int32)) % (5 : Int32))), .val (.int fi), .val (.int la)] [(.long q1), (.long q0), (.ref c6), (.ref c2)])) (fun _ k => XS.lloadN X21.here hx rfl (hb hby at_150) rfl  k) ?_
  refine Go.step (g' := (mkF m 152 #[.val (.long q0), .second, .val (.long q1), .second, .val (.int p2), .val (.int p3), .val (.ref b1), .val (.ref b4), .val (.ref c2), .val (.ref c6), .val (.int ((p2 &&& (2147483647 : Int32)) % (5 : Int32))), .val (.int ((p3 &&& (2147483647 : Int32)) % (5 : Int32))), .val (.int fi), .val (.int la)] [(.int (2 : Int32)), (.long q1), (.long q0), (.ref c6), (.ref c2)])) (fun _ k => XS.iconst X21.here hx rfl (hb hby at_151) k) ?_
  refine Go.step (g' := (mkF m 154 #[.val (.long q0), .second, .val (.long q1), .second, .val (.int p2), .val (.int p3), .val (.ref b1), .val (.ref b4), .val (.ref c2), .val (.ref c6), .val (.int ((p2 &&& (2147483647 : Int32)) % (5 : Int32))), .val (.int ((p3 &&& (2147483647 : Int32)) % (5 : Int32))), .val (.int fi), .val (.int la)] [(.int fi), (.int (2 : Int32)), (.long q1), (.long q0), (.ref c6), (.ref c2)])) (fun _ k => XS.iload X21.here hx rfl (hb hby at_152) rfl  k) ?_
  refine Go.step (g' := (mkF m 156 #[.val (.long q0), .second, .val (.long q1), .second, .val (.int p2), .val (.int p3), .val (.ref b1), .val (.ref b4), .val (.ref c2), .val (.ref c6), .val (.int ((p2 &&& (2147483647 : Int32)) % (5 : Int32))), .val (.int ((p3 &&& (2147483647 : Int32)) % (5 : Int32))), .val (.int fi), .val (.int la)] [(.int la), (.int fi), (.int (2 : Int32)), (.long q1), (.long q0), (.ref c6), (.ref c2)])) (fun _ k => XS.iload X21.here hx rfl (hb hby at_154) rfl  k) ?_
  obtain ⟨_, _, ⟨T22, L22, k22, n22⟩, -, X22, ⟨Lc22, hQ22, l22, y22, z22⟩, st22⟩ := Jvm.LawKit.callS X21 hx (y := (⟨"com/example/rhadamanthus/rhadamanthus/learn/HistogramSubtractColumnsPinLaw", "cell", "([D[DJJIII)Z"⟩ : MethodName)) hown (mvT hZ (hw _ (List.mem_of_getElem? (i := 37) rfl))) (mvT hZ (hw _ (List.mem_of_getElem? (i := 38) rfl))) (mvT hZ (hw _ (List.mem_of_getElem? (i := 19) rfl))) (mvT hZ (hw _ (List.mem_of_getElem? (i := 39) rfl))) (by decide) (backOf (W := 0) (rm9 l Z a0 hw [] c2 c6 q0 q1 (2 : Int32) fi la (fun k => if 2 * fi.toNatClampNeg ≤ k ∧ k < 2 * la.toNatClampNeg then FP.dsub ((own_v q0) k) ((own_v q1) k) else (own_v q0) k) (own_v q1) T17.heap Ac17 (Ac12.keep K17 (ninS (Ne.symm ne_c2_c6) nin0)) (by decide)) hZ (hw _ (List.mem_of_getElem? (i := 39) rfl)) (hw _ (List.mem_of_getElem? (i := 19) rfl)) (by decide) (by decide)) (g := (mkF m 156 #[.val (.long q0), .second, .val (.long q1), .second, .val (.int p2), .val (.int p3), .val (.ref b1), .val (.ref b4), .val (.ref c2), .val (.ref c6), .val (.int ((p2 &&& (2147483647 : Int32)) % (5 : Int32))), .val (.int ((p3 &&& (2147483647 : Int32)) % (5 : Int32))), .val (.int fi), .val (.int la)] [(.int la), (.int fi), (.int (2 : Int32)), (.long q1), (.long q0), (.ref c6), (.ref c2)])) rfl (by rw [hml]; rfl) (argsL := [(.ref c2), (.ref c6), (.long q0), (.long q1), (.int (2 : Int32)), (.int fi), (.int la)]) (rest := []) (lenOf pd_6 rfl) rfl (by show 2 * 0 + _ ≤ _; exact Nat.le_of_eq rfl) (hb hby at_156) (fun _ _ => ⟨rfl, e21, (by decide : (((((((0 + 1) + 1) + 1) + 1) + 0) + 0) + 0) + 0 ≤ _), (by decide : (((((((0 + 4) + 8) + 4) + 8) + 0) + 0) + 0) + 0 ≤ _)⟩)
  dsimp only [Pt.U, Pt.locs, Pt.cells, Pt.slots] at X22 l22 y22 z22 st22 hQ22
  subst l22 y22 z22
  obtain ⟨rfl, rfl, e22⟩ := hQ22
  try rw [List.append_nil] at X22
  refine Go.step (g' := (mkF m 159 #[.val (.long q0), .second, .val (.long q1), .second, .val (.int p2), .val (.int p3), .val (.ref b1), .val (.ref b4), .val (.ref c2), .val (.ref c6), .val (.int ((p2 &&& (2147483647 : Int32)) % (5 : Int32))), .val (.int ((p3 &&& (2147483647 : Int32)) % (5 : Int32))), .val (.int fi), .val (.int la)] [(.int (f9_0 q0 q1 (2 : Int32) fi la (fun k => if 2 * fi.toNatClampNeg ≤ k ∧ k < 2 * la.toNatClampNeg then FP.dsub ((own_v q0) k) ((own_v q1) k) else (own_v q0) k) (own_v q1)))])) st22 ?_
  refine Go.step (g' := (mkF m 162 #[.val (.long q0), .second, .val (.long q1), .second, .val (.int p2), .val (.int p3), .val (.ref b1), .val (.ref b4), .val (.ref c2), .val (.ref c6), .val (.int ((p2 &&& (2147483647 : Int32)) % (5 : Int32))), .val (.int ((p3 &&& (2147483647 : Int32)) % (5 : Int32))), .val (.int fi), .val (.int la)] [])) (fun _ k => XS.ifNo X22.here hx rfl (hb hby at_159) rfl ((if0 _ _).trans (feq (own_cell 2 _ _ _ _ hfl : ¬ ((f9_0 q0 q1 (2 : Int32) fi la (fun k => if 2 * fi.toNatClampNeg ≤ k ∧ k < 2 * la.toNatClampNeg then FP.dsub ((own_v q0) k) ((own_v q1) k) else (own_v q0) k) (own_v q1)) = (0 : Int32)))).1) k) ?_
  rw [show f0_145 = f0_162 from rfl]
  refine Go.step (g' := (mkF m 164 #[.val (.long q0), .second, .val (.long q1), .second, .val (.int p2), .val (.int p3), .val (.ref b1), .val (.ref b4), .val (.ref c2), .val (.ref c6), .val (.int ((p2 &&& (2147483647 : Int32)) % (5 : Int32))), .val (.int ((p3 &&& (2147483647 : Int32)) % (5 : Int32))), .val (.int fi), .val (.int la)] [(.ref c2)])) (fun _ k => XS.aload X22.here hx rfl (hb hby at_162) rfl rfl  k) ?_
  refine Go.step (g' := (mkF m 166 #[.val (.long q0), .second, .val (.long q1), .second, .val (.int p2), .val (.int p3), .val (.ref b1), .val (.ref b4), .val (.ref c2), .val (.ref c6), .val (.int ((p2 &&& (2147483647 : Int32)) % (5 : Int32))), .val (.int ((p3 &&& (2147483647 : Int32)) % (5 : Int32))), .val (.int fi), .val (.int la)] [(.ref c6), (.ref c2)])) (fun _ k => XS.aload X22.here hx rfl (hb hby at_164) rfl rfl  k) ?_
  refine Go.step (g' := (mkF m 167 #[.val (.long q0), .second, .val (.long q1), .second, .val (.int p2), .val (.int p3), .val (.ref b1), .val (.ref b4), .val (.ref c2), .val (.ref c6), .val (.int ((p2 &&& (2147483647 : Int32)) % (5 : Int32))), .val (.int ((p3 &&& (2147483647 : Int32)) % (5 : Int32))), .val (.int fi), .val (.int la)] [(.long q0), (.ref c6), (.ref c2)])) (fun _ k => XS.lloadN X22.here hx rfl (hb hby at_166) rfl  k) ?_
  refine Go.step (g' := (mkF m 168 #[.val (.long q0), .second, .val (.long q1), .second, .val (.int p2), .val (.int p3), .val (.ref b1), .val (.ref b4), .val (.ref c2), .val (.ref c6), .val (.int ((p2 &&& (2147483647 : Int32)) % (5 : Int32))), .val (.int ((p3 &&& (2147483647 : Int32)) % (5 : Int32))), .val (.int fi), .val (.int la)] [(.long q1), (.long q0), (.ref c6), (.ref c2)])) (fun _ k => XS.lloadN X22.here hx rfl (hb hby at_167) rfl  k) ?_
  refine Go.step (g' := (mkF m 169 #[.val (.long q0), .second, .val (.long q1), .second, .val (.int p2), .val (.int p3), .val (.ref b1), .val (.ref b4), .val (.ref c2), .val (.ref c6), .val (.int ((p2 &&& (2147483647 : Int32)) % (5 : Int32))), .val (.int ((p3 &&& (2147483647 : Int32)) % (5 : Int32))), .val (.int fi), .val (.int la)] [(.int (3 : Int32)), (.long q1), (.long q0), (.ref c6), (.ref c2)])) (fun _ k => XS.iconst X22.here hx rfl (hb hby at_168) k) ?_
  refine Go.step (g' := (mkF m 171 #[.val (.long q0), .second, .val (.long q1), .second, .val (.int p2), .val (.int p3), .val (.ref b1), .val (.ref b4), .val (.ref c2), .val (.ref c6), .val (.int ((p2 &&& (2147483647 : Int32)) % (5 : Int32))), .val (.int ((p3 &&& (2147483647 : Int32)) % (5 : Int32))), .val (.int fi), .val (.int la)] [(.int fi), (.int (3 : Int32)), (.long q1), (.long q0), (.ref c6), (.ref c2)])) (fun _ k => XS.iload X22.here hx rfl (hb hby at_169) rfl  k) ?_
  refine Go.step (g' := (mkF m 173 #[.val (.long q0), .second, .val (.long q1), .second, .val (.int p2), .val (.int p3), .val (.ref b1), .val (.ref b4), .val (.ref c2), .val (.ref c6), .val (.int ((p2 &&& (2147483647 : Int32)) % (5 : Int32))), .val (.int ((p3 &&& (2147483647 : Int32)) % (5 : Int32))), .val (.int fi), .val (.int la)] [(.int la), (.int fi), (.int (3 : Int32)), (.long q1), (.long q0), (.ref c6), (.ref c2)])) (fun _ k => XS.iload X22.here hx rfl (hb hby at_171) rfl  k) ?_
  obtain ⟨_, _, ⟨T23, L23, k23, n23⟩, -, X23, ⟨Lc23, hQ23, l23, y23, z23⟩, st23⟩ := Jvm.LawKit.callS X22 hx (y := (⟨"com/example/rhadamanthus/rhadamanthus/learn/HistogramSubtractColumnsPinLaw", "cell", "([D[DJJIII)Z"⟩ : MethodName)) hown (mvT hZ (hw _ (List.mem_of_getElem? (i := 37) rfl))) (mvT hZ (hw _ (List.mem_of_getElem? (i := 38) rfl))) (mvT hZ (hw _ (List.mem_of_getElem? (i := 19) rfl))) (mvT hZ (hw _ (List.mem_of_getElem? (i := 39) rfl))) (by decide) (backOf (W := 0) (rm9 l Z a0 hw [] c2 c6 q0 q1 (3 : Int32) fi la (fun k => if 2 * fi.toNatClampNeg ≤ k ∧ k < 2 * la.toNatClampNeg then FP.dsub ((own_v q0) k) ((own_v q1) k) else (own_v q0) k) (own_v q1) T17.heap Ac17 (Ac12.keep K17 (ninS (Ne.symm ne_c2_c6) nin0)) (by decide)) hZ (hw _ (List.mem_of_getElem? (i := 39) rfl)) (hw _ (List.mem_of_getElem? (i := 19) rfl)) (by decide) (by decide)) (g := (mkF m 173 #[.val (.long q0), .second, .val (.long q1), .second, .val (.int p2), .val (.int p3), .val (.ref b1), .val (.ref b4), .val (.ref c2), .val (.ref c6), .val (.int ((p2 &&& (2147483647 : Int32)) % (5 : Int32))), .val (.int ((p3 &&& (2147483647 : Int32)) % (5 : Int32))), .val (.int fi), .val (.int la)] [(.int la), (.int fi), (.int (3 : Int32)), (.long q1), (.long q0), (.ref c6), (.ref c2)])) rfl (by rw [hml]; rfl) (argsL := [(.ref c2), (.ref c6), (.long q0), (.long q1), (.int (3 : Int32)), (.int fi), (.int la)]) (rest := []) (lenOf pd_6 rfl) rfl (by show 2 * 0 + _ ≤ _; exact Nat.le_of_eq rfl) (hb hby at_173) (fun _ _ => ⟨rfl, e22, (by decide : (((((((0 + 1) + 1) + 1) + 1) + 0) + 0) + 0) + 0 ≤ _), (by decide : (((((((0 + 4) + 8) + 4) + 8) + 0) + 0) + 0) + 0 ≤ _)⟩)
  dsimp only [Pt.U, Pt.locs, Pt.cells, Pt.slots] at X23 l23 y23 z23 st23 hQ23
  subst l23 y23 z23
  obtain ⟨rfl, rfl, e23⟩ := hQ23
  try rw [List.append_nil] at X23
  refine Go.step (g' := (mkF m 176 #[.val (.long q0), .second, .val (.long q1), .second, .val (.int p2), .val (.int p3), .val (.ref b1), .val (.ref b4), .val (.ref c2), .val (.ref c6), .val (.int ((p2 &&& (2147483647 : Int32)) % (5 : Int32))), .val (.int ((p3 &&& (2147483647 : Int32)) % (5 : Int32))), .val (.int fi), .val (.int la)] [(.int (f9_0 q0 q1 (3 : Int32) fi la (fun k => if 2 * fi.toNatClampNeg ≤ k ∧ k < 2 * la.toNatClampNeg then FP.dsub ((own_v q0) k) ((own_v q1) k) else (own_v q0) k) (own_v q1)))])) st23 ?_
  refine Go.step (g' := (mkF m 179 #[.val (.long q0), .second, .val (.long q1), .second, .val (.int p2), .val (.int p3), .val (.ref b1), .val (.ref b4), .val (.ref c2), .val (.ref c6), .val (.int ((p2 &&& (2147483647 : Int32)) % (5 : Int32))), .val (.int ((p3 &&& (2147483647 : Int32)) % (5 : Int32))), .val (.int fi), .val (.int la)] [])) (fun _ k => XS.ifNo X23.here hx rfl (hb hby at_176) rfl ((if0 _ _).trans (feq (own_cell 3 _ _ _ _ hfl : ¬ ((f9_0 q0 q1 (3 : Int32) fi la (fun k => if 2 * fi.toNatClampNeg ≤ k ∧ k < 2 * la.toNatClampNeg then FP.dsub ((own_v q0) k) ((own_v q1) k) else (own_v q0) k) (own_v q1)) = (0 : Int32)))).1) k) ?_
  rw [show f0_162 = f0_179 from rfl]
  refine Go.step (g' := (mkF m 181 #[.val (.long q0), .second, .val (.long q1), .second, .val (.int p2), .val (.int p3), .val (.ref b1), .val (.ref b4), .val (.ref c2), .val (.ref c6), .val (.int ((p2 &&& (2147483647 : Int32)) % (5 : Int32))), .val (.int ((p3 &&& (2147483647 : Int32)) % (5 : Int32))), .val (.int fi), .val (.int la)] [(.ref c2)])) (fun _ k => XS.aload X23.here hx rfl (hb hby at_179) rfl rfl  k) ?_
  refine Go.step (g' := (mkF m 183 #[.val (.long q0), .second, .val (.long q1), .second, .val (.int p2), .val (.int p3), .val (.ref b1), .val (.ref b4), .val (.ref c2), .val (.ref c6), .val (.int ((p2 &&& (2147483647 : Int32)) % (5 : Int32))), .val (.int ((p3 &&& (2147483647 : Int32)) % (5 : Int32))), .val (.int fi), .val (.int la)] [(.ref c6), (.ref c2)])) (fun _ k => XS.aload X23.here hx rfl (hb hby at_181) rfl rfl  k) ?_
  refine Go.step (g' := (mkF m 184 #[.val (.long q0), .second, .val (.long q1), .second, .val (.int p2), .val (.int p3), .val (.ref b1), .val (.ref b4), .val (.ref c2), .val (.ref c6), .val (.int ((p2 &&& (2147483647 : Int32)) % (5 : Int32))), .val (.int ((p3 &&& (2147483647 : Int32)) % (5 : Int32))), .val (.int fi), .val (.int la)] [(.long q0), (.ref c6), (.ref c2)])) (fun _ k => XS.lloadN X23.here hx rfl (hb hby at_183) rfl  k) ?_
  refine Go.step (g' := (mkF m 185 #[.val (.long q0), .second, .val (.long q1), .second, .val (.int p2), .val (.int p3), .val (.ref b1), .val (.ref b4), .val (.ref c2), .val (.ref c6), .val (.int ((p2 &&& (2147483647 : Int32)) % (5 : Int32))), .val (.int ((p3 &&& (2147483647 : Int32)) % (5 : Int32))), .val (.int fi), .val (.int la)] [(.long q1), (.long q0), (.ref c6), (.ref c2)])) (fun _ k => XS.lloadN X23.here hx rfl (hb hby at_184) rfl  k) ?_
  refine Go.step (g' := (mkF m 186 #[.val (.long q0), .second, .val (.long q1), .second, .val (.int p2), .val (.int p3), .val (.ref b1), .val (.ref b4), .val (.ref c2), .val (.ref c6), .val (.int ((p2 &&& (2147483647 : Int32)) % (5 : Int32))), .val (.int ((p3 &&& (2147483647 : Int32)) % (5 : Int32))), .val (.int fi), .val (.int la)] [(.int (4 : Int32)), (.long q1), (.long q0), (.ref c6), (.ref c2)])) (fun _ k => XS.iconst X23.here hx rfl (hb hby at_185) k) ?_
  refine Go.step (g' := (mkF m 188 #[.val (.long q0), .second, .val (.long q1), .second, .val (.int p2), .val (.int p3), .val (.ref b1), .val (.ref b4), .val (.ref c2), .val (.ref c6), .val (.int ((p2 &&& (2147483647 : Int32)) % (5 : Int32))), .val (.int ((p3 &&& (2147483647 : Int32)) % (5 : Int32))), .val (.int fi), .val (.int la)] [(.int fi), (.int (4 : Int32)), (.long q1), (.long q0), (.ref c6), (.ref c2)])) (fun _ k => XS.iload X23.here hx rfl (hb hby at_186) rfl  k) ?_
  refine Go.step (g' := (mkF m 190 #[.val (.long q0), .second, .val (.long q1), .second, .val (.int p2), .val (.int p3), .val (.ref b1), .val (.ref b4), .val (.ref c2), .val (.ref c6), .val (.int ((p2 &&& (2147483647 : Int32)) % (5 : Int32))), .val (.int ((p3 &&& (2147483647 : Int32)) % (5 : Int32))), .val (.int fi), .val (.int la)] [(.int la), (.int fi), (.int (4 : Int32)), (.long q1), (.long q0), (.ref c6), (.ref c2)])) (fun _ k => XS.iload X23.here hx rfl (hb hby at_188) rfl  k) ?_
  obtain ⟨_, _, ⟨T24, L24, k24, n24⟩, -, X24, ⟨Lc24, hQ24, l24, y24, z24⟩, st24⟩ := Jvm.LawKit.callS X23 hx (y := (⟨"com/example/rhadamanthus/rhadamanthus/learn/HistogramSubtractColumnsPinLaw", "cell", "([D[DJJIII)Z"⟩ : MethodName)) hown (mvT hZ (hw _ (List.mem_of_getElem? (i := 37) rfl))) (mvT hZ (hw _ (List.mem_of_getElem? (i := 38) rfl))) (mvT hZ (hw _ (List.mem_of_getElem? (i := 19) rfl))) (mvT hZ (hw _ (List.mem_of_getElem? (i := 39) rfl))) (by decide) (backOf (W := 0) (rm9 l Z a0 hw [] c2 c6 q0 q1 (4 : Int32) fi la (fun k => if 2 * fi.toNatClampNeg ≤ k ∧ k < 2 * la.toNatClampNeg then FP.dsub ((own_v q0) k) ((own_v q1) k) else (own_v q0) k) (own_v q1) T17.heap Ac17 (Ac12.keep K17 (ninS (Ne.symm ne_c2_c6) nin0)) (by decide)) hZ (hw _ (List.mem_of_getElem? (i := 39) rfl)) (hw _ (List.mem_of_getElem? (i := 19) rfl)) (by decide) (by decide)) (g := (mkF m 190 #[.val (.long q0), .second, .val (.long q1), .second, .val (.int p2), .val (.int p3), .val (.ref b1), .val (.ref b4), .val (.ref c2), .val (.ref c6), .val (.int ((p2 &&& (2147483647 : Int32)) % (5 : Int32))), .val (.int ((p3 &&& (2147483647 : Int32)) % (5 : Int32))), .val (.int fi), .val (.int la)] [(.int la), (.int fi), (.int (4 : Int32)), (.long q1), (.long q0), (.ref c6), (.ref c2)])) rfl (by rw [hml]; rfl) (argsL := [(.ref c2), (.ref c6), (.long q0), (.long q1), (.int (4 : Int32)), (.int fi), (.int la)]) (rest := []) (lenOf pd_6 rfl) rfl (by show 2 * 0 + _ ≤ _; exact Nat.le_of_eq rfl) (hb hby at_190) (fun _ _ => ⟨rfl, e23, (by decide : (((((((0 + 1) + 1) + 1) + 1) + 0) + 0) + 0) + 0 ≤ _), (by decide : (((((((0 + 4) + 8) + 4) + 8) + 0) + 0) + 0) + 0 ≤ _)⟩)
  dsimp only [Pt.U, Pt.locs, Pt.cells, Pt.slots] at X24 l24 y24 z24 st24 hQ24
  subst l24 y24 z24
  obtain ⟨rfl, rfl, e24⟩ := hQ24
  try rw [List.append_nil] at X24
  refine Go.step (g' := (mkF m 193 #[.val (.long q0), .second, .val (.long q1), .second, .val (.int p2), .val (.int p3), .val (.ref b1), .val (.ref b4), .val (.ref c2), .val (.ref c6), .val (.int ((p2 &&& (2147483647 : Int32)) % (5 : Int32))), .val (.int ((p3 &&& (2147483647 : Int32)) % (5 : Int32))), .val (.int fi), .val (.int la)] [(.int (f9_0 q0 q1 (4 : Int32) fi la (fun k => if 2 * fi.toNatClampNeg ≤ k ∧ k < 2 * la.toNatClampNeg then FP.dsub ((own_v q0) k) ((own_v q1) k) else (own_v q0) k) (own_v q1)))])) st24 ?_
  refine Go.step (g' := (mkF m 196 #[.val (.long q0), .second, .val (.long q1), .second, .val (.int p2), .val (.int p3), .val (.ref b1), .val (.ref b4), .val (.ref c2), .val (.ref c6), .val (.int ((p2 &&& (2147483647 : Int32)) % (5 : Int32))), .val (.int ((p3 &&& (2147483647 : Int32)) % (5 : Int32))), .val (.int fi), .val (.int la)] [])) (fun _ k => XS.ifNo X24.here hx rfl (hb hby at_193) rfl ((if0 _ _).trans (feq (own_cell 4 _ _ _ _ hfl : ¬ ((f9_0 q0 q1 (4 : Int32) fi la (fun k => if 2 * fi.toNatClampNeg ≤ k ∧ k < 2 * la.toNatClampNeg then FP.dsub ((own_v q0) k) ((own_v q1) k) else (own_v q0) k) (own_v q1)) = (0 : Int32)))).1) k) ?_
  rw [show f0_179 = f0_196 from rfl]
  refine Go.step (g' := (mkF m 198 #[.val (.long q0), .second, .val (.long q1), .second, .val (.int p2), .val (.int p3), .val (.ref b1), .val (.ref b4), .val (.ref c2), .val (.ref c6), .val (.int ((p2 &&& (2147483647 : Int32)) % (5 : Int32))), .val (.int ((p3 &&& (2147483647 : Int32)) % (5 : Int32))), .val (.int fi), .val (.int la)] [(.ref c2)])) (fun _ k => XS.aload X24.here hx rfl (hb hby at_196) rfl rfl  k) ?_
  refine Go.step (g' := (mkF m 200 #[.val (.long q0), .second, .val (.long q1), .second, .val (.int p2), .val (.int p3), .val (.ref b1), .val (.ref b4), .val (.ref c2), .val (.ref c6), .val (.int ((p2 &&& (2147483647 : Int32)) % (5 : Int32))), .val (.int ((p3 &&& (2147483647 : Int32)) % (5 : Int32))), .val (.int fi), .val (.int la)] [(.ref c6), (.ref c2)])) (fun _ k => XS.aload X24.here hx rfl (hb hby at_198) rfl rfl  k) ?_
  refine Go.step (g' := (mkF m 201 #[.val (.long q0), .second, .val (.long q1), .second, .val (.int p2), .val (.int p3), .val (.ref b1), .val (.ref b4), .val (.ref c2), .val (.ref c6), .val (.int ((p2 &&& (2147483647 : Int32)) % (5 : Int32))), .val (.int ((p3 &&& (2147483647 : Int32)) % (5 : Int32))), .val (.int fi), .val (.int la)] [(.long q0), (.ref c6), (.ref c2)])) (fun _ k => XS.lloadN X24.here hx rfl (hb hby at_200) rfl  k) ?_
  refine Go.step (g' := (mkF m 202 #[.val (.long q0), .second, .val (.long q1), .second, .val (.int p2), .val (.int p3), .val (.ref b1), .val (.ref b4), .val (.ref c2), .val (.ref c6), .val (.int ((p2 &&& (2147483647 : Int32)) % (5 : Int32))), .val (.int ((p3 &&& (2147483647 : Int32)) % (5 : Int32))), .val (.int fi), .val (.int la)] [(.long q1), (.long q0), (.ref c6), (.ref c2)])) (fun _ k => XS.lloadN X24.here hx rfl (hb hby at_201) rfl  k) ?_
  refine Go.step (g' := (mkF m 203 #[.val (.long q0), .second, .val (.long q1), .second, .val (.int p2), .val (.int p3), .val (.ref b1), .val (.ref b4), .val (.ref c2), .val (.ref c6), .val (.int ((p2 &&& (2147483647 : Int32)) % (5 : Int32))), .val (.int ((p3 &&& (2147483647 : Int32)) % (5 : Int32))), .val (.int fi), .val (.int la)] [(.int (5 : Int32)), (.long q1), (.long q0), (.ref c6), (.ref c2)])) (fun _ k => XS.iconst X24.here hx rfl (hb hby at_202) k) ?_
  refine Go.step (g' := (mkF m 205 #[.val (.long q0), .second, .val (.long q1), .second, .val (.int p2), .val (.int p3), .val (.ref b1), .val (.ref b4), .val (.ref c2), .val (.ref c6), .val (.int ((p2 &&& (2147483647 : Int32)) % (5 : Int32))), .val (.int ((p3 &&& (2147483647 : Int32)) % (5 : Int32))), .val (.int fi), .val (.int la)] [(.int fi), (.int (5 : Int32)), (.long q1), (.long q0), (.ref c6), (.ref c2)])) (fun _ k => XS.iload X24.here hx rfl (hb hby at_203) rfl  k) ?_
  refine Go.step (g' := (mkF m 207 #[.val (.long q0), .second, .val (.long q1), .second, .val (.int p2), .val (.int p3), .val (.ref b1), .val (.ref b4), .val (.ref c2), .val (.ref c6), .val (.int ((p2 &&& (2147483647 : Int32)) % (5 : Int32))), .val (.int ((p3 &&& (2147483647 : Int32)) % (5 : Int32))), .val (.int fi), .val (.int la)] [(.int la), (.int fi), (.int (5 : Int32)), (.long q1), (.long q0), (.ref c6), (.ref c2)])) (fun _ k => XS.iload X24.here hx rfl (hb hby at_205) rfl  k) ?_
  obtain ⟨_, _, ⟨T25, L25, k25, n25⟩, -, X25, ⟨Lc25, hQ25, l25, y25, z25⟩, st25⟩ := Jvm.LawKit.callS X24 hx (y := (⟨"com/example/rhadamanthus/rhadamanthus/learn/HistogramSubtractColumnsPinLaw", "cell", "([D[DJJIII)Z"⟩ : MethodName)) hown (mvT hZ (hw _ (List.mem_of_getElem? (i := 37) rfl))) (mvT hZ (hw _ (List.mem_of_getElem? (i := 38) rfl))) (mvT hZ (hw _ (List.mem_of_getElem? (i := 19) rfl))) (mvT hZ (hw _ (List.mem_of_getElem? (i := 39) rfl))) (by decide) (backOf (W := 0) (rm9 l Z a0 hw [] c2 c6 q0 q1 (5 : Int32) fi la (fun k => if 2 * fi.toNatClampNeg ≤ k ∧ k < 2 * la.toNatClampNeg then FP.dsub ((own_v q0) k) ((own_v q1) k) else (own_v q0) k) (own_v q1) T17.heap Ac17 (Ac12.keep K17 (ninS (Ne.symm ne_c2_c6) nin0)) (by decide)) hZ (hw _ (List.mem_of_getElem? (i := 39) rfl)) (hw _ (List.mem_of_getElem? (i := 19) rfl)) (by decide) (by decide)) (g := (mkF m 207 #[.val (.long q0), .second, .val (.long q1), .second, .val (.int p2), .val (.int p3), .val (.ref b1), .val (.ref b4), .val (.ref c2), .val (.ref c6), .val (.int ((p2 &&& (2147483647 : Int32)) % (5 : Int32))), .val (.int ((p3 &&& (2147483647 : Int32)) % (5 : Int32))), .val (.int fi), .val (.int la)] [(.int la), (.int fi), (.int (5 : Int32)), (.long q1), (.long q0), (.ref c6), (.ref c2)])) rfl (by rw [hml]; rfl) (argsL := [(.ref c2), (.ref c6), (.long q0), (.long q1), (.int (5 : Int32)), (.int fi), (.int la)]) (rest := []) (lenOf pd_6 rfl) rfl (by show 2 * 0 + _ ≤ _; exact Nat.le_of_eq rfl) (hb hby at_207) (fun _ _ => ⟨rfl, e24, (by decide : (((((((0 + 1) + 1) + 1) + 1) + 0) + 0) + 0) + 0 ≤ _), (by decide : (((((((0 + 4) + 8) + 4) + 8) + 0) + 0) + 0) + 0 ≤ _)⟩)
  dsimp only [Pt.U, Pt.locs, Pt.cells, Pt.slots] at X25 l25 y25 z25 st25 hQ25
  subst l25 y25 z25
  obtain ⟨rfl, rfl, e25⟩ := hQ25
  try rw [List.append_nil] at X25
  refine Go.step (g' := (mkF m 210 #[.val (.long q0), .second, .val (.long q1), .second, .val (.int p2), .val (.int p3), .val (.ref b1), .val (.ref b4), .val (.ref c2), .val (.ref c6), .val (.int ((p2 &&& (2147483647 : Int32)) % (5 : Int32))), .val (.int ((p3 &&& (2147483647 : Int32)) % (5 : Int32))), .val (.int fi), .val (.int la)] [(.int (f9_0 q0 q1 (5 : Int32) fi la (fun k => if 2 * fi.toNatClampNeg ≤ k ∧ k < 2 * la.toNatClampNeg then FP.dsub ((own_v q0) k) ((own_v q1) k) else (own_v q0) k) (own_v q1)))])) st25 ?_
  refine Go.step (g' := (mkF m 213 #[.val (.long q0), .second, .val (.long q1), .second, .val (.int p2), .val (.int p3), .val (.ref b1), .val (.ref b4), .val (.ref c2), .val (.ref c6), .val (.int ((p2 &&& (2147483647 : Int32)) % (5 : Int32))), .val (.int ((p3 &&& (2147483647 : Int32)) % (5 : Int32))), .val (.int fi), .val (.int la)] [])) (fun _ k => XS.ifNo X25.here hx rfl (hb hby at_210) rfl ((if0 _ _).trans (feq (own_cell 5 _ _ _ _ hfl : ¬ ((f9_0 q0 q1 (5 : Int32) fi la (fun k => if 2 * fi.toNatClampNeg ≤ k ∧ k < 2 * la.toNatClampNeg then FP.dsub ((own_v q0) k) ((own_v q1) k) else (own_v q0) k) (own_v q1)) = (0 : Int32)))).1) k) ?_
  rw [show f0_196 = f0_213 from rfl]
  refine Go.step (g' := (mkF m 215 #[.val (.long q0), .second, .val (.long q1), .second, .val (.int p2), .val (.int p3), .val (.ref b1), .val (.ref b4), .val (.ref c2), .val (.ref c6), .val (.int ((p2 &&& (2147483647 : Int32)) % (5 : Int32))), .val (.int ((p3 &&& (2147483647 : Int32)) % (5 : Int32))), .val (.int fi), .val (.int la)] [(.ref c2)])) (fun _ k => XS.aload X25.here hx rfl (hb hby at_213) rfl rfl  k) ?_
  refine Go.step (g' := (mkF m 217 #[.val (.long q0), .second, .val (.long q1), .second, .val (.int p2), .val (.int p3), .val (.ref b1), .val (.ref b4), .val (.ref c2), .val (.ref c6), .val (.int ((p2 &&& (2147483647 : Int32)) % (5 : Int32))), .val (.int ((p3 &&& (2147483647 : Int32)) % (5 : Int32))), .val (.int fi), .val (.int la)] [(.ref c6), (.ref c2)])) (fun _ k => XS.aload X25.here hx rfl (hb hby at_215) rfl rfl  k) ?_
  refine Go.step (g' := (mkF m 218 #[.val (.long q0), .second, .val (.long q1), .second, .val (.int p2), .val (.int p3), .val (.ref b1), .val (.ref b4), .val (.ref c2), .val (.ref c6), .val (.int ((p2 &&& (2147483647 : Int32)) % (5 : Int32))), .val (.int ((p3 &&& (2147483647 : Int32)) % (5 : Int32))), .val (.int fi), .val (.int la)] [(.long q0), (.ref c6), (.ref c2)])) (fun _ k => XS.lloadN X25.here hx rfl (hb hby at_217) rfl  k) ?_
  refine Go.step (g' := (mkF m 219 #[.val (.long q0), .second, .val (.long q1), .second, .val (.int p2), .val (.int p3), .val (.ref b1), .val (.ref b4), .val (.ref c2), .val (.ref c6), .val (.int ((p2 &&& (2147483647 : Int32)) % (5 : Int32))), .val (.int ((p3 &&& (2147483647 : Int32)) % (5 : Int32))), .val (.int fi), .val (.int la)] [(.long q1), (.long q0), (.ref c6), (.ref c2)])) (fun _ k => XS.lloadN X25.here hx rfl (hb hby at_218) rfl  k) ?_
  refine Go.step (g' := (mkF m 221 #[.val (.long q0), .second, .val (.long q1), .second, .val (.int p2), .val (.int p3), .val (.ref b1), .val (.ref b4), .val (.ref c2), .val (.ref c6), .val (.int ((p2 &&& (2147483647 : Int32)) % (5 : Int32))), .val (.int ((p3 &&& (2147483647 : Int32)) % (5 : Int32))), .val (.int fi), .val (.int la)] [(.int (6 : Int32)), (.long q1), (.long q0), (.ref c6), (.ref c2)])) (fun _ k => XS.bipush X25.here hx rfl (hb hby at_219) k) ?_
  refine Go.step (g' := (mkF m 223 #[.val (.long q0), .second, .val (.long q1), .second, .val (.int p2), .val (.int p3), .val (.ref b1), .val (.ref b4), .val (.ref c2), .val (.ref c6), .val (.int ((p2 &&& (2147483647 : Int32)) % (5 : Int32))), .val (.int ((p3 &&& (2147483647 : Int32)) % (5 : Int32))), .val (.int fi), .val (.int la)] [(.int fi), (.int (6 : Int32)), (.long q1), (.long q0), (.ref c6), (.ref c2)])) (fun _ k => XS.iload X25.here hx rfl (hb hby at_221) rfl  k) ?_
  refine Go.step (g' := (mkF m 225 #[.val (.long q0), .second, .val (.long q1), .second, .val (.int p2), .val (.int p3), .val (.ref b1), .val (.ref b4), .val (.ref c2), .val (.ref c6), .val (.int ((p2 &&& (2147483647 : Int32)) % (5 : Int32))), .val (.int ((p3 &&& (2147483647 : Int32)) % (5 : Int32))), .val (.int fi), .val (.int la)] [(.int la), (.int fi), (.int (6 : Int32)), (.long q1), (.long q0), (.ref c6), (.ref c2)])) (fun _ k => XS.iload X25.here hx rfl (hb hby at_223) rfl  k) ?_
  obtain ⟨_, _, ⟨T26, L26, k26, n26⟩, -, X26, ⟨Lc26, hQ26, l26, y26, z26⟩, st26⟩ := Jvm.LawKit.callS X25 hx (y := (⟨"com/example/rhadamanthus/rhadamanthus/learn/HistogramSubtractColumnsPinLaw", "cell", "([D[DJJIII)Z"⟩ : MethodName)) hown (mvT hZ (hw _ (List.mem_of_getElem? (i := 37) rfl))) (mvT hZ (hw _ (List.mem_of_getElem? (i := 38) rfl))) (mvT hZ (hw _ (List.mem_of_getElem? (i := 19) rfl))) (mvT hZ (hw _ (List.mem_of_getElem? (i := 39) rfl))) (by decide) (backOf (W := 0) (rm9 l Z a0 hw [] c2 c6 q0 q1 (6 : Int32) fi la (fun k => if 2 * fi.toNatClampNeg ≤ k ∧ k < 2 * la.toNatClampNeg then FP.dsub ((own_v q0) k) ((own_v q1) k) else (own_v q0) k) (own_v q1) T17.heap Ac17 (Ac12.keep K17 (ninS (Ne.symm ne_c2_c6) nin0)) (by decide)) hZ (hw _ (List.mem_of_getElem? (i := 39) rfl)) (hw _ (List.mem_of_getElem? (i := 19) rfl)) (by decide) (by decide)) (g := (mkF m 225 #[.val (.long q0), .second, .val (.long q1), .second, .val (.int p2), .val (.int p3), .val (.ref b1), .val (.ref b4), .val (.ref c2), .val (.ref c6), .val (.int ((p2 &&& (2147483647 : Int32)) % (5 : Int32))), .val (.int ((p3 &&& (2147483647 : Int32)) % (5 : Int32))), .val (.int fi), .val (.int la)] [(.int la), (.int fi), (.int (6 : Int32)), (.long q1), (.long q0), (.ref c6), (.ref c2)])) rfl (by rw [hml]; rfl) (argsL := [(.ref c2), (.ref c6), (.long q0), (.long q1), (.int (6 : Int32)), (.int fi), (.int la)]) (rest := []) (lenOf pd_6 rfl) rfl (by show 2 * 0 + _ ≤ _; exact Nat.le_of_eq rfl) (hb hby at_225) (fun _ _ => ⟨rfl, e25, (by decide : (((((((0 + 1) + 1) + 1) + 1) + 0) + 0) + 0) + 0 ≤ _), (by decide : (((((((0 + 4) + 8) + 4) + 8) + 0) + 0) + 0) + 0 ≤ _)⟩)
  dsimp only [Pt.U, Pt.locs, Pt.cells, Pt.slots] at X26 l26 y26 z26 st26 hQ26
  subst l26 y26 z26
  obtain ⟨rfl, rfl, e26⟩ := hQ26
  try rw [List.append_nil] at X26
  refine Go.step (g' := (mkF m 228 #[.val (.long q0), .second, .val (.long q1), .second, .val (.int p2), .val (.int p3), .val (.ref b1), .val (.ref b4), .val (.ref c2), .val (.ref c6), .val (.int ((p2 &&& (2147483647 : Int32)) % (5 : Int32))), .val (.int ((p3 &&& (2147483647 : Int32)) % (5 : Int32))), .val (.int fi), .val (.int la)] [(.int (f9_0 q0 q1 (6 : Int32) fi la (fun k => if 2 * fi.toNatClampNeg ≤ k ∧ k < 2 * la.toNatClampNeg then FP.dsub ((own_v q0) k) ((own_v q1) k) else (own_v q0) k) (own_v q1)))])) st26 ?_
  refine Go.step (g' := (mkF m 231 #[.val (.long q0), .second, .val (.long q1), .second, .val (.int p2), .val (.int p3), .val (.ref b1), .val (.ref b4), .val (.ref c2), .val (.ref c6), .val (.int ((p2 &&& (2147483647 : Int32)) % (5 : Int32))), .val (.int ((p3 &&& (2147483647 : Int32)) % (5 : Int32))), .val (.int fi), .val (.int la)] [])) (fun _ k => XS.ifNo X26.here hx rfl (hb hby at_228) rfl ((if0 _ _).trans (feq (own_cell 6 _ _ _ _ hfl : ¬ ((f9_0 q0 q1 (6 : Int32) fi la (fun k => if 2 * fi.toNatClampNeg ≤ k ∧ k < 2 * la.toNatClampNeg then FP.dsub ((own_v q0) k) ((own_v q1) k) else (own_v q0) k) (own_v q1)) = (0 : Int32)))).1) k) ?_
  rw [show f0_213 = f0_231 from rfl]
  refine Go.step (g' := (mkF m 233 #[.val (.long q0), .second, .val (.long q1), .second, .val (.int p2), .val (.int p3), .val (.ref b1), .val (.ref b4), .val (.ref c2), .val (.ref c6), .val (.int ((p2 &&& (2147483647 : Int32)) % (5 : Int32))), .val (.int ((p3 &&& (2147483647 : Int32)) % (5 : Int32))), .val (.int fi), .val (.int la)] [(.ref c2)])) (fun _ k => XS.aload X26.here hx rfl (hb hby at_231) rfl rfl  k) ?_
  refine Go.step (g' := (mkF m 235 #[.val (.long q0), .second, .val (.long q1), .second, .val (.int p2), .val (.int p3), .val (.ref b1), .val (.ref b4), .val (.ref c2), .val (.ref c6), .val (.int ((p2 &&& (2147483647 : Int32)) % (5 : Int32))), .val (.int ((p3 &&& (2147483647 : Int32)) % (5 : Int32))), .val (.int fi), .val (.int la)] [(.ref c6), (.ref c2)])) (fun _ k => XS.aload X26.here hx rfl (hb hby at_233) rfl rfl  k) ?_
  refine Go.step (g' := (mkF m 236 #[.val (.long q0), .second, .val (.long q1), .second, .val (.int p2), .val (.int p3), .val (.ref b1), .val (.ref b4), .val (.ref c2), .val (.ref c6), .val (.int ((p2 &&& (2147483647 : Int32)) % (5 : Int32))), .val (.int ((p3 &&& (2147483647 : Int32)) % (5 : Int32))), .val (.int fi), .val (.int la)] [(.long q0), (.ref c6), (.ref c2)])) (fun _ k => XS.lloadN X26.here hx rfl (hb hby at_235) rfl  k) ?_
  refine Go.step (g' := (mkF m 237 #[.val (.long q0), .second, .val (.long q1), .second, .val (.int p2), .val (.int p3), .val (.ref b1), .val (.ref b4), .val (.ref c2), .val (.ref c6), .val (.int ((p2 &&& (2147483647 : Int32)) % (5 : Int32))), .val (.int ((p3 &&& (2147483647 : Int32)) % (5 : Int32))), .val (.int fi), .val (.int la)] [(.long q1), (.long q0), (.ref c6), (.ref c2)])) (fun _ k => XS.lloadN X26.here hx rfl (hb hby at_236) rfl  k) ?_
  refine Go.step (g' := (mkF m 239 #[.val (.long q0), .second, .val (.long q1), .second, .val (.int p2), .val (.int p3), .val (.ref b1), .val (.ref b4), .val (.ref c2), .val (.ref c6), .val (.int ((p2 &&& (2147483647 : Int32)) % (5 : Int32))), .val (.int ((p3 &&& (2147483647 : Int32)) % (5 : Int32))), .val (.int fi), .val (.int la)] [(.int (7 : Int32)), (.long q1), (.long q0), (.ref c6), (.ref c2)])) (fun _ k => XS.bipush X26.here hx rfl (hb hby at_237) k) ?_
  refine Go.step (g' := (mkF m 241 #[.val (.long q0), .second, .val (.long q1), .second, .val (.int p2), .val (.int p3), .val (.ref b1), .val (.ref b4), .val (.ref c2), .val (.ref c6), .val (.int ((p2 &&& (2147483647 : Int32)) % (5 : Int32))), .val (.int ((p3 &&& (2147483647 : Int32)) % (5 : Int32))), .val (.int fi), .val (.int la)] [(.int fi), (.int (7 : Int32)), (.long q1), (.long q0), (.ref c6), (.ref c2)])) (fun _ k => XS.iload X26.here hx rfl (hb hby at_239) rfl  k) ?_
  refine Go.step (g' := (mkF m 243 #[.val (.long q0), .second, .val (.long q1), .second, .val (.int p2), .val (.int p3), .val (.ref b1), .val (.ref b4), .val (.ref c2), .val (.ref c6), .val (.int ((p2 &&& (2147483647 : Int32)) % (5 : Int32))), .val (.int ((p3 &&& (2147483647 : Int32)) % (5 : Int32))), .val (.int fi), .val (.int la)] [(.int la), (.int fi), (.int (7 : Int32)), (.long q1), (.long q0), (.ref c6), (.ref c2)])) (fun _ k => XS.iload X26.here hx rfl (hb hby at_241) rfl  k) ?_
  obtain ⟨_, _, ⟨T27, L27, k27, n27⟩, -, X27, ⟨Lc27, hQ27, l27, y27, z27⟩, st27⟩ := Jvm.LawKit.callS X26 hx (y := (⟨"com/example/rhadamanthus/rhadamanthus/learn/HistogramSubtractColumnsPinLaw", "cell", "([D[DJJIII)Z"⟩ : MethodName)) hown (mvT hZ (hw _ (List.mem_of_getElem? (i := 37) rfl))) (mvT hZ (hw _ (List.mem_of_getElem? (i := 38) rfl))) (mvT hZ (hw _ (List.mem_of_getElem? (i := 19) rfl))) (mvT hZ (hw _ (List.mem_of_getElem? (i := 39) rfl))) (by decide) (backOf (W := 0) (rm9 l Z a0 hw [] c2 c6 q0 q1 (7 : Int32) fi la (fun k => if 2 * fi.toNatClampNeg ≤ k ∧ k < 2 * la.toNatClampNeg then FP.dsub ((own_v q0) k) ((own_v q1) k) else (own_v q0) k) (own_v q1) T17.heap Ac17 (Ac12.keep K17 (ninS (Ne.symm ne_c2_c6) nin0)) (by decide)) hZ (hw _ (List.mem_of_getElem? (i := 39) rfl)) (hw _ (List.mem_of_getElem? (i := 19) rfl)) (by decide) (by decide)) (g := (mkF m 243 #[.val (.long q0), .second, .val (.long q1), .second, .val (.int p2), .val (.int p3), .val (.ref b1), .val (.ref b4), .val (.ref c2), .val (.ref c6), .val (.int ((p2 &&& (2147483647 : Int32)) % (5 : Int32))), .val (.int ((p3 &&& (2147483647 : Int32)) % (5 : Int32))), .val (.int fi), .val (.int la)] [(.int la), (.int fi), (.int (7 : Int32)), (.long q1), (.long q0), (.ref c6), (.ref c2)])) rfl (by rw [hml]; rfl) (argsL := [(.ref c2), (.ref c6), (.long q0), (.long q1), (.int (7 : Int32)), (.int fi), (.int la)]) (rest := []) (lenOf pd_6 rfl) rfl (by show 2 * 0 + _ ≤ _; exact Nat.le_of_eq rfl) (hb hby at_243) (fun _ _ => ⟨rfl, e26, (by decide : (((((((0 + 1) + 1) + 1) + 1) + 0) + 0) + 0) + 0 ≤ _), (by decide : (((((((0 + 4) + 8) + 4) + 8) + 0) + 0) + 0) + 0 ≤ _)⟩)
  dsimp only [Pt.U, Pt.locs, Pt.cells, Pt.slots] at X27 l27 y27 z27 st27 hQ27
  subst l27 y27 z27
  obtain ⟨rfl, rfl, e27⟩ := hQ27
  try rw [List.append_nil] at X27
  refine Go.step (g' := (mkF m 246 #[.val (.long q0), .second, .val (.long q1), .second, .val (.int p2), .val (.int p3), .val (.ref b1), .val (.ref b4), .val (.ref c2), .val (.ref c6), .val (.int ((p2 &&& (2147483647 : Int32)) % (5 : Int32))), .val (.int ((p3 &&& (2147483647 : Int32)) % (5 : Int32))), .val (.int fi), .val (.int la)] [(.int (f9_0 q0 q1 (7 : Int32) fi la (fun k => if 2 * fi.toNatClampNeg ≤ k ∧ k < 2 * la.toNatClampNeg then FP.dsub ((own_v q0) k) ((own_v q1) k) else (own_v q0) k) (own_v q1)))])) st27 ?_
  refine Go.step (g' := (mkF m 249 #[.val (.long q0), .second, .val (.long q1), .second, .val (.int p2), .val (.int p3), .val (.ref b1), .val (.ref b4), .val (.ref c2), .val (.ref c6), .val (.int ((p2 &&& (2147483647 : Int32)) % (5 : Int32))), .val (.int ((p3 &&& (2147483647 : Int32)) % (5 : Int32))), .val (.int fi), .val (.int la)] [])) (fun _ k => XS.ifNo X27.here hx rfl (hb hby at_246) rfl ((if0 _ _).trans (feq (own_cell 7 _ _ _ _ hfl : ¬ ((f9_0 q0 q1 (7 : Int32) fi la (fun k => if 2 * fi.toNatClampNeg ≤ k ∧ k < 2 * la.toNatClampNeg then FP.dsub ((own_v q0) k) ((own_v q1) k) else (own_v q0) k) (own_v q1)) = (0 : Int32)))).1) k) ?_
  rw [show f0_231 = f0_249 from rfl]
  refine Go.step (g' := (mkF m 250 #[.val (.long q0), .second, .val (.long q1), .second, .val (.int p2), .val (.int p3), .val (.ref b1), .val (.ref b4), .val (.ref c2), .val (.ref c6), .val (.int ((p2 &&& (2147483647 : Int32)) % (5 : Int32))), .val (.int ((p3 &&& (2147483647 : Int32)) % (5 : Int32))), .val (.int fi), .val (.int la)] [(.int (1 : Int32))])) (fun _ k => XS.iconst X27.here hx rfl (hb hby at_249) k) ?_
  refine Go.step (g' := (mkF m 254 #[.val (.long q0), .second, .val (.long q1), .second, .val (.int p2), .val (.int p3), .val (.ref b1), .val (.ref b4), .val (.ref c2), .val (.ref c6), .val (.int ((p2 &&& (2147483647 : Int32)) % (5 : Int32))), .val (.int ((p3 &&& (2147483647 : Int32)) % (5 : Int32))), .val (.int fi), .val (.int la)] [(.int (1 : Int32))])) (fun _ k => XS.goto X27.here hx rfl (pc0 := 250) (pc' := 254) rfl (hb hby at_250) (by decide) (by decide) k) ?_
  rw [show f0_249 = f0_254 from rfl]
  exact Go.retN X27 hx hlk (t := .boolean) Bd.returns (by simp) (hb hby at_254) (by decide) (by decide) ⟨rfl, N17⟩
set_option maxRecDepth 65536 in
set_option maxHeartbeats 40000000 in
theorem comes_1 {Post : Tables → Env → Array Value → State → Outcome → State → Prop} (hpost : ∀ tb e args s v u, (limb_1_1.after args s (.returned v) u = true ∧ limb_1_2.after args s (.returned v) u = true) → FrameEnd s (.returned v) u (Jvm.fieldLocs frame_1_writes args s ++ Jvm.arrayLocs frame_1_arrays args s ++ Jvm.staticLocs frame_1_statics s) 16 128 → Post tb e args s (.returned v) u) :
    ArmFor flags0 classFile x code maxLocals ret World_1 tables_1 room_1 Calls_1 rest_1 Pre_1 Post := by
  intro l hfl _ _ p e ha hc hk s m args below hf hA hF happ hP
  obtain ⟨hcalls, hrest, hpre⟩ := hP
  obtain ⟨-, -, -, hnamed, -, -, -, hat⟩ := (Spec.applies_iff hf).mp happ
  obtain ⟨hg, hn⟩ := and_e (Cond.before_iff.mp (show (Jvm.Cond.and given_1 narrow_1).before args s = true from hpre))
  obtain ⟨gc, hg⟩ := and_e hg
  obtain ⟨g0, hg⟩ := and_e hg
  obtain ⟨g1, hg⟩ := and_e hg
  obtain ⟨g2, hg⟩ := and_e hg
  have g3 := hg
  obtain ⟨w0, w1, w2, w3, rfl⟩ : ∃ w0 w1 w2 w3 : Value, args = #[w0, w1, w2, w3] := by
    have hs : args.size = 4 := by simpa [Cond.value, given_1] using gc
    obtain ⟨L⟩ := args
    match L, hs with
    | [w0, w1, w2, w3], _ => exact ⟨w0, w1, w2, w3, rfl⟩
  have hw := fun d (hd : d ∈ tables_1) => atoms_spec (ws := Jvm.Cond.code x code maxLocals ret :: tables_1) hat d (List.mem_cons_of_mem _ hd)
  have hfit : Fit s := fun {y c} hc i hi => by
    obtain ⟨ha, rfl⟩ := Array.getElem?_eq_some_iff.mp hc
    have q := List.all_eq_true.mp ((Array.all_eq_true_iff_forall_mem.mp hF) _ (Array.getElem_mem ha)) i (List.mem_range.mpr hi)
    simpa [Array.getElem?_eq_getElem hi] using q
  obtain ⟨i0, ei0⟩ := isL_v g0
  obtain rfl : w0 = (.long i0) := Option.some.inj ei0
  obtain ⟨i1, ei1⟩ := isL_v g1
  obtain rfl : w1 = (.long i1) := Option.some.inj ei1
  obtain ⟨i2, ei2⟩ := is_v g2
  obtain rfl : w2 = (.int i2) := Option.some.inj ei2
  obtain ⟨i3, ei3⟩ := is_v g3
  obtain rfl : w3 = (.int i3) := Option.some.inj ei3
  obtain ⟨n, o, h1, h2, h3, v, L, rfl, hQ, hq⟩ := rm0 l s _ hw tables_1 i0 i1 i2 i3  s.heap s.heap.size (Nat.le_refl _)  p e ha hc hk s m _ below hf ((Spec.applies_iff_loose hf).mp happ).1 ⟨rfl, State.Warmed39.refl s, rfl⟩ trivial
  obtain ⟨rfl, N⟩ := hQ
  rw [law_eq] at *
  refine ⟨n, _, h1, h2, h3, hpost _ _ _ _ _ _ ⟨Cond.after_iff.mpr rfl, Cond.after_iff.mpr (eq_i res_at (Term.int_eval (1)) rfl)⟩ ⟨hq.1, hq.2.1, (hq.2.2.sift fun y hy => Or.inr (N y hy)).mono (by decide) (by decide)⟩⟩
theorem main_1_1 : Claimed_1_1 := comes_1 fun _ _ _ _ _ _ h hF => ⟨h.1, hF⟩
theorem main_1_2 : Claimed_1_2 := comes_1 fun _ _ _ _ _ _ h hF => ⟨h.2, hF⟩
end Jvm.Pilot.@@N@@
namespace Jvm.Pilot.@@N@@
open Jvm Jvm.ClassFile Sem Op Lib Jvm.Free Jvm.Stand Jvm.Pilot.@@N@@.Jvm.D
/-! MADE BY PROGRAM (witnessworld.py) out of the Statement's table words and the real class files: 10 classes; the members and pool entries that the words name. The judged class is class 1, her method 1. -/
namespace start1
open Jvm.ClassFile
def u (s : String) : CpInfo := .utf8 (stringToUtf16 s)
/-- a pool by its gaps: so many unusable entries, then the entry; so many at the end -/
def gap : Nat → List CpInfo → List CpInfo
  | 0, r => r
  | n + 1, r => .unusable :: gap n r
def poolList (es : List (Nat × CpInfo)) (last : Nat) : List CpInfo := es.foldr (fun e r => gap e.1 (e.2 :: r)) (gap last [])
def pool (es : List (Nat × CpInfo)) (last : Nat) : Array CpInfo := ⟨poolList es last⟩
def fileOf (pool : Array CpInfo) (this : Nat) (attrs : Array Attribute := #[]) (ms : Array MethodInfo := #[]) (fl : Nat := 33) (sup : Nat := 0) (ifs : Array Nat := #[]) (fds : Array FieldInfo := #[]) : ClassFile where
  minorVersion := 0
  majorVersion := 65
  constantPool := pool
  accessFlags := fl
  thisClass := this
  superClass := sup
  interfaces := ifs
  fields := fds
  methods := ms
  attributes := attrs
def plain (name : String) (sup : Option ClassId) : Class where
  name := name
  kind := .ordinary
  loader := none
  accessFlags := 33
  super := sup
  interfaces := #[]
  cf := none
  fields := #[]
  methods := #[]
  instanceTypes := #[]
  staticTypes := #[]
  resolved := #[]
  callSites := []
  init := .initialized
  statics := none
  mirror := none

def pool0 : Array CpInfo := pool [(5, u "<init>"), (0, u "()V"), (1, .class_ 10), (1, u "java/lang/Object")] 113

def k0c0 : Code := { maxStack := 0, maxLocals := 1, code := object_method_1_code, exceptionTable := #[], attributes := #[] }
def k0m0 : Method := { name := "<init>", desc := "()V", sig := { parameters := [], returnType := none }, accessFlags := 1, code := some k0c0 }
/-- java/lang/Object -/
def k0 : Class := { plain "java/lang/Object" none with
  accessFlags := 33
  interfaces := #[]
  cf := some (fileOf pool0 8 #[] #[{ accessFlags := 1, nameIndex := 5, descriptorIndex := 6, attributes := #[] }] 33 0 #[] #[])
  fields := #[]
  methods := #[k0m0]
  instanceTypes := #[]
  staticTypes := #[]
  resolved := Array.replicate 124 none
  statics := none }

def pool1 : Array CpInfo := pool [(2, .class_ 4), (1, u "java/lang/Object"), (0, u "<init>"), (0, u "()V"), (0, .class_ 8), (0, u "com/example/rhadamanthus/rhadamanthus/learn/Histogram"), (0, .methodref 7 10), (0, .nameAndType 5 11), (0, u "(I)V"), (0, .methodref 7 13), (0, .nameAndType 14 15), (0, u "cells"), (0, u "()[D"), (0, .methodref 17 18), (0, .class_ 19), (0, .nameAndType 20 21), (0, u "com/example/rhadamanthus/rhadamanthus/learn/HistogramSubtractColumnsPinLaw"), (0, u "fill"), (0, u "([DJ)V"), (0, .integer 2147483647), (0, .methodref 24 25), (0, .class_ 26), (0, .nameAndType 27 28), (0, u "java/lang/Math"), (0, u "min"), (0, u "(II)I"), (0, .methodref 24 30), (0, .nameAndType 31 28), (0, u "max"), (0, .methodref 7 33), (0, .nameAndType 34 35), (0, u "subtractColumns"), (0, u "(Lcom/example/rhadamanthus/rhadamanthus/learn/Histogram;II)V"), (0, .methodref 17 37), (0, .nameAndType 38 39), (0, u "cell"), (0, u "([D[DJJIII)Z"), (0, .methodref 17 41), (0, .nameAndType 42 43), (0, u "v"), (0, u "(JI)D"), (2, u "law"), (0, u "(JJII)Z")] 5

def k1m0 : Method := { name := "<init>", desc := "()V", sig := { parameters := [], returnType := none }, accessFlags := 1, code := none }
def k1c1 : Code := { maxStack := 9, maxLocals := 14, code := code, exceptionTable := #[], attributes := #[] }
def k1m1 : Method := { name := "law", desc := "(JJII)Z", sig := { parameters := [.long, .long, .int, .int], returnType := some .boolean }, accessFlags := 9, code := some k1c1 }
def k1c2 : Code := { maxStack := 4, maxLocals := 3, code := method_3_code, exceptionTable := #[], attributes := #[] }
def k1m2 : Method := { name := "v", desc := "(JI)D", sig := { parameters := [.long, .int], returnType := some .double }, accessFlags := 10, code := some k1c2 }
def k1c3 : Code := { maxStack := 5, maxLocals := 3, code := method_4_code, exceptionTable := #[], attributes := #[] }
def k1m3 : Method := { name := "fill", desc := "([DJ)V", sig := { parameters := [(.array .double), .long], returnType := none }, accessFlags := 10, code := some k1c3 }
def k1c4 : Code := { maxStack := 5, maxLocals := 12, code := method_5_code, exceptionTable := #[], attributes := #[] }
def k1m4 : Method := { name := "cell", desc := "([D[DJJIII)Z", sig := { parameters := [(.array .double), (.array .double), .long, .long, .int, .int, .int], returnType := some .boolean }, accessFlags := 10, code := some k1c4 }
/-- com/example/rhadamanthus/rhadamanthus/learn/HistogramSubtractColumnsPinLaw -/
def k1 : Class := { plain "com/example/rhadamanthus/rhadamanthus/learn/HistogramSubtractColumnsPinLaw" (some 0) with
  accessFlags := 49
  interfaces := #[]
  cf := some (fileOf pool1 17 #[] #[{ accessFlags := 1, nameIndex := 5, descriptorIndex := 6, attributes := #[] }, { accessFlags := 9, nameIndex := 46, descriptorIndex := 47, attributes := #[] }, { accessFlags := 10, nameIndex := 42, descriptorIndex := 43, attributes := #[] }, { accessFlags := 10, nameIndex := 20, descriptorIndex := 21, attributes := #[] }, { accessFlags := 10, nameIndex := 38, descriptorIndex := 39, attributes := #[] }] 49 2 #[] #[])
  fields := #[]
  methods := #[k1m0, k1m1, k1m2, k1m3, k1m4]
  instanceTypes := #[]
  staticTypes := #[]
  resolved := Array.replicate 53 none
  statics := none }

def pool2 : Array CpInfo := pool [(1, .methodref 2 3), (0, .class_ 4), (0, .nameAndType 5 6), (0, u "java/lang/Object"), (0, u "<init>"), (0, u "()V"), (0, .fieldref 8 9), (0, .class_ 10), (0, .nameAndType 11 12), (0, u "com/example/rhadamanthus/rhadamanthus/learn/Histogram"), (0, u "cells"), (0, u "[D"), (17, u "held"), (0, u "Lcom/example/rhadamanthus/rhadamanthus/learn/HeldBins;"), (2, u "sum"), (0, u "D"), (2, u "count"), (0, u "I"), (0, u "(I)V"), (5, u "()[D"), (9, u "subtractColumns"), (0, u "(Lcom/example/rhadamanthus/rhadamanthus/learn/Histogram;II)V")] 18

def k2c0 : Code := { maxStack := 3, maxLocals := 2, code := prog_64_method_1_code, exceptionTable := #[], attributes := #[] }
def k2m0 : Method := { name := "<init>", desc := "(I)V", sig := { parameters := [.int], returnType := none }, accessFlags := 0, code := some k2c0 }
def k2c1 : Code := { maxStack := 1, maxLocals := 1, code := prog_64_method_3_code, exceptionTable := #[], attributes := #[] }
def k2m1 : Method := { name := "cells", desc := "()[D", sig := { parameters := [], returnType := some (.array .double) }, accessFlags := 0, code := some k2c1 }
def k2c2 : Code := { maxStack := 6, maxLocals := 7, code := prog_64_method_10_code, exceptionTable := #[], attributes := #[] }
def k2m2 : Method := { name := "subtractColumns", desc := "(Lcom/example/rhadamanthus/rhadamanthus/learn/Histogram;II)V", sig := { parameters := [(.object "com/example/rhadamanthus/rhadamanthus/learn/Histogram"), .int, .int], returnType := none }, accessFlags := 0, code := some k2c2 }
/-- com/example/rhadamanthus/rhadamanthus/learn/Histogram -/
def k2 : Class := { plain "com/example/rhadamanthus/rhadamanthus/learn/Histogram" (some 0) with
  accessFlags := 32
  interfaces := #[]
  cf := some (fileOf pool2 8 #[] #[{ accessFlags := 0, nameIndex := 5, descriptorIndex := 40, attributes := #[] }, { accessFlags := 0, nameIndex := 11, descriptorIndex := 46, attributes := #[] }, { accessFlags := 0, nameIndex := 56, descriptorIndex := 57, attributes := #[] }] 32 2 #[] #[{ accessFlags := 18, nameIndex := 11, descriptorIndex := 12, attributes := #[] }, { accessFlags := 2, nameIndex := 30, descriptorIndex := 31, attributes := #[] }, { accessFlags := 2, nameIndex := 34, descriptorIndex := 35, attributes := #[] }, { accessFlags := 2, nameIndex := 38, descriptorIndex := 39, attributes := #[] }])
  fields := #[{ name := "cells", type := (.array .double), accessFlags := 18, slot := 0, constantValue := 0 }, { name := "held", type := (.object "com/example/rhadamanthus/rhadamanthus/learn/HeldBins"), accessFlags := 2, slot := 1, constantValue := 0 }, { name := "sum", type := .double, accessFlags := 2, slot := 2, constantValue := 0 }, { name := "count", type := .int, accessFlags := 2, slot := 3, constantValue := 0 }]
  methods := #[k2m0, k2m1, k2m2]
  instanceTypes := #[(.array .double), (.object "com/example/rhadamanthus/rhadamanthus/learn/HeldBins"), .double, .int]
  staticTypes := #[]
  resolved := Array.replicate 76 none
  statics := none }

def pool3 : Array CpInfo := pool [(1, .class_ 2), (0, u "java/lang/Math"), (1, .class_ 6), (1, u "java/lang/Object"), (0, u "<init>"), (0, u "()V"), (89, .class_ 100), (1, u "java/lang/Math$RandomNumberGeneratorHolder"), (71, u "negativeZeroFloatBits"), (0, u "J"), (2, u "negativeZeroDoubleBits"), (21, u "max"), (2, u "min"), (43, u "$assertionsDisabled"), (0, u "Z"), (88, u "(II)I"), (2, u "twoToTheDoubleScaleDown"), (0, u "D"), (4, u "twoToTheDoubleScaleUp"), (9, u "E"), (3, u "PI"), (2, u "TAU"), (2, u "DEGREES_TO_RADIANS"), (0, u "RADIANS_TO_DEGREES")] 94

def k3m0 : Method := { name := "<init>", desc := "()V", sig := { parameters := [], returnType := none }, accessFlags := 2, code := none }
def k3c1 : Code := { maxStack := 2, maxLocals := 2, code := jdk_29_method_65_code, exceptionTable := #[], attributes := #[] }
def k3m1 : Method := { name := "max", desc := "(II)I", sig := { parameters := [.int, .int], returnType := some .int }, accessFlags := 9, code := some k3c1 }
def k3c2 : Code := { maxStack := 2, maxLocals := 2, code := jdk_29_method_69_code, exceptionTable := #[], attributes := #[] }
def k3m2 : Method := { name := "min", desc := "(II)I", sig := { parameters := [.int, .int], returnType := some .int }, accessFlags := 9, code := some k3c2 }
/-- java/lang/Math -/
def k3 : Class := { plain "java/lang/Math" (some 0) with
  accessFlags := 49
  interfaces := #[]
  cf := some (fileOf pool3 1 #[.nestMembers #[98]] #[{ accessFlags := 2, nameIndex := 7, descriptorIndex := 8, attributes := #[] }, { accessFlags := 9, nameIndex := 198, descriptorIndex := 335, attributes := #[] }, { accessFlags := 9, nameIndex := 201, descriptorIndex := 335, attributes := #[] }] 49 4 #[] #[{ accessFlags := 25, nameIndex := 354, descriptorIndex := 339, attributes := #[] }, { accessFlags := 25, nameIndex := 358, descriptorIndex := 339, attributes := #[] }, { accessFlags := 25, nameIndex := 361, descriptorIndex := 339, attributes := #[] }, { accessFlags := 26, nameIndex := 364, descriptorIndex := 339, attributes := #[] }, { accessFlags := 26, nameIndex := 365, descriptorIndex := 339, attributes := #[] }, { accessFlags := 26, nameIndex := 172, descriptorIndex := 173, attributes := #[] }, { accessFlags := 26, nameIndex := 176, descriptorIndex := 173, attributes := #[] }, { accessFlags := 8, nameIndex := 344, descriptorIndex := 339, attributes := #[] }, { accessFlags := 8, nameIndex := 338, descriptorIndex := 339, attributes := #[] }, { accessFlags := 4120, nameIndex := 245, descriptorIndex := 246, attributes := #[] }])
  fields := #[{ name := "E", type := .double, accessFlags := 25, slot := 0, constantValue := 0 }, { name := "PI", type := .double, accessFlags := 25, slot := 1, constantValue := 0 }, { name := "TAU", type := .double, accessFlags := 25, slot := 2, constantValue := 0 }, { name := "DEGREES_TO_RADIANS", type := .double, accessFlags := 26, slot := 3, constantValue := 0 }, { name := "RADIANS_TO_DEGREES", type := .double, accessFlags := 26, slot := 4, constantValue := 0 }, { name := "negativeZeroFloatBits", type := .long, accessFlags := 26, slot := 5, constantValue := 0 }, { name := "negativeZeroDoubleBits", type := .long, accessFlags := 26, slot := 6, constantValue := 0 }, { name := "twoToTheDoubleScaleUp", type := .double, accessFlags := 8, slot := 7, constantValue := 0 }, { name := "twoToTheDoubleScaleDown", type := .double, accessFlags := 8, slot := 8, constantValue := 0 }, { name := "$assertionsDisabled", type := .boolean, accessFlags := 4120, slot := 9, constantValue := 0 }]
  methods := #[k3m0, k3m1, k3m2]
  instanceTypes := #[]
  staticTypes := #[.double, .double, .double, .double, .double, .long, .long, .double, .double, .boolean]
  resolved := Array.replicate 460 none
  statics := none }

def pool4 : Array CpInfo := pool [(1, u "java/lang/Cloneable"), (0, .class_ 1), (0, u "java/lang/Object"), (0, .class_ 3)] 3

/-- java/lang/Cloneable -/
def k4 : Class := { plain "java/lang/Cloneable" (some 0) with
  accessFlags := 1537
  interfaces := #[]
  cf := some (fileOf pool4 2 #[] #[] 1537 4 #[] #[])
  fields := #[]
  methods := #[]
  instanceTypes := #[]
  staticTypes := #[]
  resolved := Array.replicate 8 none
  statics := none }

def pool5 : Array CpInfo := pool [(1, u "java/io/Serializable"), (0, .class_ 1), (0, u "java/lang/Object"), (0, .class_ 3)] 3

/-- java/io/Serializable -/
def k5 : Class := { plain "java/io/Serializable" (some 0) with
  accessFlags := 1537
  interfaces := #[]
  cf := some (fileOf pool5 2 #[] #[] 1537 4 #[] #[])
  fields := #[]
  methods := #[]
  instanceTypes := #[]
  staticTypes := #[]
  resolved := Array.replicate 8 none
  statics := none }

/-- the primitive byte -/
def k6 : Class := { plain "byte" none with kind := .primitive 'B', accessFlags := 0x411 }
/-- [B -/
def k7 : Class := { plain "[B" (some 0) with kind := .array 6 .byte, interfaces := #[4, 5], accessFlags := 1041 }

/-- the primitive int -/
def k8 : Class := { plain "int" none with kind := .primitive 'I', accessFlags := 0x411 }
/-- [I -/
def k9 : Class := { plain "[I" (some 0) with kind := .array 8 .int, interfaces := #[4, 5], accessFlags := 1041 }

/-- the primitive double -/
def k10 : Class := { plain "double" none with kind := .primitive 'D', accessFlags := 0x411 }
/-- [D -/
def k11 : Class := { plain "[D" (some 0) with kind := .array 10 .double, interfaces := #[4, 5], accessFlags := 1041 }

def heap : Heap := #[]
def classes : Array Class := #[k0, k1, k2, k3, k4, k5, k6, k7, k8, k9, k10, k11]
def interned : List (Array UInt16 × Addr) := []
def slotsUsed : Nat := 0
def theMethod : MethodId := ⟨1, 1⟩
def args0 : Array Value := #[.long 123456789, .long 987654321, .int 1, .int 3]
def aboutOver (below : List Frame) : State where
  vm := { classes := classes, interned := interned.toArray }
  heap := heap
  slotsUsed := slotsUsed
  threads := #[{ frames := .invoking theMethod args0 :: below }]
def below0 : List Frame := [.native { method := ⟨0, 0⟩, args := #[] }]
def about1 : State := aboutOver below0
def p0 : Program := .bare "" "" ""
def e0 : Env := launch0.env 0 0 0
theorem w_frames : about1.frames = Frame.invoking theMethod args0 :: below0 := rfl
set_option maxRecDepth 65536 in
theorem w_args : argsFit about1.vm theMethod args0 = true := by decide +kernel
set_option maxRecDepth 65536 in
theorem w_heap : heapFits about1 = true := by decide +kernel
set_option maxRecDepth 65536 in
theorem w_runnable : about1.curStatus? = some .runnable := by decide +kernel
set_option maxRecDepth 65536 in
theorem w_alone : about1.alone = true := by decide +kernel
set_option maxRecDepth 65536 in
theorem w_named : about1.methodNamed? x = some theMethod := by decide +kernel
set_option maxRecDepth 65536 in
theorem w_hears : about1.hears theMethod below0 = true := by decide +kernel
set_option maxRecDepth 65536 in
theorem w_ripe : about1.ripe theMethod args0 below0 = true := by decide +kernel
theorem w_running : about1.status = .running := rfl
set_option maxRecDepth 65536 in
theorem w_room : about1.hasRoom e0.platform room_1 = true :=
  launch0.hasRoom_least _ room_1 (by decide +kernel) (by decide +kernel) (by decide +kernel) (by decide +kernel) (by decide +kernel) (by decide +kernel)
theorem allAtoms_all (ts : List Jvm.Cond) (a : Array Jvm.Value) (st : Jvm.State) : (allAtoms ts).before a st = ts.all (fun c => c.before a st) := by
  induction ts with
  | nil => rfl
  | cons c t ih =>
    show (Jvm.Cond.and c (allAtoms t)).before a st = _
    rw [Jvm.Cond.before_and, ih, List.all_cons]
def words1 : List Jvm.Cond := Jvm.Cond.code x code maxLocals ret :: tables_1
/-- a 'code' word, met by the world's own term for the bytes: nothing is compared byte by byte -/
theorem code_word {y : MethodName} {bytes : ByteArray} {mx : Nat} {rt : Option FieldType} {a : Array Value} {s : State} {m : MethodId} {meth : Method} {c : Code} (h1 : s.methodNamed? y = some m) (h2 : s.vm.method? m = some meth) (h3 : meth.code = some c) (h4 : c.code = bytes)
    (h5 : (c.maxLocals == mx && c.exceptionTable.isEmpty && decide (c.maxStack ≤ mostOperands) && decide (meth.sig.returnType = rt) && !meth.locks && decide (parseMethodDescriptor y.desc = some meth.sig)) = true) : (Jvm.Cond.code y bytes mx rt).before a s = true := by
  simp only [Bool.and_eq_true, beq_iff_eq, Bool.not_eq_true', decide_eq_true_eq] at h5
  obtain ⟨⟨⟨⟨⟨g1, g2⟩, g3⟩, g4⟩, g5⟩, g6⟩ := h5
  simp [Cond.before, Cond.holds, Cond.value, h1, h2, h3, h4, g1, g2, g3, g4, g5, g6]
def isCode : Jvm.Cond → Bool
  | .code _ _ _ _ => true
  | _ => false
theorem all_split {L : List Jvm.Cond} {P : Jvm.Cond → Bool} (h1 : L.all (fun c => isCode c || P c) = true) (h2 : ∀ c ∈ L.filter isCode, P c = true) : L.all P = true := by
  refine List.all_eq_true.mpr fun c hc => ?_
  have h := List.all_eq_true.mp h1 c hc
  rcases Bool.eq_false_or_eq_true (isCode c) with hi | hi
  · exact h2 c (List.mem_filter.mpr ⟨hc, hi⟩)
  · simpa [hi] using h
set_option maxRecDepth 65536 in
theorem w_c0 : (Jvm.Cond.code x code maxLocals ret).before args0 about1 = true := code_word (m := ⟨1, 1⟩) (meth := k1m1) (c := k1c1) (by decide +kernel) rfl rfl rfl (by decide +kernel)
set_option maxRecDepth 65536 in
theorem w_c1 : (Jvm.Cond.code ({ cls := "com/example/rhadamanthus/rhadamanthus/learn/Histogram", name := "<init>", desc := "(I)V" } : Jvm.MethodName) prog_64_method_1_code (2 : Nat) (Option.none : Option Jvm.ClassFile.FieldType)).before args0 about1 = true := code_word (m := ⟨2, 0⟩) (meth := k2m0) (c := k2c0) (by decide +kernel) rfl rfl rfl (by decide +kernel)
set_option maxRecDepth 65536 in
theorem w_c2 : (Jvm.Cond.code ({ cls := "java/lang/Object", name := "<init>", desc := "()V" } : Jvm.MethodName) object_method_1_code (1 : Nat) (Option.none : Option Jvm.ClassFile.FieldType)).before args0 about1 = true := code_word (m := ⟨0, 0⟩) (meth := k0m0) (c := k0c0) (by decide +kernel) rfl rfl rfl (by decide +kernel)
set_option maxRecDepth 65536 in
theorem w_c3 : (Jvm.Cond.code ({ cls := "com/example/rhadamanthus/rhadamanthus/learn/Histogram", name := "cells", desc := "()[D" } : Jvm.MethodName) prog_64_method_3_code (1 : Nat) (Option.some (Jvm.ClassFile.FieldType.array Jvm.ClassFile.FieldType.double))).before args0 about1 = true := code_word (m := ⟨2, 1⟩) (meth := k2m1) (c := k2c1) (by decide +kernel) rfl rfl rfl (by decide +kernel)
set_option maxRecDepth 65536 in
theorem w_c4 : (Jvm.Cond.code ({ cls := "com/example/rhadamanthus/rhadamanthus/learn/HistogramSubtractColumnsPinLaw", name := "fill", desc := "([DJ)V" } : Jvm.MethodName) method_4_code (3 : Nat) (Option.none : Option Jvm.ClassFile.FieldType)).before args0 about1 = true := code_word (m := ⟨1, 3⟩) (meth := k1m3) (c := k1c3) (by decide +kernel) rfl rfl rfl (by decide +kernel)
set_option maxRecDepth 65536 in
theorem w_c5 : (Jvm.Cond.code ({ cls := "com/example/rhadamanthus/rhadamanthus/learn/HistogramSubtractColumnsPinLaw", name := "v", desc := "(JI)D" } : Jvm.MethodName) method_3_code (3 : Nat) (Option.some Jvm.ClassFile.FieldType.double)).before args0 about1 = true := code_word (m := ⟨1, 2⟩) (meth := k1m2) (c := k1c2) (by decide +kernel) rfl rfl rfl (by decide +kernel)
set_option maxRecDepth 65536 in
theorem w_c6 : (Jvm.Cond.code ({ cls := "java/lang/Math", name := "min", desc := "(II)I" } : Jvm.MethodName) jdk_29_method_69_code (2 : Nat) (Option.some Jvm.ClassFile.FieldType.int)).before args0 about1 = true := code_word (m := ⟨3, 2⟩) (meth := k3m2) (c := k3c2) (by decide +kernel) rfl rfl rfl (by decide +kernel)
set_option maxRecDepth 65536 in
theorem w_c7 : (Jvm.Cond.code ({ cls := "java/lang/Math", name := "max", desc := "(II)I" } : Jvm.MethodName) jdk_29_method_65_code (2 : Nat) (Option.some Jvm.ClassFile.FieldType.int)).before args0 about1 = true := code_word (m := ⟨3, 1⟩) (meth := k3m1) (c := k3c1) (by decide +kernel) rfl rfl rfl (by decide +kernel)
set_option maxRecDepth 65536 in
theorem w_c8 : (Jvm.Cond.code ({ cls := "com/example/rhadamanthus/rhadamanthus/learn/Histogram", name := "subtractColumns", desc := "(Lcom/example/rhadamanthus/rhadamanthus/learn/Histogram;II)V" } : Jvm.MethodName) prog_64_method_10_code (7 : Nat) (Option.none : Option Jvm.ClassFile.FieldType)).before args0 about1 = true := code_word (m := ⟨2, 2⟩) (meth := k2m2) (c := k2c2) (by decide +kernel) rfl rfl rfl (by decide +kernel)
set_option maxRecDepth 65536 in
theorem w_c9 : (Jvm.Cond.code ({ cls := "com/example/rhadamanthus/rhadamanthus/learn/HistogramSubtractColumnsPinLaw", name := "cell", desc := "([D[DJJIII)Z" } : Jvm.MethodName) method_5_code (12 : Nat) (Option.some Jvm.ClassFile.FieldType.boolean)).before args0 about1 = true := code_word (m := ⟨1, 4⟩) (meth := k1m4) (c := k1c4) (by decide +kernel) rfl rfl rfl (by decide +kernel)
def codes1 : List Jvm.Cond := [Jvm.Cond.code x code maxLocals ret, Jvm.Cond.code ({ cls := "com/example/rhadamanthus/rhadamanthus/learn/Histogram", name := "<init>", desc := "(I)V" } : Jvm.MethodName) prog_64_method_1_code (2 : Nat) (Option.none : Option Jvm.ClassFile.FieldType), Jvm.Cond.code ({ cls := "java/lang/Object", name := "<init>", desc := "()V" } : Jvm.MethodName) object_method_1_code (1 : Nat) (Option.none : Option Jvm.ClassFile.FieldType), Jvm.Cond.code ({ cls := "com/example/rhadamanthus/rhadamanthus/learn/Histogram", name := "cells", desc := "()[D" } : Jvm.MethodName) prog_64_method_3_code (1 : Nat) (Option.some (Jvm.ClassFile.FieldType.array Jvm.ClassFile.FieldType.double)), Jvm.Cond.code ({ cls := "com/example/rhadamanthus/rhadamanthus/learn/HistogramSubtractColumnsPinLaw", name := "fill", desc := "([DJ)V" } : Jvm.MethodName) method_4_code (3 : Nat) (Option.none : Option Jvm.ClassFile.FieldType), Jvm.Cond.code ({ cls := "com/example/rhadamanthus/rhadamanthus/learn/HistogramSubtractColumnsPinLaw", name := "v", desc := "(JI)D" } : Jvm.MethodName) method_3_code (3 : Nat) (Option.some Jvm.ClassFile.FieldType.double), Jvm.Cond.code ({ cls := "java/lang/Math", name := "min", desc := "(II)I" } : Jvm.MethodName) jdk_29_method_69_code (2 : Nat) (Option.some Jvm.ClassFile.FieldType.int), Jvm.Cond.code ({ cls := "java/lang/Math", name := "max", desc := "(II)I" } : Jvm.MethodName) jdk_29_method_65_code (2 : Nat) (Option.some Jvm.ClassFile.FieldType.int), Jvm.Cond.code ({ cls := "com/example/rhadamanthus/rhadamanthus/learn/Histogram", name := "subtractColumns", desc := "(Lcom/example/rhadamanthus/rhadamanthus/learn/Histogram;II)V" } : Jvm.MethodName) prog_64_method_10_code (7 : Nat) (Option.none : Option Jvm.ClassFile.FieldType), Jvm.Cond.code ({ cls := "com/example/rhadamanthus/rhadamanthus/learn/HistogramSubtractColumnsPinLaw", name := "cell", desc := "([D[DJJIII)Z" } : Jvm.MethodName) method_5_code (12 : Nat) (Option.some Jvm.ClassFile.FieldType.boolean)]
set_option maxRecDepth 65536 in
theorem codes_eq : words1.filter isCode = codes1 := rfl
theorem w_codes : ∀ c ∈ words1.filter isCode, c.before args0 about1 = true := by
  rw [codes_eq]
  intro c hc
  simp only [codes1, List.mem_cons, List.not_mem_nil, or_false] at hc
  rcases hc with rfl | rfl | rfl | rfl | rfl | rfl | rfl | rfl | rfl | rfl
  · exact w_c0
  · exact w_c1
  · exact w_c2
  · exact w_c3
  · exact w_c4
  · exact w_c5
  · exact w_c6
  · exact w_c7
  · exact w_c8
  · exact w_c9
set_option maxRecDepth 65536 in
theorem w_t1 : (words1.take 24).all (fun c => isCode c || c.before args0 about1) = true := by decide +kernel
set_option maxRecDepth 65536 in
theorem w_t2 : (words1.drop 24).all (fun c => isCode c || c.before args0 about1) = true := by decide +kernel
theorem w_tables : (allAtoms (Jvm.Cond.code x code maxLocals ret :: tables_1)).before args0 about1 = true := by
  rw [allAtoms_all]
  show words1.all (fun c => c.before args0 about1) = true
  refine all_split ?_ w_codes
  rw [← List.take_append_drop 24 words1, List.all_append, w_t1, w_t2]
  rfl
set_option maxRecDepth 65536 in
theorem w_case : (Jvm.Cond.and given_1 narrow_1).before args0 about1 = true := by decide +kernel
theorem w_applies : (headSpec (Jvm.Cond.code x code maxLocals ret :: tables_1) room_1).applies x e0.platform about1 = true :=
  (Spec.applies_iff w_frames).mpr ⟨w_running, w_runnable, w_alone, w_named, w_hears, w_ripe, w_room, w_tables⟩
theorem atStart : AtStart classFile x code maxLocals ret World_1 tables_1 room_1 Calls_1 rest_1 Pre_1 launch0 p0 e0 about1 theMethod args0 below0 :=
  ⟨lists_1, trivial, launch0.admits_env _ _ _, launch0.least_env, fairChoices_fair.cas, fairChoices_fair.clock, w_frames, w_args, w_heap, w_applies, trivial, trivial, w_case⟩
end start1
theorem witness_1 : WitnessClaimed_1 := ⟨start1.p0, start1.e0, start1.about1, start1.theMethod, start1.args0, start1.below0, start1.atStart⟩
end Jvm.Pilot.@@N@@
