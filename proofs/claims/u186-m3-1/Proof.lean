import JvmDerived
import JvmDerived.Pilot.@@N@@Statement
import JvmDerived.Pilot.@@N@@Code
set_option linter.unusedVariables false
set_option linter.unusedSimpArgs false
namespace Jvm.Pilot.@@N@@
open Jvm Jvm.ClassFile Sem Op Lib Jvm.Free Jvm.Stand Jvm.LawKit Jvm.RoadKit Bundle Jvm.Pilot.@@N@@.Jvm.D
/-! from a frame on, the body comes to its end as Q says -/
section OwnKit
variable {p : Program} {l : Launch} {e : Env} {R : Room} {s : State} {m : MethodId} {args : Array Value} {below : List Frame} {meth : Method} {c : Code} {T T' : State} {locs : List Loc} {cells slots C D : Nat} {Q Q' : Option Value → Heap → List Loc → Prop} {g g' : JFrame}
def Go (p : Program) (e : Env) (below : List Frame) (s : State) (C D : Nat) (Q : Option Value → Heap → List Loc → Prop) (T : State) (g : JFrame) : Prop :=
  ∃ u o, Steps p.tables e below (T.setTop g) u ∧ u.status = .running ∧ Ended u below o ∧ ∃ v L, o = .returned v ∧ Q v u.heap L ∧ FrameEnd s o u L C D
def PureQ (r : Value) (h0 : Heap) (v : Option Value) (h : Heap) (L : List Loc) : Prop := v = some r ∧ L = [] ∧ h = h0
theorem Go.step (k : ∀ t, Steps p.tables e below (T'.setTop g') t → Steps p.tables e below (T.setTop g) t) (h : Go p e below s C D Q T' g') : Go p e below s C D Q T g := by
  obtain ⟨u, o, h1, r⟩ := h
  exact ⟨u, o, k _ h1, r⟩
theorem Go.mono (h : Go p e below s C D Q T g) (q : ∀ v h L, Q v h L → Q' v h L) : Go p e below s C D Q' T g := by
  obtain ⟨u, o, h1, h2, h3, v, L, h4, h5, h6⟩ := h
  exact ⟨u, o, h1, h2, h3, v, L, h4, q _ _ _ h5, h6⟩
theorem Go.retN (X : Stand p l e R s m args below meth c T locs cells slots) (hx : p.tables.exec = Jvm.exec) (hlk : meth.locks = false) {pc : Nat} {Ls : Array Slot} {z : Int32} {t : FieldType} {rest : List Value} (hret : meth.sig.returnType = some t) (ht : t = .boolean ∨ t = .byte ∨ t = .char ∨ t = .short)
    (hd : decode c.code pc = .ok (.ireturn, 1)) (hC : cells ≤ C) (hD : slots ≤ D) (hq : Q (some (.int (nar t z))) T.heap locs) : Go p e below s C D Q T (mkF m pc Ls (.int z :: rest)) := by
  obtain ⟨fs, hr, hrun, hended, hW, hsame⟩ := X.leave (v := some (.int (nar t z))) (fun h => by rw [hret] at h; cases h) hlk
  exact ⟨_, _, Jvm.RoadKit.retN X hx hret ht hd hr, hrun, hended, _, _, rfl, hq, ⟨_, rfl⟩, hW, hsame.mono hC hD⟩
theorem Go.retW (X : Stand p l e R s m args below meth c T locs cells slots) (hx : p.tables.exec = Jvm.exec) (hlk : meth.locks = false) {pc : Nat} {Ls : Array Slot} {w : Value} {t : FieldType} {i : Instr} {rest : List Value} (hret : meth.sig.returnType = some t) (hn : narrow t w = w)
    (hi : (i = .ireturn ∧ (t = .int ∨ t = .boolean ∨ t = .byte ∨ t = .char ∨ t = .short) ∧ ∃ z, w = .int z) ∨ (i = .lreturn ∧ t = .long ∧ ∃ z, w = .long z) ∨ (i = .dreturn ∧ t = .double ∧ ∃ z, w = .double z) ∨ (i = .freturn ∧ t = .float ∧ ∃ z, w = .float z) ∨ (i = .areturn ∧ t.isReference = true ∧ w.isRef = true))
    (hd : decode c.code pc = .ok (i, 1)) (hC : cells ≤ C) (hD : slots ≤ D) (hq : Q (some w) T.heap locs) : Go p e below s C D Q T (mkF m pc Ls (w :: rest)) := by
  obtain ⟨fs, hr, hrun, hended, hW, hsame⟩ := X.leave (v := some w) (fun h => by rw [hret] at h; cases h) hlk
  exact ⟨_, _, retOut X hx hret hn hi hd hr, hrun, hended, _, _, rfl, hq, ⟨_, rfl⟩, hW, hsame.mono hC hD⟩
theorem Go.ret0 (X : Stand p l e R s m args below meth c T locs cells slots) (hx : p.tables.exec = Jvm.exec) (hlk : meth.locks = false) {pc : Nat} {Ls : Array Slot} (hret : meth.sig.returnType = none)
    (hd : decode c.code pc = .ok (.return_, 1)) (hC : cells ≤ C) (hD : slots ≤ D) (hq : Q none T.heap locs) : Go p e below s C D Q T (mkF m pc Ls []) := by
  obtain ⟨fs, hr, hrun, hended, hW, hsame⟩ := X.leave (v := none) (fun _ => rfl) hlk
  exact ⟨_, _, X.returnOut hx hret hd hr, hrun, hended, _, _, rfl, hq, ⟨_, rfl⟩, hW, hsame.mono hC hD⟩
end OwnKit
theorem pd_0 : parseMethodDescriptor "(I)I" = some ⟨[.int], some .int⟩ := by decide +kernel
theorem pd_1 : parseMethodDescriptor "()Z" = some ⟨[], some .boolean⟩ := by decide +kernel
theorem pd_2 : parseMethodDescriptor "(J)I" = some ⟨[.long], some .int⟩ := by decide +kernel
theorem pd_3 : parseMethodDescriptor "(JJ)J" = some ⟨[.long, .long], some .long⟩ := by decide +kernel
theorem pd_4 : parseMethodDescriptor "(IJJ)V" = some ⟨[.int, .long, .long], none⟩ := by decide +kernel
theorem pd_5 : parseMethodDescriptor "()V" = some ⟨[], none⟩ := by decide +kernel
theorem pd_6 : parseMethodDescriptor "(I)V" = some ⟨[.int], none⟩ := by decide +kernel
theorem pd_7 : parseMethodDescriptor "(Lcom/example/redelivery/redelivery/RadixHeap;I)Z" = some ⟨[(.object "com/example/redelivery/redelivery/RadixHeap"), .int], some .boolean⟩ := by decide +kernel
theorem pd_8 : parseMethodDescriptor "(JJ)V" = some ⟨[.long, .long], none⟩ := by decide +kernel
theorem pd_9 : parseMethodDescriptor "()J" = some ⟨[], some .long⟩ := by decide +kernel
section OwnHeap
variable {p : Program} {l : Launch} {e : Env} {R : Room} {s : State} {m : MethodId} {args : Array Value} {below : List Frame} {meth : Method} {c : Code} {T : State} {locs : List Loc} {cells slots n0 : Nat}
variable {Z : State} {h h' : Heap} {a b : Addr} {ty : FieldType} {n sl : Nat} {f : Nat → Value} {v : Value} {ws : List Addr} {j : Int32} {gf : JFrame} {rest : List Value}
def IA (Z : State) (h : Heap) (a : Addr) (ty : FieldType) (n : Nat) (f : Nat → Value) : Prop := ∃ c : Cell, Arr Z h a c ty ∧ c.slots.size = n ∧ ∀ k, k < n → c.slots[k]? = some (f k)
def upd {α : Type} (g : Nat → α) (j : Nat) (v : α) (k : Nat) : α := if k = j then v else g k
theorem IA.lt (F : IA Z h a ty n f) : a < h.size := by obtain ⟨c, A, -⟩ := F; exact A.lt
theorem IA.ext (F : IA Z h a ty n f) (E : Ext h h') : IA Z h' a ty n f := by obtain ⟨c, A, r⟩ := F; exact ⟨c, A.ext E, r⟩
theorem IA.other (F : IA Z h b ty n f) (W : Wr h h' a sl v) (q : b ≠ a) : IA Z h' b ty n f := by obtain ⟨c, A, r⟩ := F; exact ⟨c, A.other W q, r⟩
theorem IA.keep (F : IA Z h a ty n f) (K : Keep h h' ws) (q : a ∉ ws) : IA Z h' a ty n f := by obtain ⟨c, A, r⟩ := F; exact ⟨c, ⟨K.2.1 a c A.1 q, A.2⟩, r⟩
theorem IA.of_new {k : ClassId} {z : Int32} (A : Arr Z h a (newA k ty z) ty) (hn : z.toNatClampNeg = n) : IA Z h a ty n (fun _ => defaultValue ty) :=
  ⟨_, A, (sz_new _ _ _).trans hn, fun i hi => by subst hn; simp [newA, hi]⟩
theorem IA.set {c : Cell} {F : Nat → Value} (A : Arr Z h a c ty) (S : c.slots.size = n) (H : ∀ k, k < n → c.slots[k]? = some (F k)) (hj : ¬ (j < 0 ∨ n ≤ j.toNatClampNeg)) (W : Wr h h' a j.toNatClampNeg v) : IA Z h' a ty n (upd F j.toNatClampNeg v) := by
  refine ⟨_, A.same W, (sz_set _ _ _).trans S, fun k hk => ?_⟩
  by_cases q : k = j.toNatClampNeg
  · subst q; simp [Cell.setSlot, upd, S, hk]
  · simp only [Cell.setSlot, upd, if_neg q]
    rw [Array.getElem?_setIfInBounds_ne (Ne.symm q)]; exact H k hk
theorem IA.cong {f' : Nat → Value} (F : IA Z h a ty n f) (q : ∀ k, k < n → f k = f' k) : IA Z h a ty n f' := by
  obtain ⟨c, A, S, H⟩ := F; exact ⟨c, A, S, fun k hk => by rw [H k hk, q k hk]⟩
theorem own_pack (X : Stand p l e R s m args below meth c T locs cells slots) (N : Fr n0 locs) : ∃ lc, Stand p l e R s m args below meth c T lc cells slots ∧ Fr n0 lc := ⟨_, X, N⟩
theorem own_more {C D : Nat} (X : Stand p l e R s m args below meth c T locs cells slots) (hC : cells ≤ C) (hD : slots ≤ D) : Stand p l e R s m args below meth c T locs C D := X.more hC hD
theorem putAI {g : Nat → Int32} {x : Int32} (X : Stand p l e R s m args below meth c T locs cells slots) (hx : p.tables.exec = Jvm.exec) (hZ : Z.Warmed39 s.vm) (eT : T.heap = h) (F : IA Z h a .int n (fun k => .int (g k))) (hj : ¬ (j < 0 ∨ n ≤ j.toNatClampNeg)) (N : Fr n0 locs) (ha : n0 ≤ a) (hg : gf.method = m) (hs : gf.stack = .int x :: .int j :: .ref a :: rest) (hd : decode c.code gf.pc = .ok (.iastore, 1)) :
    ∃ T' h' lc, Stand p l e R s m args below meth c T' lc cells slots ∧ T'.heap = h' ∧ Wr h h' a j.toNatClampNeg (.int x) ∧ Fr n0 lc ∧ IA Z h' a .int n (fun k => .int (upd g j.toNatClampNeg x k)) ∧ ∀ target, Steps p.tables e below (T'.setTop { gf with pc := gf.pc + 1, stack := rest }) target → Steps p.tables e below (T.setTop gf) target := by
  obtain ⟨cl, A, S, H⟩ := F
  obtain ⟨T', h', X', e', W, st⟩ := stI X hx hZ eT A (j := j) (x := x) (by rw [S]; exact hj) hg hs hd
  exact ⟨T', h', _, X', e', W, Fr.snoc X' N ha, (IA.set A S H hj W).cong fun k _ => by simp only [upd]; split <;> rfl, st⟩
theorem putAJ {g : Nat → Int64} {x : Int64} (X : Stand p l e R s m args below meth c T locs cells slots) (hx : p.tables.exec = Jvm.exec) (hZ : Z.Warmed39 s.vm) (eT : T.heap = h) (F : IA Z h a .long n (fun k => .long (g k))) (hj : ¬ (j < 0 ∨ n ≤ j.toNatClampNeg)) (N : Fr n0 locs) (ha : n0 ≤ a) (hg : gf.method = m) (hs : gf.stack = .long x :: .int j :: .ref a :: rest) (hd : decode c.code gf.pc = .ok (.lastore, 1)) :
    ∃ T' h' lc, Stand p l e R s m args below meth c T' lc cells slots ∧ T'.heap = h' ∧ Wr h h' a j.toNatClampNeg (.long x) ∧ Fr n0 lc ∧ IA Z h' a .long n (fun k => .long (upd g j.toNatClampNeg x k)) ∧ ∀ target, Steps p.tables e below (T'.setTop { gf with pc := gf.pc + 1, stack := rest }) target → Steps p.tables e below (T.setTop gf) target := by
  obtain ⟨cl, A, S, H⟩ := F
  obtain ⟨T', h', X', e', W, st⟩ := stJ X hx hZ eT A (j := j) (x := x) (by rw [S]; exact hj) hg hs hd
  exact ⟨T', h', _, X', e', W, Fr.snoc X' N ha, (IA.set A S H hj W).cong fun k _ => by simp only [upd]; split <;> rfl, st⟩
theorem putAC {g : Nat → Int32} {x : Int32} (X : Stand p l e R s m args below meth c T locs cells slots) (hx : p.tables.exec = Jvm.exec) (hZ : Z.Warmed39 s.vm) (eT : T.heap = h) (F : IA Z h a .char n (fun k => .int (g k))) (hj : ¬ (j < 0 ∨ n ≤ j.toNatClampNeg)) (N : Fr n0 locs) (ha : n0 ≤ a) (hg : gf.method = m) (hs : gf.stack = .int x :: .int j :: .ref a :: rest) (hd : decode c.code gf.pc = .ok (.castore, 1)) :
    ∃ T' h' lc, Stand p l e R s m args below meth c T' lc cells slots ∧ T'.heap = h' ∧ Wr h h' a j.toNatClampNeg (.int (nar .char x)) ∧ Fr n0 lc ∧ IA Z h' a .char n (fun k => .int (upd g j.toNatClampNeg (nar .char x) k)) ∧ ∀ target, Steps p.tables e below (T'.setTop { gf with pc := gf.pc + 1, stack := rest }) target → Steps p.tables e below (T.setTop gf) target := by
  obtain ⟨cl, A, S, H⟩ := F
  obtain ⟨T', h', X', e', W, st⟩ := stC X hx hZ eT A (j := j) (x := x) (by rw [S]; exact hj) hg hs hd
  exact ⟨T', h', _, X', e', W, Fr.snoc X' N ha, (IA.set A S H hj W).cong fun k _ => by simp only [upd]; split <;> rfl, st⟩
theorem putAB {g : Nat → Int32} {x : Int32} (X : Stand p l e R s m args below meth c T locs cells slots) (hx : p.tables.exec = Jvm.exec) (hZ : Z.Warmed39 s.vm) (eT : T.heap = h) (F : IA Z h a .byte n (fun k => .int (g k))) (hj : ¬ (j < 0 ∨ n ≤ j.toNatClampNeg)) (N : Fr n0 locs) (ha : n0 ≤ a) (hg : gf.method = m) (hs : gf.stack = .int x :: .int j :: .ref a :: rest) (hd : decode c.code gf.pc = .ok (.bastore, 1)) :
    ∃ T' h' lc, Stand p l e R s m args below meth c T' lc cells slots ∧ T'.heap = h' ∧ Wr h h' a j.toNatClampNeg (.int (nar .byte x)) ∧ Fr n0 lc ∧ IA Z h' a .byte n (fun k => .int (upd g j.toNatClampNeg (nar .byte x) k)) ∧ ∀ target, Steps p.tables e below (T'.setTop { gf with pc := gf.pc + 1, stack := rest }) target → Steps p.tables e below (T.setTop gf) target := by
  obtain ⟨cl, A, S, H⟩ := F
  obtain ⟨T', h', X', e', W, st⟩ := stB X hx hZ eT A (j := j) (x := x) (by rw [S]; exact hj) hg hs hd
  exact ⟨T', h', _, X', e', W, Fr.snoc X' N ha, (IA.set A S H hj W).cong fun k _ => by simp only [upd]; split <;> rfl, st⟩
theorem putAD {g : Nat → UInt64} {x : UInt64} (X : Stand p l e R s m args below meth c T locs cells slots) (hx : p.tables.exec = Jvm.exec) (hZ : Z.Warmed39 s.vm) (eT : T.heap = h) (F : IA Z h a .double n (fun k => .double (g k))) (hj : ¬ (j < 0 ∨ n ≤ j.toNatClampNeg)) (N : Fr n0 locs) (ha : n0 ≤ a) (hg : gf.method = m) (hs : gf.stack = .double x :: .int j :: .ref a :: rest) (hd : decode c.code gf.pc = .ok (.dastore, 1)) :
    ∃ T' h' lc, Stand p l e R s m args below meth c T' lc cells slots ∧ T'.heap = h' ∧ Wr h h' a j.toNatClampNeg (.double x) ∧ Fr n0 lc ∧ IA Z h' a .double n (fun k => .double (upd g j.toNatClampNeg x k)) ∧ ∀ target, Steps p.tables e below (T'.setTop { gf with pc := gf.pc + 1, stack := rest }) target → Steps p.tables e below (T.setTop gf) target := by
  obtain ⟨cl, A, S, H⟩ := F
  have hj' : ¬ (j < 0 ∨ cl.slots.size ≤ j.toNatClampNeg) := by rw [S]; exact hj
  obtain ⟨X', st⟩ := X.dastore hx (x := x) (by rw [eT]; exact A.1) (State.isArrayOf_alike hZ.alike A.2.1) A.2.2 hj' hg hs hd
  have W : Wr h (T.setCell a (cl.setSlot j.toNatClampNeg (.double x))).heap a j.toNatClampNeg (.double x) := ⟨cl, A.1, A.plain, Nat.lt_of_not_le fun q => hj' (Or.inr q), by rw [← eT]; rfl⟩
  exact ⟨_, _, _, X', rfl, W, Fr.snoc X' N ha, (IA.set A S H hj W).cong fun k _ => by simp only [upd]; split <;> rfl, st⟩
theorem getAI {g : Nat → Int32} {t : State} (X : Stand p l e R s m args below meth c T locs cells slots) (hx : p.tables.exec = Jvm.exec) (hZ : Z.Warmed39 s.vm) (eT : T.heap = h) (F : IA Z h a .int n (fun k => .int (g k))) (hj : ¬ (j < 0 ∨ n ≤ j.toNatClampNeg)) (hg : gf.method = m) (hs : gf.stack = .int j :: .ref a :: rest) (hd : decode c.code gf.pc = .ok (.iaload, 1))
    (hr : Steps p.tables e below (T.setTop { gf with pc := gf.pc + 1, stack := .int (g j.toNatClampNeg) :: rest }) t) : Steps p.tables e below (T.setTop gf) t := by
  obtain ⟨cl, A, S, H⟩ := F
  exact X.iaload hx (by rw [eT]; exact A.1) (State.isArrayOf_alike hZ.alike A.2.1) A.2.2 (by rw [S]; exact hj) (H _ (Nat.lt_of_not_le fun q => hj (Or.inr q))) hg hs hd _ hr
theorem getAJ {g : Nat → Int64} {t : State} (X : Stand p l e R s m args below meth c T locs cells slots) (hx : p.tables.exec = Jvm.exec) (hZ : Z.Warmed39 s.vm) (eT : T.heap = h) (F : IA Z h a .long n (fun k => .long (g k))) (hj : ¬ (j < 0 ∨ n ≤ j.toNatClampNeg)) (hg : gf.method = m) (hs : gf.stack = .int j :: .ref a :: rest) (hd : decode c.code gf.pc = .ok (.laload, 1))
    (hr : Steps p.tables e below (T.setTop { gf with pc := gf.pc + 1, stack := .long (g j.toNatClampNeg) :: rest }) t) : Steps p.tables e below (T.setTop gf) t := by
  obtain ⟨cl, A, S, H⟩ := F
  exact X.laload hx (by rw [eT]; exact A.1) (State.isArrayOf_alike hZ.alike A.2.1) A.2.2 (by rw [S]; exact hj) (H _ (Nat.lt_of_not_le fun q => hj (Or.inr q))) hg hs hd _ hr
theorem getAC {g : Nat → Int32} {t : State} (X : Stand p l e R s m args below meth c T locs cells slots) (hx : p.tables.exec = Jvm.exec) (hZ : Z.Warmed39 s.vm) (eT : T.heap = h) (F : IA Z h a .char n (fun k => .int (g k))) (hj : ¬ (j < 0 ∨ n ≤ j.toNatClampNeg)) (hg : gf.method = m) (hs : gf.stack = .int j :: .ref a :: rest) (hd : decode c.code gf.pc = .ok (.caload, 1))
    (hr : Steps p.tables e below (T.setTop { gf with pc := gf.pc + 1, stack := .int (g j.toNatClampNeg) :: rest }) t) : Steps p.tables e below (T.setTop gf) t := by
  obtain ⟨cl, A, S, H⟩ := F
  exact X.caload hx (by rw [eT]; exact A.1) (State.isArrayOf_alike hZ.alike A.2.1) A.2.2 (by rw [S]; exact hj) (H _ (Nat.lt_of_not_le fun q => hj (Or.inr q))) hg hs hd _ hr
theorem getAB {g : Nat → Int32} {t : State} (X : Stand p l e R s m args below meth c T locs cells slots) (hx : p.tables.exec = Jvm.exec) (hZ : Z.Warmed39 s.vm) (eT : T.heap = h) (F : IA Z h a .byte n (fun k => .int (g k))) (hj : ¬ (j < 0 ∨ n ≤ j.toNatClampNeg)) (hg : gf.method = m) (hs : gf.stack = .int j :: .ref a :: rest) (hd : decode c.code gf.pc = .ok (.baload, 1))
    (hr : Steps p.tables e below (T.setTop { gf with pc := gf.pc + 1, stack := .int (g j.toNatClampNeg) :: rest }) t) : Steps p.tables e below (T.setTop gf) t := by
  obtain ⟨cl, A, S, H⟩ := F
  exact X.baloadBytes hx (by rw [eT]; exact A.1) (State.isArrayOf_alike hZ.alike A.2.1) A.2.2 (by rw [S]; exact hj) (H _ (Nat.lt_of_not_le fun q => hj (Or.inr q))) hg hs hd _ hr
theorem getAD {g : Nat → UInt64} {t : State} (X : Stand p l e R s m args below meth c T locs cells slots) (hx : p.tables.exec = Jvm.exec) (hZ : Z.Warmed39 s.vm) (eT : T.heap = h) (F : IA Z h a .double n (fun k => .double (g k))) (hj : ¬ (j < 0 ∨ n ≤ j.toNatClampNeg)) (hg : gf.method = m) (hs : gf.stack = .int j :: .ref a :: rest) (hd : decode c.code gf.pc = .ok (.daload, 1))
    (hr : Steps p.tables e below (T.setTop { gf with pc := gf.pc + 1, stack := .double (g j.toNatClampNeg) :: rest }) t) : Steps p.tables e below (T.setTop gf) t := by
  obtain ⟨cl, A, S, H⟩ := F
  exact X.daload hx (by rw [eT]; exact A.1) (State.isArrayOf_alike hZ.alike A.2.1) A.2.2 (by rw [S]; exact hj) (H _ (Nat.lt_of_not_le fun q => hj (Or.inr q))) hg hs hd _ hr
theorem getLen {t : State} {z : Int32} (X : Stand p l e R s m args below meth c T locs cells slots) (hx : p.tables.exec = Jvm.exec) (hZ : Z.Warmed39 s.vm) (eT : T.heap = h) (F : IA Z h a ty n f) (hz : n.toInt32 = z) (hg : gf.method = m) (hs : gf.stack = .ref a :: rest) (hd : decode c.code gf.pc = .ok (.arraylength, 1))
    (hr : Steps p.tables e below (T.setTop { gf with pc := gf.pc + 1, stack := .int z :: rest }) t) : Steps p.tables e below (T.setTop gf) t := by
  obtain ⟨cl, A, S, H⟩ := F
  exact X.arraylength hx (by rw [eT]; exact A.1) (State.isArrayOf_alike hZ.alike A.2.1) hg hs hd _ (by rw [S, hz]; exact hr)
end OwnHeap
def LawQ (r : Option Value) (n0 : Nat) (v : Option Value) (h : Heap) (L : List Loc) : Prop := v = r ∧ Fr n0 L
theorem Sta_keep0 {Z : State} {h h' : Heap} {C n d : String} {v : Value} (F : Sta Z h C n d v) (K : Keep h h' []) : Sta Z h' C n d v := by
  obtain ⟨cf, i, k, f, st, cell, h1, h2, h3, h4, h5, r⟩ := F
  exact ⟨cf, i, k, f, st, cell, h1, h2, h3, h4, K.2.1 _ _ h5 nin0, r⟩
section OwnRef
variable {p : Program} {l : Launch} {e : Env} {R : Room} {s : State} {m : MethodId} {args : Array Value} {below : List Frame} {meth : Method} {c : Code} {T : State} {locs : List Loc} {cells slots n0 : Nat}
variable {Z : State} {h h' : Heap} {a b : Addr} {sl : Nat} {f : Nat → Value} {v : Value} {ws : List Addr} {j : Int32} {gf : JFrame} {rest : List Value}
def RA (Z : State) (h : Heap) (a : Addr) (f : Nat → Value) : Prop := ∃ c : Cell, Arr Z h a c (.array .long) ∧ c.slots.size = 64 ∧ (∀ k, k < 64 → c.slots[k]? = some (f k)) ∧ OvrA Z c.cls .long "[J"
theorem RA.lt (F : RA Z h a f) : a < h.size := by obtain ⟨c, A, -⟩ := F; exact A.lt
theorem RA.ext (F : RA Z h a f) (E : Ext h h') : RA Z h' a f := by obtain ⟨c, A, r⟩ := F; exact ⟨c, A.ext E, r⟩
theorem RA.other (F : RA Z h b f) (W : Wr h h' a sl v) (q : b ≠ a) : RA Z h' b f := by obtain ⟨c, A, r⟩ := F; exact ⟨c, A.other W q, r⟩
theorem RA.keep (F : RA Z h a f) (K : Keep h h' ws) (q : a ∉ ws) : RA Z h' a f := by obtain ⟨c, A, r⟩ := F; exact ⟨c, ⟨K.2.1 a c A.1 q, A.2⟩, r⟩
theorem RA.of_new {k : ClassId} (A : Arr Z h a (newA k (.array .long) 64) (.array .long)) (O : OvrA Z k .long "[J") : RA Z h a (fun _ => .null) := by
  have e : (64 : Int32).toNatClampNeg = 64 := by decide
  exact ⟨_, A, (sz_new _ _ _).trans e, fun i hi => by simp [newA, e, hi, defaultValue], O⟩
theorem RA.sto (F : RA Z h a f) (E : Exa Z h b "[J") : Sto Z h a (.ref b) := by
  obtain ⟨cl, A, S, H, O⟩ := F
  exact Sto.ofVA A rfl O (Ins.self E)
theorem upd_same {α : Type} (g : Nat → α) (j : Nat) (v : α) : upd g j v j = v := if_pos rfl
theorem upd_ne {α : Type} (g : Nat → α) (j : Nat) (v : α) {k : Nat} (q : k ≠ j) : upd g j v k = g k := if_neg q
theorem getAV {t : State} (X : Stand p l e R s m args below meth c T locs cells slots) (hx : p.tables.exec = Jvm.exec) (hZ : Z.Warmed39 s.vm) (eT : T.heap = h) (F : RA Z h a f) (hj : ¬ (j < 0 ∨ 64 ≤ j.toNatClampNeg)) (hv : f j.toNatClampNeg = v) (hg : gf.method = m) (hs : gf.stack = .int j :: .ref a :: rest) (hd : decode c.code gf.pc = .ok (.aaload, 1))
    (hr : Steps p.tables e below (T.setTop { gf with pc := gf.pc + 1, stack := v :: rest }) t) : Steps p.tables e below (T.setTop gf) t := by
  obtain ⟨cl, A, S, H, -⟩ := F
  subst hv
  exact X.aaload hx (by rw [eT]; exact A.1) (State.isArrayOf_alike hZ.alike A.2.1) rfl A.2.2 (by rw [S]; exact hj) (H _ (Nat.lt_of_not_le fun q => hj (Or.inr q))) hg hs hd _ hr
theorem putAV (X : Stand p l e R s m args below meth c T locs cells slots) (hx : p.tables.exec = Jvm.exec) (hZ : Z.Warmed39 s.vm) (eT : T.heap = h) (F : RA Z h a f) (hj : ¬ (j < 0 ∨ 64 ≤ j.toNatClampNeg)) (N : Fr n0 locs) (ha : n0 ≤ a) (hS : Sto Z h a v) (hg : gf.method = m) (hs : gf.stack = v :: .int j :: .ref a :: rest) (hd : decode c.code gf.pc = .ok (.aastore, 1)) :
    ∃ T' h' lc, Stand p l e R s m args below meth c T' lc cells slots ∧ T'.heap = h' ∧ Wr h h' a j.toNatClampNeg v ∧ Fr n0 lc ∧ RA Z h' a (upd f j.toNatClampNeg v) ∧ ∀ target, Steps p.tables e below (T'.setTop { gf with pc := gf.pc + 1, stack := rest }) target → Steps p.tables e below (T.setTop gf) target := by
  obtain ⟨cl, A, S, H, O⟩ := F
  obtain ⟨T', h', X', e', W, st⟩ := stR X hx hZ eT A (j := j) (v := v) (by rw [S]; exact hj) rfl hS hg hs hd
  obtain ⟨c2, A2, S2, H2⟩ := IA.set A S H hj W
  have A3 := A.same W
  cases A2.1.symm.trans A3.1
  exact ⟨T', h', _, X', e', W, Fr.snoc X' N ha, ⟨_, A2, S2, H2, O⟩, st⟩
theorem own_pop2 {tb : Tables} [Ours tb] {e : Env} {below : List Frame} {T target : State} {m : MethodId} {c : Code} {g : JFrame} (h : At T m c below) (hx : tb.exec = Jvm.exec) (hg : g.method = m) {x : Int64} {rest : List Value} (hd : decode c.code g.pc = .ok (.pop2, 1)) (hs : g.stack = .long x :: rest)
    (hr : Steps tb e below (T.setTop { g with pc := g.pc + 1, stack := rest }) target) : Steps tb e below (T.setTop g) target := by
  subst hg
  jvm_step h [h.top, hx, hd, hs, Value.category]
  exact hr
theorem own_dupx2 {tb : Tables} [Ours tb] {e : Env} {below : List Frame} {T target : State} {m : MethodId} {c : Code} {g : JFrame} (h : At T m c below) (hx : tb.exec = Jvm.exec) (hg : g.method = m) {x y z : Value} {rest : List Value} (hd : decode c.code g.pc = .ok (.dup_x2, 1)) (hs : g.stack = x :: y :: z :: rest) (hc : x.category = 1) (hc2 : y.category = 1) (hc3 : z.category = 1)
    (hr : Steps tb e below (T.setTop { g with pc := g.pc + 1, stack := x :: y :: z :: x :: rest }) target) : Steps tb e below (T.setTop g) target := by
  subst hg
  jvm_step h [h.top, hx, hd, hs, hc, hc2, hc3]
  exact hr
/-- a private instance method is its own choice -/
theorem own_selP {y : MethodName} {s : State} {args : Array Value} {n : Nat} (hy : y.cls ≠ "java/lang/invoke/MethodHandle" ∧ y.cls ≠ "java/lang/invoke/VarHandle")
    (w1 : (Cond.instantiable y.cls n).before args s = true) (w2 : (Cond.privateMethod y).before args s = true) (w3 : (Cond.instanceMethod y).before args s = true) : (Cond.selects y.cls y y).before args s = true := by
  obtain ⟨mk, mt, q1, q2, -, -⟩ := Cond.instanceMethod_spec w3
  obtain ⟨c, k, q3, q4, -, q5, -, -⟩ := Cond.instantiable_spec w1
  have q6 : mk.cls = c := Option.some.inj ((findClass_of_methodNamed q1).symm.trans q3)
  have q7 : selectMethod {} s.vm c mk = .method mk := selectMethod_private q2 (Cond.privateMethod_at w2 mk mt q1 q2)
  have q8 : k.isInterface = false := (Bool.or_eq_false_iff.mp q5).1
  simp only [Cond.before, Cond.holds, Cond.value, q3, State.methodFound?_of_named q1 hy, q1, q7, q6, q4]
  simp; exact q8
end OwnRef
section OwnHeapPlain
variable {Z : State} {h h' : Heap} {n0 : Nat} {tg tg' : Addr → Nat} {M : Int64} {kf vf kf' vf' : Nat → Value} {sf sf' : Nat → Int32} {lf lf' : Nat → Int64} {u u' w : Int64} {n n' b : Nat} {ws : List Addr} {z : Int32} {o ka va sa la : Addr}
def bitOf (u : Int64) (j : Nat) : Bool := u.toBitVec.getLsbD j
def sumTo (f : Nat → Int32) : Nat → Nat
  | 0 => 0
  | k + 1 => sumTo f k + (f k).toNatClampNeg
theorem sumTo_cong {f g : Nat → Int32} : ∀ k, (∀ j, j < k → g j = f j) → sumTo g k = sumTo f k
  | 0, _ => rfl
  | k + 1, h => by
    show sumTo g k + (g k).toNatClampNeg = sumTo f k + (f k).toNatClampNeg
    rw [sumTo_cong k fun j hj => h j (Nat.lt_succ_of_lt hj), h k (Nat.lt_succ_self k)]
theorem sumTo_change {f g : Nat → Int32} {b : Nat} (h : ∀ j, j ≠ b → g j = f j) : ∀ k, b < k → sumTo g k + (f b).toNatClampNeg = sumTo f k + (g b).toNatClampNeg
  | 0, q => absurd q (Nat.not_lt_zero _)
  | k + 1, q => by
    show sumTo g k + (g k).toNatClampNeg + _ = sumTo f k + (f k).toNatClampNeg + _
    by_cases e : k = b
    · subst e
      rw [sumTo_cong k fun j hj => h j (Nat.ne_of_lt hj)]; omega
    · have i := sumTo_change h k (by omega)
      rw [h k e]; omega
theorem sumTo_ge {f : Nat → Int32} {b : Nat} : ∀ k, b < k → (f b).toNatClampNeg ≤ sumTo f k
  | 0, q => absurd q (Nat.not_lt_zero _)
  | k + 1, q => by
    show _ ≤ sumTo f k + (f k).toNatClampNeg
    by_cases e : k = b
    · subst e; omega
    · have i := sumTo_ge (f := f) (b := b) k (by omega)
      omega
theorem sumTo_pos {f : Nat → Int32} : ∀ k, sumTo f k ≠ 0 → ∃ b, b < k ∧ (f b).toNatClampNeg ≠ 0
  | 0, q => absurd rfl q
  | k + 1, q => by
    by_cases e : (f k).toNatClampNeg = 0
    · have q' : sumTo f k ≠ 0 := fun r => q (by show sumTo f k + (f k).toNatClampNeg = 0; omega)
      obtain ⟨b, h1, h2⟩ := sumTo_pos k q'
      exact ⟨b, Nat.lt_succ_of_lt h1, h2⟩
    · exact ⟨k, Nat.lt_succ_self k, e⟩
theorem sumTo_zero : ∀ k, sumTo (fun _ => (0 : Int32)) k = 0
  | 0 => rfl
  | k + 1 => by show sumTo (fun _ => (0 : Int32)) k + (0 : Int32).toNatClampNeg = 0; rw [sumTo_zero k]; rfl
def Bkt (Z : State) (h : Heap) (tg : Addr → Nat) (M : Int64) (kv vv : Value) (sz : Int32) (lk : Int64) (b : Nat) : Prop :=
  (kv = .null ∧ sz = 0) ∨ ∃ (a c : Addr) (g gv : Nat → Int64), kv = .ref a ∧ vv = .ref c ∧ tg a = 10 + 2 * b ∧ tg c = 11 + 2 * b ∧ IA Z h a .long 16 (fun k => .long (g k)) ∧ IA Z h c .long 16 (fun k => .long (gv k)) ∧
    (∀ i, i < sz.toNatClampNeg → ¬ g i < 0 ∧ ¬ M < g i) ∧ (sz = 0 ∨ b = 0 ∨ ∃ i, i < sz.toNatClampNeg ∧ lk = g i)
def JJ (Z : State) (h : Heap) (n0 : Nat) (tg : Addr → Nat) (M : Int64) (kf vf : Nat → Value) (sf : Nat → Int32) (lf : Nat → Int64) (u : Int64) (n : Nat) : Prop :=
  (∀ b, b < 64 → Bkt Z h tg M (kf b) (vf b) (sf b) (lf b) b) ∧ (∀ b, b < 64 → bitOf u b = decide (sf b ≠ 0)) ∧ (∀ b, b < 64 → ¬ sf b < 0) ∧ sumTo sf 64 = n ∧ ∀ x, tg x ≠ 0 → n0 ≤ x
def TG (tg : Addr → Nat) (o ka va sa la : Addr) : Prop := tg o = 1 ∧ tg ka = 2 ∧ tg va = 3 ∧ tg sa = 4 ∧ tg la = 6
def RF (Z : State) (h : Heap) (o ka va sa la : Addr) (kf vf : Nat → Value) (sf : Nat → Int32) (lf : Nat → Int64) (u w : Int64) (z : Int32) : Prop :=
  Exa Z h o "com/example/redelivery/redelivery/RadixHeap" ∧ Fld Z h o "com/example/redelivery/redelivery/RadixHeap" "keys" "[[J" (.ref ka) ∧ Fld Z h o "com/example/redelivery/redelivery/RadixHeap" "values" "[[J" (.ref va) ∧ Fld Z h o "com/example/redelivery/redelivery/RadixHeap" "sizes" "[I" (.ref sa) ∧ Fld Z h o "com/example/redelivery/redelivery/RadixHeap" "leastKeys" "[J" (.ref la) ∧
  Fld Z h o "com/example/redelivery/redelivery/RadixHeap" "inUse" "J" (.long u) ∧ Fld Z h o "com/example/redelivery/redelivery/RadixHeap" "last" "J" (.long w) ∧ Fld Z h o "com/example/redelivery/redelivery/RadixHeap" "size" "I" (.int z) ∧
  RA Z h ka kf ∧ RA Z h va vf ∧ IA Z h sa .int 64 (fun k => .int (sf k)) ∧ IA Z h la .long 64 (fun k => .long (lf k))
def RH (Z : State) (h : Heap) (n0 : Nat) (o : Addr) (z : Int32) (B M : Int64) : Prop :=
  ∃ (ka va sa la : Addr) (tg : Addr → Nat) (kf vf : Nat → Value) (sf : Nat → Int32) (lf : Nat → Int64) (u w : Int64), RF Z h o ka va sa la kf vf sf lf u w z ∧ TG tg o ka va sa la ∧ JJ Z h n0 tg M kf vf sf lf u z.toNatClampNeg ∧ ¬ w < 0 ∧ ¬ B < w ∧ ¬ z < 0
theorem RH.exa {B : Int64} (R : RH Z h n0 o z B M) : Exa Z h o "com/example/redelivery/redelivery/RadixHeap" := by obtain ⟨_, _, _, _, _, _, _, _, _, _, _, r, -⟩ := R; exact r.1
theorem RH.size {B : Int64} (R : RH Z h n0 o z B M) : Fld Z h o "com/example/redelivery/redelivery/RadixHeap" "size" "I" (.int z) := by obtain ⟨_, _, _, _, _, _, _, _, _, _, _, r, -⟩ := R; exact r.2.2.2.2.2.2.2.1
theorem RH.old {B : Int64} (R : RH Z h n0 o z B M) : n0 ≤ o := by obtain ⟨_, _, _, _, _, _, _, _, _, _, _, r, t, j, -⟩ := R; exact j.2.2.2.2 _ (by rw [t.1]; decide)
theorem RH.zh {B : Int64} (R : RH Z h n0 o z B M) : n0 ≤ h.size := Nat.le_trans R.old (Nat.le_of_lt R.exa.lt)
theorem RH.mono {B B' : Int64} (R : RH Z h n0 o z B M) (q : ¬ B' < B) : RH Z h n0 o z B' M := by
  obtain ⟨a1, a2, a3, a4, a5, a6, a7, a8, a9, a10, a11, r, t, j, w0, wB, z0⟩ := R
  refine ⟨a1, a2, a3, a4, a5, a6, a7, a8, a9, a10, a11, r, t, j, w0, fun c => ?_, z0⟩
  rw [Int64.lt_iff_toInt_lt] at *; omega
theorem own_tn {x y : Addr} {i k : Nat} (h1 : tg x = i) (h2 : tg y = k) (q : i ≠ k) : x ≠ y := fun e => q (by rw [← h1, ← h2, e])
theorem JJ.change (J0 : JJ Z h n0 tg M kf vf sf lf u n) (hb : b < 64) (K : Keep h h' ws) (hW : ∀ x ∈ ws, tg x < 10 ∨ tg x = 10 + 2 * b ∨ tg x = 11 + 2 * b) (ht : ∀ x, x < h.size → tg' x = tg x ∨ tg x = 10 + 2 * b ∨ tg x = 11 + 2 * b) (hg : ∀ x, tg' x ≠ 0 → n0 ≤ x)
    (e1 : ∀ j, j ≠ b → kf' j = kf j) (e2 : ∀ j, j ≠ b → vf' j = vf j) (e3 : ∀ j, j ≠ b → sf' j = sf j) (e4 : ∀ j, j ≠ b → lf' j = lf j) (hB : Bkt Z h' tg' M (kf' b) (vf' b) (sf' b) (lf' b) b)
    (hu : ∀ j, j < 64 → bitOf u' j = if j = b then decide (sf' b ≠ 0) else bitOf u j) (h0 : ¬ sf' b < 0) (hn : n' + (sf b).toNatClampNeg = n + (sf' b).toNatClampNeg) : JJ Z h' n0 tg' M kf' vf' sf' lf' u' n' := by
  obtain ⟨j1, j2, j3, j4, j5⟩ := J0
  refine ⟨fun j hj => ?_, fun j hj => ?_, fun j hj => ?_, ?_, hg⟩
  · by_cases e : j = b
    · subst e; exact hB
    · rw [e1 j e, e2 j e, e3 j e, e4 j e]
      rcases j1 j hj with q | ⟨a, c, g, gv, q1, q2, q3, q4, q5, q6, q7, q8⟩
      · exact Or.inl q
      · refine Or.inr ⟨a, c, g, gv, q1, q2, ?_, ?_, q5.keep K fun hm => ?_, q6.keep K fun hm => ?_, q7, q8⟩
        · rcases ht a q5.lt with t | t | t <;> omega
        · rcases ht c q6.lt with t | t | t <;> omega
        · rcases hW a hm with t | t | t <;> omega
        · rcases hW c hm with t | t | t <;> omega
  · rw [hu j hj]
    by_cases e : j = b
    · subst e; rw [if_pos rfl]
    · rw [if_neg e, e3 j e]; exact j2 j hj
  · by_cases e : j = b
    · subst e; exact h0
    · rw [e3 j e]; exact j3 j hj
  · have := sumTo_change e3 64 hb
    omega
theorem JJ.same (J0 : JJ Z h n0 tg M kf vf sf lf u n) (K : Keep h h' ws) (hW : ∀ x ∈ ws, tg x < 10) : JJ Z h' n0 tg M kf vf sf lf u n := by
  obtain ⟨j1, j2⟩ := J0
  refine ⟨fun j hj => ?_, j2⟩
  rcases j1 j hj with q | ⟨a, c, g, gv, q1, q2, q3, q4, q5, q6, q7, q8⟩
  · exact Or.inl q
  · exact Or.inr ⟨a, c, g, gv, q1, q2, q3, q4, q5.keep K fun hm => by have := hW a hm; omega, q6.keep K fun hm => by have := hW c hm; omega, q7, q8⟩
theorem JJ.full (J0 : JJ Z h n0 tg M kf vf sf lf u n) (hb : b < 64) (hs : sf b ≠ 0) : ∃ (a c : Addr) (g gv : Nat → Int64), kf b = .ref a ∧ vf b = .ref c ∧ tg a = 10 + 2 * b ∧ tg c = 11 + 2 * b ∧ IA Z h a .long 16 (fun k => .long (g k)) ∧ IA Z h c .long 16 (fun k => .long (gv k)) ∧
    (∀ i, i < (sf b).toNatClampNeg → ¬ g i < 0 ∧ ¬ M < g i) ∧ (b = 0 ∨ ∃ i, i < (sf b).toNatClampNeg ∧ lf b = g i) := by
  rcases J0.1 b hb with q | ⟨a, c, g, gv, q1, q2, q3, q4, q5, q6, q7, q8⟩
  · exact absurd q.2 hs
  · exact ⟨a, c, g, gv, q1, q2, q3, q4, q5, q6, q7, q8.resolve_left hs⟩
theorem JJ.le (J0 : JJ Z h n0 tg M kf vf sf lf u n) (hb : b < 64) : 0 ≤ (sf b).toInt ∧ (sf b).toInt ≤ n ∧ (sf b).toNatClampNeg ≤ n := by
  have h1 := sumTo_ge (f := sf) 64 hb
  rw [J0.2.2.2.1] at h1
  have h2 := J0.2.2.1 b hb
  rw [Int32.lt_iff_toInt_lt, show (0 : Int32).toInt = 0 from rfl] at h2
  have h3 : (sf b).toNatClampNeg = (sf b).toInt.toNat := rfl
  omega
theorem own_lt {p1 : Int32} {k : Nat} (hb : ¬ (p1 < 0 ∨ k ≤ p1.toNatClampNeg)) : p1.toNatClampNeg < k := Nat.lt_of_not_le fun q => hb (Or.inr q)
theorem own_keep5 {x : Addr} {ty : FieldType} {k : Nat} {f : Nat → Value} (F : IA Z h x ty k f) (d : ∀ (x : Addr) (c : Cell), h[x]? = some c → tg x = 5 → h'[x]? = some c) (t : tg x = 5) : IA Z h' x ty k f := by
  obtain ⟨c, A, r⟩ := F; exact ⟨c, ⟨d _ _ A.1 t, A.2⟩, r⟩
theorem own_succ {i : Int32} (h0 : 0 ≤ i.toInt) (h1 : i.toInt ≤ 1000) : (i + 1).toInt = i.toInt + 1 ∧ (i + 1).toNatClampNeg = i.toNatClampNeg + 1 := by
  have e := c_iadd i 1
  have q : (1 : Int32).toInt = 1 := by decide
  have r := rng32 (i + 1)
  have h3 : (i + 1).toNatClampNeg = (i + 1).toInt.toNat := rfl
  have h4 : i.toNatClampNeg = i.toInt.toNat := rfl
  omega
theorem own_pred {i : Int32} (h0 : 1 ≤ i.toInt) : (i - 1).toInt = i.toInt - 1 ∧ (i - 1).toNatClampNeg + 1 = i.toNatClampNeg := by
  have e := c_isub i 1
  have q : (1 : Int32).toInt = 1 := by decide
  have r := rng32 (i - 1)
  have r2 := rng32 i
  have h3 : (i - 1).toNatClampNeg = (i - 1).toInt.toNat := rfl
  have h4 : i.toNatClampNeg = i.toInt.toNat := rfl
  omega
theorem own_bktPut {a c : Addr} {g gv : Nat → Int64} {i : Int32} {key val lk lk' : Int64} (ta : tg a = 10 + 2 * b) (tc : tg c = 11 + 2 * b) (Aa : IA Z h a .long 16 (fun k => .long (upd g i.toNatClampNeg key k))) (Ac : IA Z h c .long 16 (fun k => .long (upd gv i.toNatClampNeg val k)))
    (h0 : 0 ≤ i.toInt) (h1 : i.toInt ≤ 15) (hg : ∀ k, k < i.toNatClampNeg → ¬ g k < 0 ∧ ¬ M < g k) (hl : i = 0 ∨ b = 0 ∨ ∃ k, k < i.toNatClampNeg ∧ lk = g k) (hk0 : ¬ key < 0) (hkM : ¬ M < key) (hv : lk' = key ∨ (¬ i = 0 ∧ lk' = lk)) : Bkt Z h tg M (.ref a) (.ref c) (i + 1) lk' b := by
  have e := (own_succ h0 (by omega)).2
  refine Or.inr ⟨a, c, _, _, rfl, rfl, ta, tc, Aa, Ac, fun k hk => ?_, Or.inr ?_⟩
  · by_cases q : k = i.toNatClampNeg
    · subst q; rw [upd_same]; exact ⟨hk0, hkM⟩
    · rw [upd_ne _ _ _ q]; exact hg k (by omega)
  · rcases hv with q | ⟨q1, q2⟩
    · exact Or.inr ⟨i.toNatClampNeg, by omega, by rw [upd_same]; exact q⟩
    · rcases hl with q | q | ⟨k, q3, q4⟩
      · exact absurd q q1
      · exact Or.inl q
      · exact Or.inr ⟨k, by omega, by rw [upd_ne _ _ _ (by omega), q2]; exact q4⟩
theorem own_shl : ∀ b : Fin 64, ((1 : Int64) <<< ((Int32.ofNat b.val) &&& 0x3f).toInt64).toBitVec = BitVec.twoPow 64 b.val := by decide +kernel
theorem own_shl' {p1 : Int32} (hb : ¬ (p1 < 0 ∨ 64 ≤ p1.toNatClampNeg)) : ((1 : Int64) <<< (p1 &&& 0x3f).toInt64).toBitVec = BitVec.twoPow 64 p1.toNatClampNeg := by
  have e := own_shl ⟨p1.toNatClampNeg, own_lt hb⟩
  have q : Int32.ofNat p1.toNatClampNeg = p1 := (back32 fun c => hb (Or.inl c)).1
  simp only [q] at e
  exact e
theorem own_m1 : ∀ j : Fin 64, (-1 : Int64).toBitVec.getLsbD j.val = true := by decide
theorem own_m2 : ∀ j : Fin 64, (-2 : Int64).toBitVec.getLsbD j.val = !decide (j.val = 0) := by decide
theorem own_bitOr {p1 : Int32} (hb : ¬ (p1 < 0 ∨ 64 ≤ p1.toNatClampNeg)) (u : Int64) (j : Nat) (hj : j < 64) : bitOf (u ||| ((1 : Int64) <<< (p1 &&& 0x3f).toInt64)) j = if j = p1.toNatClampNeg then true else bitOf u j := by
  unfold bitOf
  rw [Int64.toBitVec_or, own_shl' hb, BitVec.getLsbD_or, BitVec.getLsbD_twoPow]
  by_cases e : j = p1.toNatClampNeg
  · subst e; simp [hj]
  · have e2 : ¬ p1.toNatClampNeg = j := fun q => e q.symm
    simp [e, e2]
theorem own_bitClr {p1 : Int32} (hb : ¬ (p1 < 0 ∨ 64 ≤ p1.toNatClampNeg)) (u : Int64) (j : Nat) (hj : j < 64) : bitOf (u &&& (((1 : Int64) <<< (p1 &&& 0x3f).toInt64) ^^^ (-1 : Int64))) j = if j = p1.toNatClampNeg then false else bitOf u j := by
  unfold bitOf
  have m := own_m1 ⟨j, hj⟩
  simp only at m
  rw [Int64.toBitVec_and, Int64.toBitVec_xor, own_shl' hb, BitVec.getLsbD_and, BitVec.getLsbD_xor, BitVec.getLsbD_twoPow, m]
  by_cases e : j = p1.toNatClampNeg
  · subst e; simp [hj]
  · have e2 : ¬ p1.toNatClampNeg = j := fun q => e q.symm
    simp [e, e2]
theorem own_bitClr0 (u : Int64) (j : Nat) (hj : j < 64) : bitOf (u &&& (-2 : Int64)) j = if j = 0 then false else bitOf u j := by
  unfold bitOf
  have m := own_m2 ⟨j, hj⟩
  simp only at m
  rw [Int64.toBitVec_and, BitVec.getLsbD_and, m]
  by_cases e : j = 0 <;> simp [e]
theorem own_bit0 (u : Int64) (h : ¬ lcmpW (u &&& (1 : Int64)) (0 : Int64) = (0 : Int32)) : bitOf u 0 = true := by
  rw [lw_eq] at h
  unfold bitOf
  cases q : u.toBitVec.getLsbD 0 with
  | true => rfl
  | false =>
    refine absurd ?_ h
    apply Int64.toBitVec_inj.mp
    rw [Int64.toBitVec_and]
    apply BitVec.eq_of_getLsbD_eq
    intro j hj
    rw [BitVec.getLsbD_and]
    by_cases e : j = 0
    · subst e; rw [q]; simp
    · have : (1 : Int64).toBitVec = BitVec.twoPow 64 0 := by decide
      rw [this, BitVec.getLsbD_twoPow]
      have e2 : ¬ 0 = j := fun q => e q.symm
      simp [e2]
def QP (Z : State) (h0 : Heap) (n0 : Nat) (o ka va sa la : Addr) (tg : Addr → Nat) (M : Int64) (sf : Nat → Int32) (w : Int64) (z : Int32) (n b : Nat) (v : Option Value) (h : Heap) (L : List Loc) : Prop :=
  v = none ∧ Fr n0 L ∧ ∃ (tg' : Addr → Nat) (kf' vf' : Nat → Value) (sf' : Nat → Int32) (lf' : Nat → Int64) (u' : Int64), RF Z h o ka va sa la kf' vf' sf' lf' u' w z ∧ TG tg' o ka va sa la ∧ JJ Z h n0 tg' M kf' vf' sf' lf' u' (n + 1) ∧ (∀ x, x < h0.size → tg' x = tg x) ∧
    (∀ (x : Addr) (c : Cell), h0[x]? = some c → tg x = 5 → h[x]? = some c) ∧ (∀ j, sf j ≠ 0 → sf' j ≠ 0) ∧ sf' b ≠ 0
theorem own_putEnd {p1 i : Int32} {a c : Addr} {g gv : Nat → Int64} {key val lk' : Int64} {L : List Loc} (J0 : JJ Z h n0 tg M kf vf sf lf u n) (G0 : TG tg o ka va sa la) (hlt : o < h.size ∧ ka < h.size ∧ va < h.size ∧ sa < h.size ∧ la < h.size) (hb : ¬ (p1 < 0 ∨ 64 ≤ p1.toNatClampNeg)) (K : Keep h h' ws)
    (hW : ∀ x ∈ ws, (tg x < 10 ∧ tg x ≠ 5) ∨ tg x = 10 + 2 * p1.toNatClampNeg ∨ tg x = 11 + 2 * p1.toNatClampNeg) (ht : ∀ x, x < h.size → tg' x = tg x) (hg0 : ∀ x, tg' x ≠ 0 → n0 ≤ x)
    (e1 : ∀ j, j ≠ p1.toNatClampNeg → kf' j = kf j) (e2 : ∀ j, j ≠ p1.toNatClampNeg → vf' j = vf j) (ea : kf' p1.toNatClampNeg = .ref a) (ec : vf' p1.toNatClampNeg = .ref c) (ta : tg' a = 10 + 2 * p1.toNatClampNeg) (tc : tg' c = 11 + 2 * p1.toNatClampNeg)
    (Aa : IA Z h' a .long 16 (fun k => .long (upd g i.toNatClampNeg key k))) (Ac : IA Z h' c .long 16 (fun k => .long (upd gv i.toNatClampNeg val k))) (hi : sf p1.toNatClampNeg = i) (hn : n < 16)
    (hg : ∀ k, k < i.toNatClampNeg → ¬ g k < 0 ∧ ¬ M < g k) (hl : i = 0 ∨ p1.toNatClampNeg = 0 ∨ ∃ k, k < i.toNatClampNeg ∧ lf p1.toNatClampNeg = g k) (hk0 : ¬ key < 0) (hkM : ¬ M < key) (hv : lk' = key ∨ (¬ i = 0 ∧ lk' = lf p1.toNatClampNeg))
    (R : RF Z h' o ka va sa la kf' vf' (upd sf p1.toNatClampNeg (i + 1)) (upd lf p1.toNatClampNeg lk') (u ||| ((1 : Int64) <<< (p1 &&& 0x3f).toInt64)) w z) (N : Fr n0 L) : QP Z h n0 o ka va sa la tg M sf w z n p1.toNatClampNeg none h' L := by
  have hb' := own_lt hb
  have b1 := J0.le hb'
  rw [hi] at b1
  have s1 := own_succ (i := i) (by omega) (by omega)
  have z1 : ¬ i + 1 = 0 := fun q => by rw [q] at s1; have := s1.1; rw [show (0 : Int32).toInt = 0 from rfl] at this; omega
  refine ⟨rfl, N, tg', kf', vf', _, _, _, R, ⟨?_, ?_, ?_, ?_, ?_⟩, ?_, ht, fun x cl hx t5 => K.2.1 x cl hx fun hm => ?_, fun j hj => ?_, ?_⟩
  · rw [ht _ hlt.1]; exact G0.1
  · rw [ht _ hlt.2.1]; exact G0.2.1
  · rw [ht _ hlt.2.2.1]; exact G0.2.2.1
  · rw [ht _ hlt.2.2.2.1]; exact G0.2.2.2.1
  · rw [ht _ hlt.2.2.2.2]; exact G0.2.2.2.2
  · refine J0.change hb' K (fun x hx => ?_) (fun x hx => Or.inl (ht x hx)) hg0 e1 e2 (fun j hj => upd_ne _ _ _ hj) (fun j hj => upd_ne _ _ _ hj) ?_ (fun j hj => ?_) ?_ ?_
    · rcases hW x hx with q | q | q
      · exact Or.inl q.1
      · exact Or.inr (Or.inl q)
      · exact Or.inr (Or.inr q)
    · rw [ea, ec, upd_same, upd_same]
      exact own_bktPut ta tc Aa Ac (by omega) (by omega) hg hl hk0 hkM hv
    · rw [own_bitOr hb u j hj, upd_same]
      by_cases e : j = p1.toNatClampNeg
      · simp [e, z1]
      · simp [e]
    · rw [upd_same, Int32.lt_iff_toInt_lt, show (0 : Int32).toInt = 0 from rfl]; omega
    · rw [upd_same, hi]; omega
  · rcases hW x hm with q | q | q
    · exact q.2 t5
    · omega
    · omega
  · by_cases e : j = p1.toNatClampNeg
    · subst e; rw [upd_same]; exact z1
    · rw [upd_ne _ _ _ e]; exact hj
  · rw [upd_same]; exact z1
theorem own_init (R : RF Z h o ka va sa la (fun _ => .null) (fun _ => .null) (fun _ => (0 : Int32)) (fun _ => (0 : Int64)) (0 : Int64) (0 : Int64) (0 : Int32)) (n1 : o ≠ ka) (n2 : o ≠ va) (n3 : o ≠ sa) (n4 : o ≠ la) (n5 : ka ≠ va) (n6 : ka ≠ sa) (n7 : ka ≠ la) (n8 : va ≠ sa) (n9 : va ≠ la) (n10 : sa ≠ la)
    (g1 : n0 ≤ o) (g2 : n0 ≤ ka) (g3 : n0 ≤ va) (g4 : n0 ≤ sa) (g5 : n0 ≤ la) : RH Z h n0 o (0 : Int32) (0 : Int64) M := by
  refine ⟨ka, va, sa, la, fun x => if x = o then 1 else if x = ka then 2 else if x = va then 3 else if x = sa then 4 else if x = la then 6 else 0, _, _, _, _, _, _, R, ⟨?_, ?_, ?_, ?_, ?_⟩, ⟨fun b _ => Or.inl ⟨rfl, rfl⟩, fun b hb => ?_, fun b _ => by show ¬ (0 : Int32) < 0; decide, ?_, fun x hx => ?_⟩, by decide, by decide, by decide⟩
  · simp
  · simp [n1.symm]
  · simp [n2.symm, n5.symm]
  · simp [n3.symm, n6.symm, n8.symm]
  · simp [n4.symm, n7.symm, n9.symm, n10.symm]
  · unfold bitOf; simp
  · exact sumTo_zero 64
  · by_cases q1 : x = o
    · rw [q1]; exact g1
    by_cases q2 : x = ka
    · rw [q2]; exact g2
    by_cases q3 : x = va
    · rw [q3]; exact g3
    by_cases q4 : x = sa
    · rw [q4]; exact g4
    by_cases q5 : x = la
    · rw [q5]; exact g5
    · simp [q1, q2, q3, q4, q5] at hx
def TW (tg : Addr → Nat) (a c : Addr) (ta tc : Nat) (x : Addr) : Nat := if x = a then ta else if x = c then tc else tg x
end OwnHeapPlain

theorem d1_0 : decode jdk_29_method_66_code 0 = .ok (.lload_n 0, 1) := by decide +kernel
theorem d1_1 : decode jdk_29_method_66_code 1 = .ok (.lload_n 2, 1) := by decide +kernel
theorem d1_2 : decode jdk_29_method_66_code 2 = .ok (.lcmp, 1) := by decide +kernel
theorem d1_3 : decode jdk_29_method_66_code 3 = .ok (.ifCond .lt 7, 3) := by decide +kernel
theorem d1_6 : decode jdk_29_method_66_code 6 = .ok (.lload_n 0, 1) := by decide +kernel
theorem d1_7 : decode jdk_29_method_66_code 7 = .ok (.goto 4, 3) := by decide +kernel
theorem d1_10 : decode jdk_29_method_66_code 10 = .ok (.lload_n 2, 1) := by decide +kernel
theorem d1_11 : decode jdk_29_method_66_code 11 = .ok (.lreturn, 1) := by decide +kernel

theorem ef_1 (m : MethodId) (q0 : Int64) (q1 : Int64) : entryFrame m #[(.long q0), (.long q1)] 4 = mkF m 0 #[.val (.long q0), .second, .val (.long q1), .second] [] := by first | (simp [entryFrame, mkF, argsToLocals, Value.category]; done) | rfl
def f1_11 (v11_s0 : Int64) : Int64 := v11_s0
def f1_10 (q1 : Int64) : Int64 := (f1_11 q1)
def f1_6 (q0 : Int64) : Int64 := (f1_11 q0)
def f1_0 (q0 : Int64) (q1 : Int64) : Int64 := if (lcmpW q0 q1) < (0 : Int32) then (f1_10 q1) else (f1_6 q0)
set_option maxRecDepth 65536 in
set_option maxHeartbeats 40000000 in
theorem rm1 (l : Launch) (Z : State) (a0 : Array Value) (hw : ∀ d ∈ tables_1, d.before a0 Z = true) (ws : List Jvm.Cond) (q0 : Int64) (q1 : Int64)  (h0 : Heap) :
    MetFree l (⟨"java/lang/Math", "max", "(JJ)J"⟩ : MethodName) (head1 (Jvm.Cond.code (⟨"java/lang/Math", "max", "(JJ)J"⟩ : MethodName) jdk_29_method_66_code 4 (some .long) :: ws) ({ frames := 0, cells := 0, slots := 0, locals := 0 } : Room)) (fun a U => a = #[(.long q0), (.long q1)] ∧ Z.Warmed39 U.vm ∧ U.heap = h0) (fun _ _ _ _ _ => True) (fun _ U o U' => ∃ v L, o = .returned v ∧ (PureQ (.long (f1_0 q0 q1)) h0) v U'.heap L ∧ FrameEnd U o U' L ({ frames := 0, cells := 0, slots := 0, locals := 0 } : Room).cells ({ frames := 0, cells := 0, slots := 0, locals := 0 } : Room).slots) := by
  refine MetFree.of_bodySF (Jvm.Free.JP.mathPlain rfl (by decide +kernel)) hisR ?_
  intro p e s m args below meth c s₁ Bd hml0 hP hK
  obtain ⟨rfl, hZ, hh⟩ := hP
  have hx := Bd.exec
  have hby := Bd.bytes
  have hlk : meth.locks = false := BodyLoose.notSynchronized Bd
  have hml : c.maxLocals = 4 := hml0
  have hown : s.vm.findClass "java/lang/Math" = some m.cls := findClass_of_methodNamed Bd.named
  have hnm := (name_of_methodNamed Bd.named Bd.method).1
  have X0 : Stand p l e ({ frames := 0, cells := 0, slots := 0, locals := 0 } : Room) s m #[(.long q0), (.long q1)] below meth c s₁ ([] : List Loc) 0 0 := Stand.of_body Bd
  have e0 : s₁.heap = h0 := by rw [← hh, Bd.state]; rfl
  show Go p e below s 0 0 (PureQ (.long (f1_0 q0 q1)) h0) s₁ (entryFrame m #[(.long q0), (.long q1)] 4)
  rw [ef_1 m q0 q1]
  refine Go.step (g' := (mkF m 1 #[.val (.long q0), .second, .val (.long q1), .second] [(.long q0)])) (fun _ k => XS.lloadN X0.here hx rfl (hb hby d1_0) rfl  k) ?_
  refine Go.step (g' := (mkF m 2 #[.val (.long q0), .second, .val (.long q1), .second] [(.long q1), (.long q0)])) (fun _ k => XS.lloadN X0.here hx rfl (hb hby d1_1) rfl  k) ?_
  refine Go.step (g' := (mkF m 3 #[.val (.long q0), .second, .val (.long q1), .second] [(.int (lcmpW q0 q1))])) (fun _ k => XS.lcmp X0.here hx rfl (hb hby d1_2) rfl k) ?_
  have t11 : ∀ (v11_s0 : Int64), Go p e below s 0 0 (PureQ (.long (f1_11 v11_s0)) h0) s₁ (mkF m 11 #[.val (.long q0), .second, .val (.long q1), .second] [(.long v11_s0)]) := by
    intro v11_s0
    exact Go.retW X0 hx hlk (t := .long) Bd.returns rfl (Or.inr (Or.inl ⟨rfl, rfl, _, rfl⟩)) (hb hby d1_11) (by decide) (by decide) ⟨rfl, rfl, e0⟩
  by_cases hc3 : (lcmpW q0 q1) < (0 : Int32)
  · rw [show (f1_0 q0 q1) = (f1_10 q1) from if_pos hc3]
    refine Go.step (g' := (mkF m 10 #[.val (.long q0), .second, .val (.long q1), .second] [])) (fun _ k => XS.ifYes X0.here hx rfl (pc0 := 3) (pc' := 10) rfl (hb hby d1_3) rfl ((if0 _ _).trans (tlt hc3).1) (by decide) (by decide) k) ?_
    refine Go.step (g' := (mkF m 11 #[.val (.long q0), .second, .val (.long q1), .second] [(.long q1)])) (fun _ k => XS.lloadN X0.here hx rfl (hb hby d1_10) rfl  k) ?_
    rw [show (f1_10 q1) = (f1_11 q1) from rfl]
    exact t11 q1
  · rw [show (f1_0 q0 q1) = (f1_6 q0) from if_neg hc3]
    refine Go.step (g' := (mkF m 6 #[.val (.long q0), .second, .val (.long q1), .second] [])) (fun _ k => XS.ifNo X0.here hx rfl (hb hby d1_3) rfl ((if0 _ _).trans (flt hc3).1) k) ?_
    refine Go.step (g' := (mkF m 7 #[.val (.long q0), .second, .val (.long q1), .second] [(.long q0)])) (fun _ k => XS.lloadN X0.here hx rfl (hb hby d1_6) rfl  k) ?_
    refine Go.step (g' := (mkF m 11 #[.val (.long q0), .second, .val (.long q1), .second] [(.long q0)])) (fun _ k => XS.goto X0.here hx rfl (pc0 := 7) (pc' := 11) rfl (hb hby d1_7) (by decide) (by decide) k) ?_
    rw [show (f1_6 q0) = (f1_11 q0) from rfl]
    exact t11 q0
theorem d11_0 : decode jdk_29_method_70_code 0 = .ok (.lload_n 0, 1) := by decide +kernel
theorem d11_1 : decode jdk_29_method_70_code 1 = .ok (.lload_n 2, 1) := by decide +kernel
theorem d11_2 : decode jdk_29_method_70_code 2 = .ok (.lcmp, 1) := by decide +kernel
theorem d11_3 : decode jdk_29_method_70_code 3 = .ok (.ifCond .gt 7, 3) := by decide +kernel
theorem d11_6 : decode jdk_29_method_70_code 6 = .ok (.lload_n 0, 1) := by decide +kernel
theorem d11_7 : decode jdk_29_method_70_code 7 = .ok (.goto 4, 3) := by decide +kernel
theorem d11_10 : decode jdk_29_method_70_code 10 = .ok (.lload_n 2, 1) := by decide +kernel
theorem d11_11 : decode jdk_29_method_70_code 11 = .ok (.lreturn, 1) := by decide +kernel

theorem ef_11 (m : MethodId) (q0 : Int64) (q1 : Int64) : entryFrame m #[(.long q0), (.long q1)] 4 = mkF m 0 #[.val (.long q0), .second, .val (.long q1), .second] [] := by first | (simp [entryFrame, mkF, argsToLocals, Value.category]; done) | rfl
def f11_11 (v11_s0 : Int64) : Int64 := v11_s0
def f11_10 (q1 : Int64) : Int64 := (f11_11 q1)
def f11_6 (q0 : Int64) : Int64 := (f11_11 q0)
def f11_0 (q0 : Int64) (q1 : Int64) : Int64 := if (0 : Int32) < (lcmpW q0 q1) then (f11_10 q1) else (f11_6 q0)
set_option maxRecDepth 65536 in
set_option maxHeartbeats 40000000 in
theorem rm11 (l : Launch) (Z : State) (a0 : Array Value) (hw : ∀ d ∈ tables_1, d.before a0 Z = true) (ws : List Jvm.Cond) (q0 : Int64) (q1 : Int64)  (h0 : Heap) :
    MetFree l (⟨"java/lang/Math", "min", "(JJ)J"⟩ : MethodName) (head1 (Jvm.Cond.code (⟨"java/lang/Math", "min", "(JJ)J"⟩ : MethodName) jdk_29_method_70_code 4 (some .long) :: ws) ({ frames := 0, cells := 0, slots := 0, locals := 0 } : Room)) (fun a U => a = #[(.long q0), (.long q1)] ∧ Z.Warmed39 U.vm ∧ U.heap = h0) (fun _ _ _ _ _ => True) (fun _ U o U' => ∃ v L, o = .returned v ∧ (PureQ (.long (f11_0 q0 q1)) h0) v U'.heap L ∧ FrameEnd U o U' L ({ frames := 0, cells := 0, slots := 0, locals := 0 } : Room).cells ({ frames := 0, cells := 0, slots := 0, locals := 0 } : Room).slots) := by
  refine MetFree.of_bodySF (Jvm.Free.JP.mathPlain rfl (by decide +kernel)) hisR ?_
  intro p e s m args below meth c s₁ Bd hml0 hP hK
  obtain ⟨rfl, hZ, hh⟩ := hP
  have hx := Bd.exec
  have hby := Bd.bytes
  have hlk : meth.locks = false := BodyLoose.notSynchronized Bd
  have hml : c.maxLocals = 4 := hml0
  have hown : s.vm.findClass "java/lang/Math" = some m.cls := findClass_of_methodNamed Bd.named
  have hnm := (name_of_methodNamed Bd.named Bd.method).1
  have X0 : Stand p l e ({ frames := 0, cells := 0, slots := 0, locals := 0 } : Room) s m #[(.long q0), (.long q1)] below meth c s₁ ([] : List Loc) 0 0 := Stand.of_body Bd
  have e0 : s₁.heap = h0 := by rw [← hh, Bd.state]; rfl
  show Go p e below s 0 0 (PureQ (.long (f11_0 q0 q1)) h0) s₁ (entryFrame m #[(.long q0), (.long q1)] 4)
  rw [ef_11 m q0 q1]
  refine Go.step (g' := (mkF m 1 #[.val (.long q0), .second, .val (.long q1), .second] [(.long q0)])) (fun _ k => XS.lloadN X0.here hx rfl (hb hby d11_0) rfl  k) ?_
  refine Go.step (g' := (mkF m 2 #[.val (.long q0), .second, .val (.long q1), .second] [(.long q1), (.long q0)])) (fun _ k => XS.lloadN X0.here hx rfl (hb hby d11_1) rfl  k) ?_
  refine Go.step (g' := (mkF m 3 #[.val (.long q0), .second, .val (.long q1), .second] [(.int (lcmpW q0 q1))])) (fun _ k => XS.lcmp X0.here hx rfl (hb hby d11_2) rfl k) ?_
  have t11 : ∀ (v11_s0 : Int64), Go p e below s 0 0 (PureQ (.long (f11_11 v11_s0)) h0) s₁ (mkF m 11 #[.val (.long q0), .second, .val (.long q1), .second] [(.long v11_s0)]) := by
    intro v11_s0
    exact Go.retW X0 hx hlk (t := .long) Bd.returns rfl (Or.inr (Or.inl ⟨rfl, rfl, _, rfl⟩)) (hb hby d11_11) (by decide) (by decide) ⟨rfl, rfl, e0⟩
  by_cases hc3 : (0 : Int32) < (lcmpW q0 q1)
  · rw [show (f11_0 q0 q1) = (f11_10 q1) from if_pos hc3]
    refine Go.step (g' := (mkF m 10 #[.val (.long q0), .second, .val (.long q1), .second] [])) (fun _ k => XS.ifYes X0.here hx rfl (pc0 := 3) (pc' := 10) rfl (hb hby d11_3) rfl ((if0 _ _).trans (tlt hc3).2.2.1) (by decide) (by decide) k) ?_
    refine Go.step (g' := (mkF m 11 #[.val (.long q0), .second, .val (.long q1), .second] [(.long q1)])) (fun _ k => XS.lloadN X0.here hx rfl (hb hby d11_10) rfl  k) ?_
    rw [show (f11_10 q1) = (f11_11 q1) from rfl]
    exact t11 q1
  · rw [show (f11_0 q0 q1) = (f11_6 q0) from if_neg hc3]
    refine Go.step (g' := (mkF m 6 #[.val (.long q0), .second, .val (.long q1), .second] [])) (fun _ k => XS.ifNo X0.here hx rfl (hb hby d11_3) rfl ((if0 _ _).trans (flt hc3).2.2.1) k) ?_
    refine Go.step (g' := (mkF m 7 #[.val (.long q0), .second, .val (.long q1), .second] [(.long q0)])) (fun _ k => XS.lloadN X0.here hx rfl (hb hby d11_6) rfl  k) ?_
    refine Go.step (g' := (mkF m 11 #[.val (.long q0), .second, .val (.long q1), .second] [(.long q0)])) (fun _ k => XS.goto X0.here hx rfl (pc0 := 7) (pc' := 11) rfl (hb hby d11_7) (by decide) (by decide) k) ?_
    rw [show (f11_6 q0) = (f11_11 q0) from rfl]
    exact t11 q0
theorem d9_0 : decode jdk_33_method_47_code 0 = .ok (.iload_n 0, 1) := by decide +kernel
theorem d9_1 : decode jdk_33_method_47_code 1 = .ok (.ifCond .gt 14, 3) := by decide +kernel
theorem d9_4 : decode jdk_33_method_47_code 4 = .ok (.iload_n 0, 1) := by decide +kernel
theorem d9_5 : decode jdk_33_method_47_code 5 = .ok (.ifCond .ne 8, 3) := by decide +kernel
theorem d9_8 : decode jdk_33_method_47_code 8 = .ok (.bipush 32, 2) := by decide +kernel
theorem d9_10 : decode jdk_33_method_47_code 10 = .ok (.goto 4, 3) := by decide +kernel
theorem d9_13 : decode jdk_33_method_47_code 13 = .ok (.iconst 0, 1) := by decide +kernel
theorem d9_14 : decode jdk_33_method_47_code 14 = .ok (.ireturn, 1) := by decide +kernel
theorem d9_15 : decode jdk_33_method_47_code 15 = .ok (.bipush 31, 2) := by decide +kernel
theorem d9_17 : decode jdk_33_method_47_code 17 = .ok (.istore_n 1, 1) := by decide +kernel
theorem d9_18 : decode jdk_33_method_47_code 18 = .ok (.iload_n 0, 1) := by decide +kernel
theorem d9_19 : decode jdk_33_method_47_code 19 = .ok (.ldc_w 264, 3) := by decide +kernel
theorem d9_22 : decode jdk_33_method_47_code 22 = .ok (.if_icmp .lt 11, 3) := by decide +kernel
theorem d9_25 : decode jdk_33_method_47_code 25 = .ok (.iinc 1 (-16), 3) := by decide +kernel
theorem d9_28 : decode jdk_33_method_47_code 28 = .ok (.iload_n 0, 1) := by decide +kernel
theorem d9_29 : decode jdk_33_method_47_code 29 = .ok (.bipush 16, 2) := by decide +kernel
theorem d9_31 : decode jdk_33_method_47_code 31 = .ok (.iushr, 1) := by decide +kernel
theorem d9_32 : decode jdk_33_method_47_code 32 = .ok (.istore_n 0, 1) := by decide +kernel
theorem d9_33 : decode jdk_33_method_47_code 33 = .ok (.iload_n 0, 1) := by decide +kernel
theorem d9_34 : decode jdk_33_method_47_code 34 = .ok (.sipush 256, 3) := by decide +kernel
theorem d9_37 : decode jdk_33_method_47_code 37 = .ok (.if_icmp .lt 11, 3) := by decide +kernel
theorem d9_40 : decode jdk_33_method_47_code 40 = .ok (.iinc 1 (-8), 3) := by decide +kernel
theorem d9_43 : decode jdk_33_method_47_code 43 = .ok (.iload_n 0, 1) := by decide +kernel
theorem d9_44 : decode jdk_33_method_47_code 44 = .ok (.bipush 8, 2) := by decide +kernel
theorem d9_46 : decode jdk_33_method_47_code 46 = .ok (.iushr, 1) := by decide +kernel
theorem d9_47 : decode jdk_33_method_47_code 47 = .ok (.istore_n 0, 1) := by decide +kernel
theorem d9_48 : decode jdk_33_method_47_code 48 = .ok (.iload_n 0, 1) := by decide +kernel
theorem d9_49 : decode jdk_33_method_47_code 49 = .ok (.bipush 16, 2) := by decide +kernel
theorem d9_51 : decode jdk_33_method_47_code 51 = .ok (.if_icmp .lt 10, 3) := by decide +kernel
theorem d9_54 : decode jdk_33_method_47_code 54 = .ok (.iinc 1 (-4), 3) := by decide +kernel
theorem d9_57 : decode jdk_33_method_47_code 57 = .ok (.iload_n 0, 1) := by decide +kernel
theorem d9_58 : decode jdk_33_method_47_code 58 = .ok (.iconst 4, 1) := by decide +kernel
theorem d9_59 : decode jdk_33_method_47_code 59 = .ok (.iushr, 1) := by decide +kernel
theorem d9_60 : decode jdk_33_method_47_code 60 = .ok (.istore_n 0, 1) := by decide +kernel
theorem d9_61 : decode jdk_33_method_47_code 61 = .ok (.iload_n 0, 1) := by decide +kernel
theorem d9_62 : decode jdk_33_method_47_code 62 = .ok (.iconst 4, 1) := by decide +kernel
theorem d9_63 : decode jdk_33_method_47_code 63 = .ok (.if_icmp .lt 10, 3) := by decide +kernel
theorem d9_66 : decode jdk_33_method_47_code 66 = .ok (.iinc 1 (-2), 3) := by decide +kernel
theorem d9_69 : decode jdk_33_method_47_code 69 = .ok (.iload_n 0, 1) := by decide +kernel
theorem d9_70 : decode jdk_33_method_47_code 70 = .ok (.iconst 2, 1) := by decide +kernel
theorem d9_71 : decode jdk_33_method_47_code 71 = .ok (.iushr, 1) := by decide +kernel
theorem d9_72 : decode jdk_33_method_47_code 72 = .ok (.istore_n 0, 1) := by decide +kernel
theorem d9_73 : decode jdk_33_method_47_code 73 = .ok (.iload_n 1, 1) := by decide +kernel
theorem d9_74 : decode jdk_33_method_47_code 74 = .ok (.iload_n 0, 1) := by decide +kernel
theorem d9_75 : decode jdk_33_method_47_code 75 = .ok (.iconst 1, 1) := by decide +kernel
theorem d9_76 : decode jdk_33_method_47_code 76 = .ok (.iushr, 1) := by decide +kernel
theorem d9_77 : decode jdk_33_method_47_code 77 = .ok (.isub, 1) := by decide +kernel
theorem d9_78 : decode jdk_33_method_47_code 78 = .ok (.ireturn, 1) := by decide +kernel
theorem pn_9 : plainName "java/lang/Integer" = true := by first | (simp [plainName, overriddenIn]; done) | decide +kernel
theorem ef_9 (m : MethodId) (p0 : Int32) : entryFrame m #[(.int p0)] 2 = mkF m 0 #[.val (.int p0), .unset] [] := by first | (simp [entryFrame, mkF, argsToLocals, Value.category]; done) | rfl
def f9_73 (v73_0 : Int32) (v73_1 : Int32) : Int32 := (v73_1 - ((v73_0.toUInt32 >>> ((1 : Int32) &&& 31).toUInt32).toInt32))
def f9_66 (v61_0 : Int32) (v61_1 : Int32) : Int32 := (f9_73 ((v61_0.toUInt32 >>> ((2 : Int32) &&& 31).toUInt32).toInt32) (v61_1 + (-2 : Int32)))
def f9_61 (v61_0 : Int32) (v61_1 : Int32) : Int32 := if v61_0 < (4 : Int32) then (f9_73 v61_0 v61_1) else (f9_66 v61_0 v61_1)
def f9_54 (v48_0 : Int32) (v48_1 : Int32) : Int32 := (f9_61 ((v48_0.toUInt32 >>> ((4 : Int32) &&& 31).toUInt32).toInt32) (v48_1 + (-4 : Int32)))
def f9_48 (v48_0 : Int32) (v48_1 : Int32) : Int32 := if v48_0 < (16 : Int32) then (f9_61 v48_0 v48_1) else (f9_54 v48_0 v48_1)
def f9_40 (v33_0 : Int32) (v33_1 : Int32) : Int32 := (f9_48 ((v33_0.toUInt32 >>> ((8 : Int32) &&& 31).toUInt32).toInt32) (v33_1 + (-8 : Int32)))
def f9_33 (v33_0 : Int32) (v33_1 : Int32) : Int32 := if v33_0 < (256 : Int32) then (f9_48 v33_0 v33_1) else (f9_40 v33_0 v33_1)
def f9_25 (p0 : Int32) : Int32 := (f9_33 ((p0.toUInt32 >>> ((16 : Int32) &&& 31).toUInt32).toInt32) ((31 : Int32) + (-16 : Int32)))
def f9_15 (p0 : Int32) : Int32 := if p0 < (65536 : Int32) then (f9_33 p0 (31 : Int32)) else (f9_25 p0)
def f9_14 (v14_s0 : Int32) : Int32 := v14_s0
def f9_13 : Int32 := (f9_14 (0 : Int32))
def f9_8 : Int32 := (f9_14 (32 : Int32))
def f9_4 (p0 : Int32) : Int32 := if p0 = (0 : Int32) then f9_8 else f9_13
def f9_0 (p0 : Int32) : Int32 := if (0 : Int32) < p0 then (f9_15 p0) else (f9_4 p0)
set_option maxRecDepth 65536 in
set_option maxHeartbeats 40000000 in
theorem rm9 (l : Launch) (Z : State) (a0 : Array Value) (hw : ∀ d ∈ tables_1, d.before a0 Z = true) (ws : List Jvm.Cond) (p0 : Int32)  (h0 : Heap) :
    MetFree l (⟨"java/lang/Integer", "numberOfLeadingZeros", "(I)I"⟩ : MethodName) (head1 (Jvm.Cond.code (⟨"java/lang/Integer", "numberOfLeadingZeros", "(I)I"⟩ : MethodName) jdk_33_method_47_code 2 (some .int) :: ws) ({ frames := 0, cells := 0, slots := 0, locals := 0 } : Room)) (fun a U => a = #[(.int p0)] ∧ Z.Warmed39 U.vm ∧ U.heap = h0) (fun _ _ _ _ _ => True) (fun _ U o U' => ∃ v L, o = .returned v ∧ (PureQ (.int (f9_0 p0)) h0) v U'.heap L ∧ FrameEnd U o U' L ({ frames := 0, cells := 0, slots := 0, locals := 0 } : Room).cells ({ frames := 0, cells := 0, slots := 0, locals := 0 } : Room).slots) := by
  refine MetFree.of_bodySF (plainFor_of_name pn_9) hisR ?_
  intro p e s m args below meth c s₁ Bd hml0 hP hK
  obtain ⟨rfl, hZ, hh⟩ := hP
  have hx := Bd.exec
  have hby := Bd.bytes
  have hlk : meth.locks = false := BodyLoose.notSynchronized Bd
  have hml : c.maxLocals = 2 := hml0
  have hown : s.vm.findClass "java/lang/Integer" = some m.cls := findClass_of_methodNamed Bd.named
  have hnm := (name_of_methodNamed Bd.named Bd.method).1
  have X0 : Stand p l e ({ frames := 0, cells := 0, slots := 0, locals := 0 } : Room) s m #[(.int p0)] below meth c s₁ ([] : List Loc) 0 0 := Stand.of_body Bd
  have e0 : s₁.heap = h0 := by rw [← hh, Bd.state]; rfl
  show Go p e below s 0 0 (PureQ (.int (f9_0 p0)) h0) s₁ (entryFrame m #[(.int p0)] 2)
  rw [ef_9 m p0]
  refine Go.step (g' := (mkF m 1 #[.val (.int p0), .unset] [(.int p0)])) (fun _ k => XS.iloadN X0.here hx rfl (hb hby d9_0) rfl  k) ?_
  by_cases hc1 : (0 : Int32) < p0
  · rw [show (f9_0 p0) = (f9_15 p0) from if_pos hc1]
    refine Go.step (g' := (mkF m 15 #[.val (.int p0), .unset] [])) (fun _ k => XS.ifYes X0.here hx rfl (pc0 := 1) (pc' := 15) rfl (hb hby d9_1) rfl ((if0 _ _).trans (tlt hc1).2.2.1) (by decide) (by decide) k) ?_
    refine Go.step (g' := (mkF m 17 #[.val (.int p0), .unset] [(.int (31 : Int32))])) (fun _ k => XS.bipush X0.here hx rfl (hb hby d9_15) k) ?_
    refine Go.step (g' := (mkF m 18 #[.val (.int p0), .val (.int (31 : Int32))] [])) (fun _ k => XS.istoreN X0.here hx rfl (hb hby d9_17) rfl (l' := #[.val (.int p0), .val (.int (31 : Int32))]) rfl k) ?_
    refine Go.step (g' := (mkF m 19 #[.val (.int p0), .val (.int (31 : Int32))] [(.int p0)])) (fun _ k => XS.iloadN X0.here hx rfl (hb hby d9_18) rfl  k) ?_
    refine Go.step (g' := (mkF m 22 #[.val (.int p0), .val (.int (31 : Int32))] [(.int (65536 : Int32)), (.int p0)])) (fun _ k => X0.ldcWI hx hown (mvT hZ (hw _ (List.mem_of_getElem? (i := 56) rfl))) rfl (hb hby d9_19) k) ?_
    have t33 : ∀ (v33_0 : Int32) (v33_1 : Int32), Go p e below s 0 0 (PureQ (.int (f9_33 v33_0 v33_1)) h0) s₁ (mkF m 33 #[.val (.int v33_0), .val (.int v33_1)] []) := by
      intro v33_0 v33_1
      refine Go.step (g' := (mkF m 34 #[.val (.int v33_0), .val (.int v33_1)] [(.int v33_0)])) (fun _ k => XS.iloadN X0.here hx rfl (hb hby d9_33) rfl  k) ?_
      refine Go.step (g' := (mkF m 37 #[.val (.int v33_0), .val (.int v33_1)] [(.int (256 : Int32)), (.int v33_0)])) (fun _ k => XS.sipush X0.here hx rfl (hb hby d9_34) k) ?_
      have t48 : ∀ (v48_0 : Int32) (v48_1 : Int32), Go p e below s 0 0 (PureQ (.int (f9_48 v48_0 v48_1)) h0) s₁ (mkF m 48 #[.val (.int v48_0), .val (.int v48_1)] []) := by
        intro v48_0 v48_1
        refine Go.step (g' := (mkF m 49 #[.val (.int v48_0), .val (.int v48_1)] [(.int v48_0)])) (fun _ k => XS.iloadN X0.here hx rfl (hb hby d9_48) rfl  k) ?_
        refine Go.step (g' := (mkF m 51 #[.val (.int v48_0), .val (.int v48_1)] [(.int (16 : Int32)), (.int v48_0)])) (fun _ k => XS.bipush X0.here hx rfl (hb hby d9_49) k) ?_
        have t61 : ∀ (v61_0 : Int32) (v61_1 : Int32), Go p e below s 0 0 (PureQ (.int (f9_61 v61_0 v61_1)) h0) s₁ (mkF m 61 #[.val (.int v61_0), .val (.int v61_1)] []) := by
          intro v61_0 v61_1
          refine Go.step (g' := (mkF m 62 #[.val (.int v61_0), .val (.int v61_1)] [(.int v61_0)])) (fun _ k => XS.iloadN X0.here hx rfl (hb hby d9_61) rfl  k) ?_
          refine Go.step (g' := (mkF m 63 #[.val (.int v61_0), .val (.int v61_1)] [(.int (4 : Int32)), (.int v61_0)])) (fun _ k => XS.iconst X0.here hx rfl (hb hby d9_62) k) ?_
          have t73 : ∀ (v73_0 : Int32) (v73_1 : Int32), Go p e below s 0 0 (PureQ (.int (f9_73 v73_0 v73_1)) h0) s₁ (mkF m 73 #[.val (.int v73_0), .val (.int v73_1)] []) := by
            intro v73_0 v73_1
            refine Go.step (g' := (mkF m 74 #[.val (.int v73_0), .val (.int v73_1)] [(.int v73_1)])) (fun _ k => XS.iloadN X0.here hx rfl (hb hby d9_73) rfl  k) ?_
            refine Go.step (g' := (mkF m 75 #[.val (.int v73_0), .val (.int v73_1)] [(.int v73_0), (.int v73_1)])) (fun _ k => XS.iloadN X0.here hx rfl (hb hby d9_74) rfl  k) ?_
            refine Go.step (g' := (mkF m 76 #[.val (.int v73_0), .val (.int v73_1)] [(.int (1 : Int32)), (.int v73_0), (.int v73_1)])) (fun _ k => XS.iconst X0.here hx rfl (hb hby d9_75) k) ?_
            refine Go.step (g' := (mkF m 77 #[.val (.int v73_0), .val (.int v73_1)] [(.int ((v73_0.toUInt32 >>> ((1 : Int32) &&& 31).toUInt32).toInt32)), (.int v73_1)])) (fun _ k => XS.iushr X0.here hx rfl (hb hby d9_76) rfl k) ?_
            refine Go.step (g' := (mkF m 78 #[.val (.int v73_0), .val (.int v73_1)] [(.int (v73_1 - ((v73_0.toUInt32 >>> ((1 : Int32) &&& 31).toUInt32).toInt32)))])) (fun _ k => XS.isub X0.here hx rfl (hb hby d9_77) rfl k) ?_
            exact Go.retW X0 hx hlk (t := .int) Bd.returns rfl (Or.inl ⟨rfl, Or.inl rfl, _, rfl⟩) (hb hby d9_78) (by decide) (by decide) ⟨rfl, rfl, e0⟩
          by_cases hc63 : v61_0 < (4 : Int32)
          · rw [show (f9_61 v61_0 v61_1) = (f9_73 v61_0 v61_1) from if_pos hc63]
            refine Go.step (g' := (mkF m 73 #[.val (.int v61_0), .val (.int v61_1)] [])) (fun _ k => XS.icmpYes X0.here hx rfl (pc0 := 63) (pc' := 73) rfl (hb hby d9_63) rfl (tlt hc63).1 (by decide) (by decide) k) ?_
            exact t73 v61_0 v61_1
          · rw [show (f9_61 v61_0 v61_1) = (f9_66 v61_0 v61_1) from if_neg hc63]
            refine Go.step (g' := (mkF m 66 #[.val (.int v61_0), .val (.int v61_1)] [])) (fun _ k => XS.icmpNo X0.here hx rfl (hb hby d9_63) rfl (flt hc63).1 k) ?_
            refine Go.step (g' := (mkF m 69 #[.val (.int v61_0), .val (.int (v61_1 + (-2 : Int32)))] [])) (fun _ k => XS.iinc X0.here hx rfl (hb hby d9_66) rfl (l' := #[.val (.int v61_0), .val (.int (v61_1 + (-2 : Int32)))]) rfl k) ?_
            refine Go.step (g' := (mkF m 70 #[.val (.int v61_0), .val (.int (v61_1 + (-2 : Int32)))] [(.int v61_0)])) (fun _ k => XS.iloadN X0.here hx rfl (hb hby d9_69) rfl  k) ?_
            refine Go.step (g' := (mkF m 71 #[.val (.int v61_0), .val (.int (v61_1 + (-2 : Int32)))] [(.int (2 : Int32)), (.int v61_0)])) (fun _ k => XS.iconst X0.here hx rfl (hb hby d9_70) k) ?_
            refine Go.step (g' := (mkF m 72 #[.val (.int v61_0), .val (.int (v61_1 + (-2 : Int32)))] [(.int ((v61_0.toUInt32 >>> ((2 : Int32) &&& 31).toUInt32).toInt32))])) (fun _ k => XS.iushr X0.here hx rfl (hb hby d9_71) rfl k) ?_
            refine Go.step (g' := (mkF m 73 #[.val (.int ((v61_0.toUInt32 >>> ((2 : Int32) &&& 31).toUInt32).toInt32)), .val (.int (v61_1 + (-2 : Int32)))] [])) (fun _ k => XS.istoreN X0.here hx rfl (hb hby d9_72) rfl (l' := #[.val (.int ((v61_0.toUInt32 >>> ((2 : Int32) &&& 31).toUInt32).toInt32)), .val (.int (v61_1 + (-2 : Int32)))]) rfl k) ?_
            rw [show (f9_66 v61_0 v61_1) = (f9_73 ((v61_0.toUInt32 >>> ((2 : Int32) &&& 31).toUInt32).toInt32) (v61_1 + (-2 : Int32))) from rfl]
            exact t73 ((v61_0.toUInt32 >>> ((2 : Int32) &&& 31).toUInt32).toInt32) (v61_1 + (-2 : Int32))
        by_cases hc51 : v48_0 < (16 : Int32)
        · rw [show (f9_48 v48_0 v48_1) = (f9_61 v48_0 v48_1) from if_pos hc51]
          refine Go.step (g' := (mkF m 61 #[.val (.int v48_0), .val (.int v48_1)] [])) (fun _ k => XS.icmpYes X0.here hx rfl (pc0 := 51) (pc' := 61) rfl (hb hby d9_51) rfl (tlt hc51).1 (by decide) (by decide) k) ?_
          exact t61 v48_0 v48_1
        · rw [show (f9_48 v48_0 v48_1) = (f9_54 v48_0 v48_1) from if_neg hc51]
          refine Go.step (g' := (mkF m 54 #[.val (.int v48_0), .val (.int v48_1)] [])) (fun _ k => XS.icmpNo X0.here hx rfl (hb hby d9_51) rfl (flt hc51).1 k) ?_
          refine Go.step (g' := (mkF m 57 #[.val (.int v48_0), .val (.int (v48_1 + (-4 : Int32)))] [])) (fun _ k => XS.iinc X0.here hx rfl (hb hby d9_54) rfl (l' := #[.val (.int v48_0), .val (.int (v48_1 + (-4 : Int32)))]) rfl k) ?_
          refine Go.step (g' := (mkF m 58 #[.val (.int v48_0), .val (.int (v48_1 + (-4 : Int32)))] [(.int v48_0)])) (fun _ k => XS.iloadN X0.here hx rfl (hb hby d9_57) rfl  k) ?_
          refine Go.step (g' := (mkF m 59 #[.val (.int v48_0), .val (.int (v48_1 + (-4 : Int32)))] [(.int (4 : Int32)), (.int v48_0)])) (fun _ k => XS.iconst X0.here hx rfl (hb hby d9_58) k) ?_
          refine Go.step (g' := (mkF m 60 #[.val (.int v48_0), .val (.int (v48_1 + (-4 : Int32)))] [(.int ((v48_0.toUInt32 >>> ((4 : Int32) &&& 31).toUInt32).toInt32))])) (fun _ k => XS.iushr X0.here hx rfl (hb hby d9_59) rfl k) ?_
          refine Go.step (g' := (mkF m 61 #[.val (.int ((v48_0.toUInt32 >>> ((4 : Int32) &&& 31).toUInt32).toInt32)), .val (.int (v48_1 + (-4 : Int32)))] [])) (fun _ k => XS.istoreN X0.here hx rfl (hb hby d9_60) rfl (l' := #[.val (.int ((v48_0.toUInt32 >>> ((4 : Int32) &&& 31).toUInt32).toInt32)), .val (.int (v48_1 + (-4 : Int32)))]) rfl k) ?_
          rw [show (f9_54 v48_0 v48_1) = (f9_61 ((v48_0.toUInt32 >>> ((4 : Int32) &&& 31).toUInt32).toInt32) (v48_1 + (-4 : Int32))) from rfl]
          exact t61 ((v48_0.toUInt32 >>> ((4 : Int32) &&& 31).toUInt32).toInt32) (v48_1 + (-4 : Int32))
      by_cases hc37 : v33_0 < (256 : Int32)
      · rw [show (f9_33 v33_0 v33_1) = (f9_48 v33_0 v33_1) from if_pos hc37]
        refine Go.step (g' := (mkF m 48 #[.val (.int v33_0), .val (.int v33_1)] [])) (fun _ k => XS.icmpYes X0.here hx rfl (pc0 := 37) (pc' := 48) rfl (hb hby d9_37) rfl (tlt hc37).1 (by decide) (by decide) k) ?_
        exact t48 v33_0 v33_1
      · rw [show (f9_33 v33_0 v33_1) = (f9_40 v33_0 v33_1) from if_neg hc37]
        refine Go.step (g' := (mkF m 40 #[.val (.int v33_0), .val (.int v33_1)] [])) (fun _ k => XS.icmpNo X0.here hx rfl (hb hby d9_37) rfl (flt hc37).1 k) ?_
        refine Go.step (g' := (mkF m 43 #[.val (.int v33_0), .val (.int (v33_1 + (-8 : Int32)))] [])) (fun _ k => XS.iinc X0.here hx rfl (hb hby d9_40) rfl (l' := #[.val (.int v33_0), .val (.int (v33_1 + (-8 : Int32)))]) rfl k) ?_
        refine Go.step (g' := (mkF m 44 #[.val (.int v33_0), .val (.int (v33_1 + (-8 : Int32)))] [(.int v33_0)])) (fun _ k => XS.iloadN X0.here hx rfl (hb hby d9_43) rfl  k) ?_
        refine Go.step (g' := (mkF m 46 #[.val (.int v33_0), .val (.int (v33_1 + (-8 : Int32)))] [(.int (8 : Int32)), (.int v33_0)])) (fun _ k => XS.bipush X0.here hx rfl (hb hby d9_44) k) ?_
        refine Go.step (g' := (mkF m 47 #[.val (.int v33_0), .val (.int (v33_1 + (-8 : Int32)))] [(.int ((v33_0.toUInt32 >>> ((8 : Int32) &&& 31).toUInt32).toInt32))])) (fun _ k => XS.iushr X0.here hx rfl (hb hby d9_46) rfl k) ?_
        refine Go.step (g' := (mkF m 48 #[.val (.int ((v33_0.toUInt32 >>> ((8 : Int32) &&& 31).toUInt32).toInt32)), .val (.int (v33_1 + (-8 : Int32)))] [])) (fun _ k => XS.istoreN X0.here hx rfl (hb hby d9_47) rfl (l' := #[.val (.int ((v33_0.toUInt32 >>> ((8 : Int32) &&& 31).toUInt32).toInt32)), .val (.int (v33_1 + (-8 : Int32)))]) rfl k) ?_
        rw [show (f9_40 v33_0 v33_1) = (f9_48 ((v33_0.toUInt32 >>> ((8 : Int32) &&& 31).toUInt32).toInt32) (v33_1 + (-8 : Int32))) from rfl]
        exact t48 ((v33_0.toUInt32 >>> ((8 : Int32) &&& 31).toUInt32).toInt32) (v33_1 + (-8 : Int32))
    by_cases hc22 : p0 < (65536 : Int32)
    · rw [show (f9_15 p0) = (f9_33 p0 (31 : Int32)) from if_pos hc22]
      refine Go.step (g' := (mkF m 33 #[.val (.int p0), .val (.int (31 : Int32))] [])) (fun _ k => XS.icmpYes X0.here hx rfl (pc0 := 22) (pc' := 33) rfl (hb hby d9_22) rfl (tlt hc22).1 (by decide) (by decide) k) ?_
      exact t33 p0 (31 : Int32)
    · rw [show (f9_15 p0) = (f9_25 p0) from if_neg hc22]
      refine Go.step (g' := (mkF m 25 #[.val (.int p0), .val (.int (31 : Int32))] [])) (fun _ k => XS.icmpNo X0.here hx rfl (hb hby d9_22) rfl (flt hc22).1 k) ?_
      refine Go.step (g' := (mkF m 28 #[.val (.int p0), .val (.int ((31 : Int32) + (-16 : Int32)))] [])) (fun _ k => XS.iinc X0.here hx rfl (hb hby d9_25) rfl (l' := #[.val (.int p0), .val (.int ((31 : Int32) + (-16 : Int32)))]) rfl k) ?_
      refine Go.step (g' := (mkF m 29 #[.val (.int p0), .val (.int ((31 : Int32) + (-16 : Int32)))] [(.int p0)])) (fun _ k => XS.iloadN X0.here hx rfl (hb hby d9_28) rfl  k) ?_
      refine Go.step (g' := (mkF m 31 #[.val (.int p0), .val (.int ((31 : Int32) + (-16 : Int32)))] [(.int (16 : Int32)), (.int p0)])) (fun _ k => XS.bipush X0.here hx rfl (hb hby d9_29) k) ?_
      refine Go.step (g' := (mkF m 32 #[.val (.int p0), .val (.int ((31 : Int32) + (-16 : Int32)))] [(.int ((p0.toUInt32 >>> ((16 : Int32) &&& 31).toUInt32).toInt32))])) (fun _ k => XS.iushr X0.here hx rfl (hb hby d9_31) rfl k) ?_
      refine Go.step (g' := (mkF m 33 #[.val (.int ((p0.toUInt32 >>> ((16 : Int32) &&& 31).toUInt32).toInt32)), .val (.int ((31 : Int32) + (-16 : Int32)))] [])) (fun _ k => XS.istoreN X0.here hx rfl (hb hby d9_32) rfl (l' := #[.val (.int ((p0.toUInt32 >>> ((16 : Int32) &&& 31).toUInt32).toInt32)), .val (.int ((31 : Int32) + (-16 : Int32)))]) rfl k) ?_
      rw [show (f9_25 p0) = (f9_33 ((p0.toUInt32 >>> ((16 : Int32) &&& 31).toUInt32).toInt32) ((31 : Int32) + (-16 : Int32))) from rfl]
      exact t33 ((p0.toUInt32 >>> ((16 : Int32) &&& 31).toUInt32).toInt32) ((31 : Int32) + (-16 : Int32))
  · rw [show (f9_0 p0) = (f9_4 p0) from if_neg hc1]
    refine Go.step (g' := (mkF m 4 #[.val (.int p0), .unset] [])) (fun _ k => XS.ifNo X0.here hx rfl (hb hby d9_1) rfl ((if0 _ _).trans (flt hc1).2.2.1) k) ?_
    refine Go.step (g' := (mkF m 5 #[.val (.int p0), .unset] [(.int p0)])) (fun _ k => XS.iloadN X0.here hx rfl (hb hby d9_4) rfl  k) ?_
    have t14 : ∀ (v14_s0 : Int32), Go p e below s 0 0 (PureQ (.int (f9_14 v14_s0)) h0) s₁ (mkF m 14 #[.val (.int p0), .unset] [(.int v14_s0)]) := by
      intro v14_s0
      exact Go.retW X0 hx hlk (t := .int) Bd.returns rfl (Or.inl ⟨rfl, Or.inl rfl, _, rfl⟩) (hb hby d9_14) (by decide) (by decide) ⟨rfl, rfl, e0⟩
    by_cases hc5 : p0 = (0 : Int32)
    · rw [show (f9_4 p0) = f9_8 from if_pos hc5]
      refine Go.step (g' := (mkF m 8 #[.val (.int p0), .unset] [])) (fun _ k => XS.ifNo X0.here hx rfl (hb hby d9_5) rfl ((if0 _ _).trans (teq hc5).2) k) ?_
      refine Go.step (g' := (mkF m 10 #[.val (.int p0), .unset] [(.int (32 : Int32))])) (fun _ k => XS.bipush X0.here hx rfl (hb hby d9_8) k) ?_
      refine Go.step (g' := (mkF m 14 #[.val (.int p0), .unset] [(.int (32 : Int32))])) (fun _ k => XS.goto X0.here hx rfl (pc0 := 10) (pc' := 14) rfl (hb hby d9_10) (by decide) (by decide) k) ?_
      rw [show f9_8 = (f9_14 (32 : Int32)) from rfl]
      exact t14 (32 : Int32)
    · rw [show (f9_4 p0) = f9_13 from if_neg hc5]
      refine Go.step (g' := (mkF m 13 #[.val (.int p0), .unset] [])) (fun _ k => XS.ifYes X0.here hx rfl (pc0 := 5) (pc' := 13) rfl (hb hby d9_5) rfl ((if0 _ _).trans (feq hc5).2) (by decide) (by decide) k) ?_
      refine Go.step (g' := (mkF m 14 #[.val (.int p0), .unset] [(.int (0 : Int32))])) (fun _ k => XS.iconst X0.here hx rfl (hb hby d9_13) k) ?_
      rw [show f9_13 = (f9_14 (0 : Int32)) from rfl]
      exact t14 (0 : Int32)
theorem d8_0 : decode jdk_35_method_48_code 0 = .ok (.lload_n 0, 1) := by decide +kernel
theorem d8_1 : decode jdk_35_method_48_code 1 = .ok (.bipush 32, 2) := by decide +kernel
theorem d8_3 : decode jdk_35_method_48_code 3 = .ok (.lushr, 1) := by decide +kernel
theorem d8_4 : decode jdk_35_method_48_code 4 = .ok (.l2i, 1) := by decide +kernel
theorem d8_5 : decode jdk_35_method_48_code 5 = .ok (.istore_n 2, 1) := by decide +kernel
theorem d8_6 : decode jdk_35_method_48_code 6 = .ok (.iload_n 2, 1) := by decide +kernel
theorem d8_7 : decode jdk_35_method_48_code 7 = .ok (.ifCond .ne 14, 3) := by decide +kernel
theorem d8_10 : decode jdk_35_method_48_code 10 = .ok (.bipush 32, 2) := by decide +kernel
theorem d8_12 : decode jdk_35_method_48_code 12 = .ok (.lload_n 0, 1) := by decide +kernel
theorem d8_13 : decode jdk_35_method_48_code 13 = .ok (.l2i, 1) := by decide +kernel
theorem d8_14 : decode jdk_35_method_48_code 14 = .ok (.invokestatic 308, 3) := by decide +kernel
theorem d8_17 : decode jdk_35_method_48_code 17 = .ok (.iadd, 1) := by decide +kernel
theorem d8_18 : decode jdk_35_method_48_code 18 = .ok (.goto 7, 3) := by decide +kernel
theorem d8_21 : decode jdk_35_method_48_code 21 = .ok (.iload_n 2, 1) := by decide +kernel
theorem d8_22 : decode jdk_35_method_48_code 22 = .ok (.invokestatic 308, 3) := by decide +kernel
theorem d8_25 : decode jdk_35_method_48_code 25 = .ok (.ireturn, 1) := by decide +kernel
theorem pn_8 : plainName "java/lang/Long" = true := by first | (simp [plainName, overriddenIn]; done) | decide +kernel
theorem ef_8 (m : MethodId) (q0 : Int64) : entryFrame m #[(.long q0)] 3 = mkF m 0 #[.val (.long q0), .second, .unset] [] := by first | (simp [entryFrame, mkF, argsToLocals, Value.category]; done) | rfl
def f8_25 (v25_s0 : Int32) : Int32 := v25_s0
def f8_21 (q0 : Int64) : Int32 := (f8_25 (f9_0 (((q0.toUInt64 >>> ((32 : Int32) &&& 0x3f).toInt64.toUInt64).toInt64).toInt32)))
def f8_10 (q0 : Int64) : Int32 := (f8_25 ((32 : Int32) + (f9_0 (q0.toInt32))))
def f8_0 (q0 : Int64) : Int32 := if (((q0.toUInt64 >>> ((32 : Int32) &&& 0x3f).toInt64.toUInt64).toInt64).toInt32) = (0 : Int32) then (f8_10 q0) else (f8_21 q0)
set_option maxRecDepth 65536 in
set_option maxHeartbeats 40000000 in
theorem rm8 (l : Launch) (Z : State) (a0 : Array Value) (hw : ∀ d ∈ tables_1, d.before a0 Z = true) (ws : List Jvm.Cond) (q0 : Int64)  (h0 : Heap) :
    MetFree l (⟨"java/lang/Long", "numberOfLeadingZeros", "(J)I"⟩ : MethodName) (head1 (Jvm.Cond.code (⟨"java/lang/Long", "numberOfLeadingZeros", "(J)I"⟩ : MethodName) jdk_35_method_48_code 3 (some .int) :: ws) ({ frames := 1, cells := 0, slots := 0, locals := 14 } : Room)) (fun a U => a = #[(.long q0)] ∧ Z.Warmed39 U.vm ∧ U.heap = h0) (fun _ _ _ _ _ => True) (fun _ U o U' => ∃ v L, o = .returned v ∧ (PureQ (.int (f8_0 q0)) h0) v U'.heap L ∧ FrameEnd U o U' L ({ frames := 1, cells := 0, slots := 0, locals := 14 } : Room).cells ({ frames := 1, cells := 0, slots := 0, locals := 14 } : Room).slots) := by
  refine MetFree.of_bodySF (plainFor_of_name pn_8) hisR ?_
  intro p e s m args below meth c s₁ Bd hml0 hP hK
  obtain ⟨rfl, hZ, hh⟩ := hP
  have hx := Bd.exec
  have hby := Bd.bytes
  have hlk : meth.locks = false := BodyLoose.notSynchronized Bd
  have hml : c.maxLocals = 3 := hml0
  have hown : s.vm.findClass "java/lang/Long" = some m.cls := findClass_of_methodNamed Bd.named
  have hnm := (name_of_methodNamed Bd.named Bd.method).1
  have X0 : Stand p l e ({ frames := 1, cells := 0, slots := 0, locals := 14 } : Room) s m #[(.long q0)] below meth c s₁ ([] : List Loc) 0 0 := Stand.of_body Bd
  have e0 : s₁.heap = h0 := by rw [← hh, Bd.state]; rfl
  show Go p e below s 0 0 (PureQ (.int (f8_0 q0)) h0) s₁ (entryFrame m #[(.long q0)] 3)
  rw [ef_8 m q0]
  refine Go.step (g' := (mkF m 1 #[.val (.long q0), .second, .unset] [(.long q0)])) (fun _ k => XS.lloadN X0.here hx rfl (hb hby d8_0) rfl  k) ?_
  refine Go.step (g' := (mkF m 3 #[.val (.long q0), .second, .unset] [(.int (32 : Int32)), (.long q0)])) (fun _ k => XS.bipush X0.here hx rfl (hb hby d8_1) k) ?_
  refine Go.step (g' := (mkF m 4 #[.val (.long q0), .second, .unset] [(.long ((q0.toUInt64 >>> ((32 : Int32) &&& 0x3f).toInt64.toUInt64).toInt64))])) (fun _ k => XS.lushr X0.here hx rfl (hb hby d8_3) rfl k) ?_
  refine Go.step (g' := (mkF m 5 #[.val (.long q0), .second, .unset] [(.int (((q0.toUInt64 >>> ((32 : Int32) &&& 0x3f).toInt64.toUInt64).toInt64).toInt32))])) (fun _ k => XS.l2i X0.here hx rfl (hb hby d8_4) rfl k) ?_
  refine Go.step (g' := (mkF m 6 #[.val (.long q0), .second, .val (.int (((q0.toUInt64 >>> ((32 : Int32) &&& 0x3f).toInt64.toUInt64).toInt64).toInt32))] [])) (fun _ k => XS.istoreN X0.here hx rfl (hb hby d8_5) rfl (l' := #[.val (.long q0), .second, .val (.int (((q0.toUInt64 >>> ((32 : Int32) &&& 0x3f).toInt64.toUInt64).toInt64).toInt32))]) rfl k) ?_
  refine Go.step (g' := (mkF m 7 #[.val (.long q0), .second, .val (.int (((q0.toUInt64 >>> ((32 : Int32) &&& 0x3f).toInt64.toUInt64).toInt64).toInt32))] [(.int (((q0.toUInt64 >>> ((32 : Int32) &&& 0x3f).toInt64.toUInt64).toInt64).toInt32))])) (fun _ k => XS.iloadN X0.here hx rfl (hb hby d8_6) rfl  k) ?_
  have t25 : ∀ (T_25 : State) (X_25 : Stand p l e ({ frames := 1, cells := 0, slots := 0, locals := 14 } : Room) s m #[(.long q0)] below meth c T_25 ([] : List Loc) 0 0) (e_25 : T_25.heap = h0) (v25_s0 : Int32), Go p e below s 0 0 (PureQ (.int (f8_25 v25_s0)) h0) T_25 (mkF m 25 #[.val (.long q0), .second, .val (.int (((q0.toUInt64 >>> ((32 : Int32) &&& 0x3f).toInt64.toUInt64).toInt64).toInt32))] [(.int v25_s0)]) := by
    intro T_25 X_25 e_25 v25_s0
    exact Go.retW X_25 hx hlk (t := .int) Bd.returns rfl (Or.inl ⟨rfl, Or.inl rfl, _, rfl⟩) (hb hby d8_25) (by decide) (by decide) ⟨rfl, rfl, e_25⟩
  by_cases hc7 : (((q0.toUInt64 >>> ((32 : Int32) &&& 0x3f).toInt64.toUInt64).toInt64).toInt32) = (0 : Int32)
  · rw [show (f8_0 q0) = (f8_10 q0) from if_pos hc7]
    refine Go.step (g' := (mkF m 10 #[.val (.long q0), .second, .val (.int (((q0.toUInt64 >>> ((32 : Int32) &&& 0x3f).toInt64.toUInt64).toInt64).toInt32))] [])) (fun _ k => XS.ifNo X0.here hx rfl (hb hby d8_7) rfl ((if0 _ _).trans (teq hc7).2) k) ?_
    refine Go.step (g' := (mkF m 12 #[.val (.long q0), .second, .val (.int (((q0.toUInt64 >>> ((32 : Int32) &&& 0x3f).toInt64.toUInt64).toInt64).toInt32))] [(.int (32 : Int32))])) (fun _ k => XS.bipush X0.here hx rfl (hb hby d8_10) k) ?_
    refine Go.step (g' := (mkF m 13 #[.val (.long q0), .second, .val (.int (((q0.toUInt64 >>> ((32 : Int32) &&& 0x3f).toInt64.toUInt64).toInt64).toInt32))] [(.long q0), (.int (32 : Int32))])) (fun _ k => XS.lloadN X0.here hx rfl (hb hby d8_12) rfl  k) ?_
    refine Go.step (g' := (mkF m 14 #[.val (.long q0), .second, .val (.int (((q0.toUInt64 >>> ((32 : Int32) &&& 0x3f).toInt64.toUInt64).toInt64).toInt32))] [(.int (q0.toInt32)), (.int (32 : Int32))])) (fun _ k => XS.l2i X0.here hx rfl (hb hby d8_13) rfl k) ?_
    obtain ⟨_, _, ⟨T1, L1, k1, n1⟩, -, X1, ⟨Lc1, hQ1, l1, y1, z1⟩, st1⟩ := Jvm.LawKit.callS X0 hx (y := (⟨"java/lang/Integer", "numberOfLeadingZeros", "(I)I"⟩ : MethodName)) hown (mvT hZ (hw _ (List.mem_of_getElem? (i := 52) rfl))) (mvT hZ (hw _ (List.mem_of_getElem? (i := 53) rfl))) (mvT hZ (hw _ (List.mem_of_getElem? (i := 54) rfl))) (mvT hZ (hw _ (List.mem_of_getElem? (i := 55) rfl))) (by decide) (backOf (W := 1) (rm9 l Z a0 hw [] (q0.toInt32) h0 ) hZ (hw _ (List.mem_of_getElem? (i := 55) rfl)) (hw _ (List.mem_of_getElem? (i := 54) rfl)) (by decide) (by decide)) (g := (mkF m 14 #[.val (.long q0), .second, .val (.int (((q0.toUInt64 >>> ((32 : Int32) &&& 0x3f).toInt64.toUInt64).toInt64).toInt32))] [(.int (q0.toInt32)), (.int (32 : Int32))])) rfl (by rw [hml]; rfl) (argsL := [(.int (q0.toInt32))]) (rest := [(.int (32 : Int32))]) (lenOf pd_0 rfl) rfl (by show 2 * 0 + _ ≤ _; exact Nat.le_of_eq rfl) (hb hby d8_14) (fun _ _ => ⟨rfl, e0, (by decide : 0 + 0 ≤ _), (by decide : 0 + 0 ≤ _)⟩)
    dsimp only [Pt.U, Pt.locs, Pt.cells, Pt.slots] at X1 l1 y1 z1 st1 hQ1
    subst l1 y1 z1
    obtain ⟨rfl, rfl, e1⟩ := hQ1
    try rw [List.append_nil] at X1
    refine Go.step (g' := (mkF m 17 #[.val (.long q0), .second, .val (.int (((q0.toUInt64 >>> ((32 : Int32) &&& 0x3f).toInt64.toUInt64).toInt64).toInt32))] [(.int (f9_0 (q0.toInt32))), (.int (32 : Int32))])) st1 ?_
    refine Go.step (g' := (mkF m 18 #[.val (.long q0), .second, .val (.int (((q0.toUInt64 >>> ((32 : Int32) &&& 0x3f).toInt64.toUInt64).toInt64).toInt32))] [(.int ((32 : Int32) + (f9_0 (q0.toInt32))))])) (fun _ k => XS.iadd X1.here hx rfl (hb hby d8_17) rfl k) ?_
    refine Go.step (g' := (mkF m 25 #[.val (.long q0), .second, .val (.int (((q0.toUInt64 >>> ((32 : Int32) &&& 0x3f).toInt64.toUInt64).toInt64).toInt32))] [(.int ((32 : Int32) + (f9_0 (q0.toInt32))))])) (fun _ k => XS.goto X1.here hx rfl (pc0 := 18) (pc' := 25) rfl (hb hby d8_18) (by decide) (by decide) k) ?_
    rw [show (f8_10 q0) = (f8_25 ((32 : Int32) + (f9_0 (q0.toInt32)))) from rfl]
    exact t25 T1 X1 e1 ((32 : Int32) + (f9_0 (q0.toInt32)))
  · rw [show (f8_0 q0) = (f8_21 q0) from if_neg hc7]
    refine Go.step (g' := (mkF m 21 #[.val (.long q0), .second, .val (.int (((q0.toUInt64 >>> ((32 : Int32) &&& 0x3f).toInt64.toUInt64).toInt64).toInt32))] [])) (fun _ k => XS.ifYes X0.here hx rfl (pc0 := 7) (pc' := 21) rfl (hb hby d8_7) rfl ((if0 _ _).trans (feq hc7).2) (by decide) (by decide) k) ?_
    refine Go.step (g' := (mkF m 22 #[.val (.long q0), .second, .val (.int (((q0.toUInt64 >>> ((32 : Int32) &&& 0x3f).toInt64.toUInt64).toInt64).toInt32))] [(.int (((q0.toUInt64 >>> ((32 : Int32) &&& 0x3f).toInt64.toUInt64).toInt64).toInt32))])) (fun _ k => XS.iloadN X0.here hx rfl (hb hby d8_21) rfl  k) ?_
    obtain ⟨_, _, ⟨T2, L2, k2, n2⟩, -, X2, ⟨Lc2, hQ2, l2, y2, z2⟩, st2⟩ := Jvm.LawKit.callS X0 hx (y := (⟨"java/lang/Integer", "numberOfLeadingZeros", "(I)I"⟩ : MethodName)) hown (mvT hZ (hw _ (List.mem_of_getElem? (i := 52) rfl))) (mvT hZ (hw _ (List.mem_of_getElem? (i := 53) rfl))) (mvT hZ (hw _ (List.mem_of_getElem? (i := 54) rfl))) (mvT hZ (hw _ (List.mem_of_getElem? (i := 55) rfl))) (by decide) (backOf (W := 0) (rm9 l Z a0 hw [] (((q0.toUInt64 >>> ((32 : Int32) &&& 0x3f).toInt64.toUInt64).toInt64).toInt32) h0 ) hZ (hw _ (List.mem_of_getElem? (i := 55) rfl)) (hw _ (List.mem_of_getElem? (i := 54) rfl)) (by decide) (by decide)) (g := (mkF m 22 #[.val (.long q0), .second, .val (.int (((q0.toUInt64 >>> ((32 : Int32) &&& 0x3f).toInt64.toUInt64).toInt64).toInt32))] [(.int (((q0.toUInt64 >>> ((32 : Int32) &&& 0x3f).toInt64.toUInt64).toInt64).toInt32))])) rfl (by rw [hml]; rfl) (argsL := [(.int (((q0.toUInt64 >>> ((32 : Int32) &&& 0x3f).toInt64.toUInt64).toInt64).toInt32))]) (rest := []) (lenOf pd_0 rfl) rfl (by show 2 * 0 + _ ≤ _; exact Nat.le_of_eq rfl) (hb hby d8_22) (fun _ _ => ⟨rfl, e0, (by decide : 0 + 0 ≤ _), (by decide : 0 + 0 ≤ _)⟩)
    dsimp only [Pt.U, Pt.locs, Pt.cells, Pt.slots] at X2 l2 y2 z2 st2 hQ2
    subst l2 y2 z2
    obtain ⟨rfl, rfl, e2⟩ := hQ2
    try rw [List.append_nil] at X2
    refine Go.step (g' := (mkF m 25 #[.val (.long q0), .second, .val (.int (((q0.toUInt64 >>> ((32 : Int32) &&& 0x3f).toInt64.toUInt64).toInt64).toInt32))] [(.int (f9_0 (((q0.toUInt64 >>> ((32 : Int32) &&& 0x3f).toInt64.toUInt64).toInt64).toInt32)))])) st2 ?_
    rw [show (f8_21 q0) = (f8_25 (f9_0 (((q0.toUInt64 >>> ((32 : Int32) &&& 0x3f).toInt64.toUInt64).toInt64).toInt32))) from rfl]
    exact t25 T2 X2 e2 (f9_0 (((q0.toUInt64 >>> ((32 : Int32) &&& 0x3f).toInt64.toUInt64).toInt64).toInt32))
theorem d15_0 : decode jdk_33_method_48_code 0 = .ok (.iload_n 0, 1) := by decide +kernel
theorem d15_1 : decode jdk_33_method_48_code 1 = .ok (.iconst (-1), 1) := by decide +kernel
theorem d15_2 : decode jdk_33_method_48_code 2 = .ok (.ixor, 1) := by decide +kernel
theorem d15_3 : decode jdk_33_method_48_code 3 = .ok (.iload_n 0, 1) := by decide +kernel
theorem d15_4 : decode jdk_33_method_48_code 4 = .ok (.iconst 1, 1) := by decide +kernel
theorem d15_5 : decode jdk_33_method_48_code 5 = .ok (.isub, 1) := by decide +kernel
theorem d15_6 : decode jdk_33_method_48_code 6 = .ok (.iand, 1) := by decide +kernel
theorem d15_7 : decode jdk_33_method_48_code 7 = .ok (.istore_n 0, 1) := by decide +kernel
theorem d15_8 : decode jdk_33_method_48_code 8 = .ok (.iload_n 0, 1) := by decide +kernel
theorem d15_9 : decode jdk_33_method_48_code 9 = .ok (.ifCond .gt 8, 3) := by decide +kernel
theorem d15_12 : decode jdk_33_method_48_code 12 = .ok (.iload_n 0, 1) := by decide +kernel
theorem d15_13 : decode jdk_33_method_48_code 13 = .ok (.bipush 32, 2) := by decide +kernel
theorem d15_15 : decode jdk_33_method_48_code 15 = .ok (.iand, 1) := by decide +kernel
theorem d15_16 : decode jdk_33_method_48_code 16 = .ok (.ireturn, 1) := by decide +kernel
theorem d15_17 : decode jdk_33_method_48_code 17 = .ok (.iconst 1, 1) := by decide +kernel
theorem d15_18 : decode jdk_33_method_48_code 18 = .ok (.istore_n 1, 1) := by decide +kernel
theorem d15_19 : decode jdk_33_method_48_code 19 = .ok (.iload_n 0, 1) := by decide +kernel
theorem d15_20 : decode jdk_33_method_48_code 20 = .ok (.ldc_w 264, 3) := by decide +kernel
theorem d15_23 : decode jdk_33_method_48_code 23 = .ok (.if_icmp .le 11, 3) := by decide +kernel
theorem d15_26 : decode jdk_33_method_48_code 26 = .ok (.iinc 1 16, 3) := by decide +kernel
theorem d15_29 : decode jdk_33_method_48_code 29 = .ok (.iload_n 0, 1) := by decide +kernel
theorem d15_30 : decode jdk_33_method_48_code 30 = .ok (.bipush 16, 2) := by decide +kernel
theorem d15_32 : decode jdk_33_method_48_code 32 = .ok (.iushr, 1) := by decide +kernel
theorem d15_33 : decode jdk_33_method_48_code 33 = .ok (.istore_n 0, 1) := by decide +kernel
theorem d15_34 : decode jdk_33_method_48_code 34 = .ok (.iload_n 0, 1) := by decide +kernel
theorem d15_35 : decode jdk_33_method_48_code 35 = .ok (.sipush 256, 3) := by decide +kernel
theorem d15_38 : decode jdk_33_method_48_code 38 = .ok (.if_icmp .le 11, 3) := by decide +kernel
theorem d15_41 : decode jdk_33_method_48_code 41 = .ok (.iinc 1 8, 3) := by decide +kernel
theorem d15_44 : decode jdk_33_method_48_code 44 = .ok (.iload_n 0, 1) := by decide +kernel
theorem d15_45 : decode jdk_33_method_48_code 45 = .ok (.bipush 8, 2) := by decide +kernel
theorem d15_47 : decode jdk_33_method_48_code 47 = .ok (.iushr, 1) := by decide +kernel
theorem d15_48 : decode jdk_33_method_48_code 48 = .ok (.istore_n 0, 1) := by decide +kernel
theorem d15_49 : decode jdk_33_method_48_code 49 = .ok (.iload_n 0, 1) := by decide +kernel
theorem d15_50 : decode jdk_33_method_48_code 50 = .ok (.bipush 16, 2) := by decide +kernel
theorem d15_52 : decode jdk_33_method_48_code 52 = .ok (.if_icmp .le 10, 3) := by decide +kernel
theorem d15_55 : decode jdk_33_method_48_code 55 = .ok (.iinc 1 4, 3) := by decide +kernel
theorem d15_58 : decode jdk_33_method_48_code 58 = .ok (.iload_n 0, 1) := by decide +kernel
theorem d15_59 : decode jdk_33_method_48_code 59 = .ok (.iconst 4, 1) := by decide +kernel
theorem d15_60 : decode jdk_33_method_48_code 60 = .ok (.iushr, 1) := by decide +kernel
theorem d15_61 : decode jdk_33_method_48_code 61 = .ok (.istore_n 0, 1) := by decide +kernel
theorem d15_62 : decode jdk_33_method_48_code 62 = .ok (.iload_n 0, 1) := by decide +kernel
theorem d15_63 : decode jdk_33_method_48_code 63 = .ok (.iconst 4, 1) := by decide +kernel
theorem d15_64 : decode jdk_33_method_48_code 64 = .ok (.if_icmp .le 10, 3) := by decide +kernel
theorem d15_67 : decode jdk_33_method_48_code 67 = .ok (.iinc 1 2, 3) := by decide +kernel
theorem d15_70 : decode jdk_33_method_48_code 70 = .ok (.iload_n 0, 1) := by decide +kernel
theorem d15_71 : decode jdk_33_method_48_code 71 = .ok (.iconst 2, 1) := by decide +kernel
theorem d15_72 : decode jdk_33_method_48_code 72 = .ok (.iushr, 1) := by decide +kernel
theorem d15_73 : decode jdk_33_method_48_code 73 = .ok (.istore_n 0, 1) := by decide +kernel
theorem d15_74 : decode jdk_33_method_48_code 74 = .ok (.iload_n 1, 1) := by decide +kernel
theorem d15_75 : decode jdk_33_method_48_code 75 = .ok (.iload_n 0, 1) := by decide +kernel
theorem d15_76 : decode jdk_33_method_48_code 76 = .ok (.iconst 1, 1) := by decide +kernel
theorem d15_77 : decode jdk_33_method_48_code 77 = .ok (.iushr, 1) := by decide +kernel
theorem d15_78 : decode jdk_33_method_48_code 78 = .ok (.iadd, 1) := by decide +kernel
theorem d15_79 : decode jdk_33_method_48_code 79 = .ok (.ireturn, 1) := by decide +kernel
theorem pn_15 : plainName "java/lang/Integer" = true := by first | (simp [plainName, overriddenIn]; done) | decide +kernel
theorem ef_15 (m : MethodId) (p0 : Int32) : entryFrame m #[(.int p0)] 2 = mkF m 0 #[.val (.int p0), .unset] [] := by first | (simp [entryFrame, mkF, argsToLocals, Value.category]; done) | rfl
def f15_74 (v74_0 : Int32) (v74_1 : Int32) : Int32 := (v74_1 + ((v74_0.toUInt32 >>> ((1 : Int32) &&& 31).toUInt32).toInt32))
def f15_67 (v62_0 : Int32) (v62_1 : Int32) : Int32 := (f15_74 ((v62_0.toUInt32 >>> ((2 : Int32) &&& 31).toUInt32).toInt32) (v62_1 + (2 : Int32)))
def f15_62 (v62_0 : Int32) (v62_1 : Int32) : Int32 := if (4 : Int32) < v62_0 then (f15_67 v62_0 v62_1) else (f15_74 v62_0 v62_1)
def f15_55 (v49_0 : Int32) (v49_1 : Int32) : Int32 := (f15_62 ((v49_0.toUInt32 >>> ((4 : Int32) &&& 31).toUInt32).toInt32) (v49_1 + (4 : Int32)))
def f15_49 (v49_0 : Int32) (v49_1 : Int32) : Int32 := if (16 : Int32) < v49_0 then (f15_55 v49_0 v49_1) else (f15_62 v49_0 v49_1)
def f15_41 (v34_0 : Int32) (v34_1 : Int32) : Int32 := (f15_49 ((v34_0.toUInt32 >>> ((8 : Int32) &&& 31).toUInt32).toInt32) (v34_1 + (8 : Int32)))
def f15_34 (v34_0 : Int32) (v34_1 : Int32) : Int32 := if (256 : Int32) < v34_0 then (f15_41 v34_0 v34_1) else (f15_49 v34_0 v34_1)
def f15_26 (p0 : Int32) : Int32 := (f15_34 ((((p0 ^^^ (-1 : Int32)) &&& (p0 - (1 : Int32))).toUInt32 >>> ((16 : Int32) &&& 31).toUInt32).toInt32) ((1 : Int32) + (16 : Int32)))
def f15_17 (p0 : Int32) : Int32 := if (65536 : Int32) < ((p0 ^^^ (-1 : Int32)) &&& (p0 - (1 : Int32))) then (f15_26 p0) else (f15_34 ((p0 ^^^ (-1 : Int32)) &&& (p0 - (1 : Int32))) (1 : Int32))
def f15_12 (p0 : Int32) : Int32 := (((p0 ^^^ (-1 : Int32)) &&& (p0 - (1 : Int32))) &&& (32 : Int32))
def f15_0 (p0 : Int32) : Int32 := if (0 : Int32) < ((p0 ^^^ (-1 : Int32)) &&& (p0 - (1 : Int32))) then (f15_17 p0) else (f15_12 p0)
set_option maxRecDepth 65536 in
set_option maxHeartbeats 40000000 in
theorem rm15 (l : Launch) (Z : State) (a0 : Array Value) (hw : ∀ d ∈ tables_1, d.before a0 Z = true) (ws : List Jvm.Cond) (p0 : Int32)  (h0 : Heap) :
    MetFree l (⟨"java/lang/Integer", "numberOfTrailingZeros", "(I)I"⟩ : MethodName) (head1 (Jvm.Cond.code (⟨"java/lang/Integer", "numberOfTrailingZeros", "(I)I"⟩ : MethodName) jdk_33_method_48_code 2 (some .int) :: ws) ({ frames := 0, cells := 0, slots := 0, locals := 0 } : Room)) (fun a U => a = #[(.int p0)] ∧ Z.Warmed39 U.vm ∧ U.heap = h0) (fun _ _ _ _ _ => True) (fun _ U o U' => ∃ v L, o = .returned v ∧ (PureQ (.int (f15_0 p0)) h0) v U'.heap L ∧ FrameEnd U o U' L ({ frames := 0, cells := 0, slots := 0, locals := 0 } : Room).cells ({ frames := 0, cells := 0, slots := 0, locals := 0 } : Room).slots) := by
  refine MetFree.of_bodySF (plainFor_of_name pn_15) hisR ?_
  intro p e s m args below meth c s₁ Bd hml0 hP hK
  obtain ⟨rfl, hZ, hh⟩ := hP
  have hx := Bd.exec
  have hby := Bd.bytes
  have hlk : meth.locks = false := BodyLoose.notSynchronized Bd
  have hml : c.maxLocals = 2 := hml0
  have hown : s.vm.findClass "java/lang/Integer" = some m.cls := findClass_of_methodNamed Bd.named
  have hnm := (name_of_methodNamed Bd.named Bd.method).1
  have X0 : Stand p l e ({ frames := 0, cells := 0, slots := 0, locals := 0 } : Room) s m #[(.int p0)] below meth c s₁ ([] : List Loc) 0 0 := Stand.of_body Bd
  have e0 : s₁.heap = h0 := by rw [← hh, Bd.state]; rfl
  show Go p e below s 0 0 (PureQ (.int (f15_0 p0)) h0) s₁ (entryFrame m #[(.int p0)] 2)
  rw [ef_15 m p0]
  refine Go.step (g' := (mkF m 1 #[.val (.int p0), .unset] [(.int p0)])) (fun _ k => XS.iloadN X0.here hx rfl (hb hby d15_0) rfl  k) ?_
  refine Go.step (g' := (mkF m 2 #[.val (.int p0), .unset] [(.int (-1 : Int32)), (.int p0)])) (fun _ k => XS.iconst X0.here hx rfl (hb hby d15_1) k) ?_
  refine Go.step (g' := (mkF m 3 #[.val (.int p0), .unset] [(.int (p0 ^^^ (-1 : Int32)))])) (fun _ k => XS.ixor X0.here hx rfl (hb hby d15_2) rfl k) ?_
  refine Go.step (g' := (mkF m 4 #[.val (.int p0), .unset] [(.int p0), (.int (p0 ^^^ (-1 : Int32)))])) (fun _ k => XS.iloadN X0.here hx rfl (hb hby d15_3) rfl  k) ?_
  refine Go.step (g' := (mkF m 5 #[.val (.int p0), .unset] [(.int (1 : Int32)), (.int p0), (.int (p0 ^^^ (-1 : Int32)))])) (fun _ k => XS.iconst X0.here hx rfl (hb hby d15_4) k) ?_
  refine Go.step (g' := (mkF m 6 #[.val (.int p0), .unset] [(.int (p0 - (1 : Int32))), (.int (p0 ^^^ (-1 : Int32)))])) (fun _ k => XS.isub X0.here hx rfl (hb hby d15_5) rfl k) ?_
  refine Go.step (g' := (mkF m 7 #[.val (.int p0), .unset] [(.int ((p0 ^^^ (-1 : Int32)) &&& (p0 - (1 : Int32))))])) (fun _ k => XS.iand X0.here hx rfl (hb hby d15_6) rfl k) ?_
  refine Go.step (g' := (mkF m 8 #[.val (.int ((p0 ^^^ (-1 : Int32)) &&& (p0 - (1 : Int32)))), .unset] [])) (fun _ k => XS.istoreN X0.here hx rfl (hb hby d15_7) rfl (l' := #[.val (.int ((p0 ^^^ (-1 : Int32)) &&& (p0 - (1 : Int32)))), .unset]) rfl k) ?_
  refine Go.step (g' := (mkF m 9 #[.val (.int ((p0 ^^^ (-1 : Int32)) &&& (p0 - (1 : Int32)))), .unset] [(.int ((p0 ^^^ (-1 : Int32)) &&& (p0 - (1 : Int32))))])) (fun _ k => XS.iloadN X0.here hx rfl (hb hby d15_8) rfl  k) ?_
  by_cases hc9 : (0 : Int32) < ((p0 ^^^ (-1 : Int32)) &&& (p0 - (1 : Int32)))
  · rw [show (f15_0 p0) = (f15_17 p0) from if_pos hc9]
    refine Go.step (g' := (mkF m 17 #[.val (.int ((p0 ^^^ (-1 : Int32)) &&& (p0 - (1 : Int32)))), .unset] [])) (fun _ k => XS.ifYes X0.here hx rfl (pc0 := 9) (pc' := 17) rfl (hb hby d15_9) rfl ((if0 _ _).trans (tlt hc9).2.2.1) (by decide) (by decide) k) ?_
    refine Go.step (g' := (mkF m 18 #[.val (.int ((p0 ^^^ (-1 : Int32)) &&& (p0 - (1 : Int32)))), .unset] [(.int (1 : Int32))])) (fun _ k => XS.iconst X0.here hx rfl (hb hby d15_17) k) ?_
    refine Go.step (g' := (mkF m 19 #[.val (.int ((p0 ^^^ (-1 : Int32)) &&& (p0 - (1 : Int32)))), .val (.int (1 : Int32))] [])) (fun _ k => XS.istoreN X0.here hx rfl (hb hby d15_18) rfl (l' := #[.val (.int ((p0 ^^^ (-1 : Int32)) &&& (p0 - (1 : Int32)))), .val (.int (1 : Int32))]) rfl k) ?_
    refine Go.step (g' := (mkF m 20 #[.val (.int ((p0 ^^^ (-1 : Int32)) &&& (p0 - (1 : Int32)))), .val (.int (1 : Int32))] [(.int ((p0 ^^^ (-1 : Int32)) &&& (p0 - (1 : Int32))))])) (fun _ k => XS.iloadN X0.here hx rfl (hb hby d15_19) rfl  k) ?_
    refine Go.step (g' := (mkF m 23 #[.val (.int ((p0 ^^^ (-1 : Int32)) &&& (p0 - (1 : Int32)))), .val (.int (1 : Int32))] [(.int (65536 : Int32)), (.int ((p0 ^^^ (-1 : Int32)) &&& (p0 - (1 : Int32))))])) (fun _ k => X0.ldcWI hx hown (mvT hZ (hw _ (List.mem_of_getElem? (i := 56) rfl))) rfl (hb hby d15_20) k) ?_
    have t34 : ∀ (v34_0 : Int32) (v34_1 : Int32), Go p e below s 0 0 (PureQ (.int (f15_34 v34_0 v34_1)) h0) s₁ (mkF m 34 #[.val (.int v34_0), .val (.int v34_1)] []) := by
      intro v34_0 v34_1
      refine Go.step (g' := (mkF m 35 #[.val (.int v34_0), .val (.int v34_1)] [(.int v34_0)])) (fun _ k => XS.iloadN X0.here hx rfl (hb hby d15_34) rfl  k) ?_
      refine Go.step (g' := (mkF m 38 #[.val (.int v34_0), .val (.int v34_1)] [(.int (256 : Int32)), (.int v34_0)])) (fun _ k => XS.sipush X0.here hx rfl (hb hby d15_35) k) ?_
      have t49 : ∀ (v49_0 : Int32) (v49_1 : Int32), Go p e below s 0 0 (PureQ (.int (f15_49 v49_0 v49_1)) h0) s₁ (mkF m 49 #[.val (.int v49_0), .val (.int v49_1)] []) := by
        intro v49_0 v49_1
        refine Go.step (g' := (mkF m 50 #[.val (.int v49_0), .val (.int v49_1)] [(.int v49_0)])) (fun _ k => XS.iloadN X0.here hx rfl (hb hby d15_49) rfl  k) ?_
        refine Go.step (g' := (mkF m 52 #[.val (.int v49_0), .val (.int v49_1)] [(.int (16 : Int32)), (.int v49_0)])) (fun _ k => XS.bipush X0.here hx rfl (hb hby d15_50) k) ?_
        have t62 : ∀ (v62_0 : Int32) (v62_1 : Int32), Go p e below s 0 0 (PureQ (.int (f15_62 v62_0 v62_1)) h0) s₁ (mkF m 62 #[.val (.int v62_0), .val (.int v62_1)] []) := by
          intro v62_0 v62_1
          refine Go.step (g' := (mkF m 63 #[.val (.int v62_0), .val (.int v62_1)] [(.int v62_0)])) (fun _ k => XS.iloadN X0.here hx rfl (hb hby d15_62) rfl  k) ?_
          refine Go.step (g' := (mkF m 64 #[.val (.int v62_0), .val (.int v62_1)] [(.int (4 : Int32)), (.int v62_0)])) (fun _ k => XS.iconst X0.here hx rfl (hb hby d15_63) k) ?_
          have t74 : ∀ (v74_0 : Int32) (v74_1 : Int32), Go p e below s 0 0 (PureQ (.int (f15_74 v74_0 v74_1)) h0) s₁ (mkF m 74 #[.val (.int v74_0), .val (.int v74_1)] []) := by
            intro v74_0 v74_1
            refine Go.step (g' := (mkF m 75 #[.val (.int v74_0), .val (.int v74_1)] [(.int v74_1)])) (fun _ k => XS.iloadN X0.here hx rfl (hb hby d15_74) rfl  k) ?_
            refine Go.step (g' := (mkF m 76 #[.val (.int v74_0), .val (.int v74_1)] [(.int v74_0), (.int v74_1)])) (fun _ k => XS.iloadN X0.here hx rfl (hb hby d15_75) rfl  k) ?_
            refine Go.step (g' := (mkF m 77 #[.val (.int v74_0), .val (.int v74_1)] [(.int (1 : Int32)), (.int v74_0), (.int v74_1)])) (fun _ k => XS.iconst X0.here hx rfl (hb hby d15_76) k) ?_
            refine Go.step (g' := (mkF m 78 #[.val (.int v74_0), .val (.int v74_1)] [(.int ((v74_0.toUInt32 >>> ((1 : Int32) &&& 31).toUInt32).toInt32)), (.int v74_1)])) (fun _ k => XS.iushr X0.here hx rfl (hb hby d15_77) rfl k) ?_
            refine Go.step (g' := (mkF m 79 #[.val (.int v74_0), .val (.int v74_1)] [(.int (v74_1 + ((v74_0.toUInt32 >>> ((1 : Int32) &&& 31).toUInt32).toInt32)))])) (fun _ k => XS.iadd X0.here hx rfl (hb hby d15_78) rfl k) ?_
            exact Go.retW X0 hx hlk (t := .int) Bd.returns rfl (Or.inl ⟨rfl, Or.inl rfl, _, rfl⟩) (hb hby d15_79) (by decide) (by decide) ⟨rfl, rfl, e0⟩
          by_cases hc64 : (4 : Int32) < v62_0
          · rw [show (f15_62 v62_0 v62_1) = (f15_67 v62_0 v62_1) from if_pos hc64]
            refine Go.step (g' := (mkF m 67 #[.val (.int v62_0), .val (.int v62_1)] [])) (fun _ k => XS.icmpNo X0.here hx rfl (hb hby d15_64) rfl (tlt hc64).2.2.2 k) ?_
            refine Go.step (g' := (mkF m 70 #[.val (.int v62_0), .val (.int (v62_1 + (2 : Int32)))] [])) (fun _ k => XS.iinc X0.here hx rfl (hb hby d15_67) rfl (l' := #[.val (.int v62_0), .val (.int (v62_1 + (2 : Int32)))]) rfl k) ?_
            refine Go.step (g' := (mkF m 71 #[.val (.int v62_0), .val (.int (v62_1 + (2 : Int32)))] [(.int v62_0)])) (fun _ k => XS.iloadN X0.here hx rfl (hb hby d15_70) rfl  k) ?_
            refine Go.step (g' := (mkF m 72 #[.val (.int v62_0), .val (.int (v62_1 + (2 : Int32)))] [(.int (2 : Int32)), (.int v62_0)])) (fun _ k => XS.iconst X0.here hx rfl (hb hby d15_71) k) ?_
            refine Go.step (g' := (mkF m 73 #[.val (.int v62_0), .val (.int (v62_1 + (2 : Int32)))] [(.int ((v62_0.toUInt32 >>> ((2 : Int32) &&& 31).toUInt32).toInt32))])) (fun _ k => XS.iushr X0.here hx rfl (hb hby d15_72) rfl k) ?_
            refine Go.step (g' := (mkF m 74 #[.val (.int ((v62_0.toUInt32 >>> ((2 : Int32) &&& 31).toUInt32).toInt32)), .val (.int (v62_1 + (2 : Int32)))] [])) (fun _ k => XS.istoreN X0.here hx rfl (hb hby d15_73) rfl (l' := #[.val (.int ((v62_0.toUInt32 >>> ((2 : Int32) &&& 31).toUInt32).toInt32)), .val (.int (v62_1 + (2 : Int32)))]) rfl k) ?_
            rw [show (f15_67 v62_0 v62_1) = (f15_74 ((v62_0.toUInt32 >>> ((2 : Int32) &&& 31).toUInt32).toInt32) (v62_1 + (2 : Int32))) from rfl]
            exact t74 ((v62_0.toUInt32 >>> ((2 : Int32) &&& 31).toUInt32).toInt32) (v62_1 + (2 : Int32))
          · rw [show (f15_62 v62_0 v62_1) = (f15_74 v62_0 v62_1) from if_neg hc64]
            refine Go.step (g' := (mkF m 74 #[.val (.int v62_0), .val (.int v62_1)] [])) (fun _ k => XS.icmpYes X0.here hx rfl (pc0 := 64) (pc' := 74) rfl (hb hby d15_64) rfl (flt hc64).2.2.2 (by decide) (by decide) k) ?_
            exact t74 v62_0 v62_1
        by_cases hc52 : (16 : Int32) < v49_0
        · rw [show (f15_49 v49_0 v49_1) = (f15_55 v49_0 v49_1) from if_pos hc52]
          refine Go.step (g' := (mkF m 55 #[.val (.int v49_0), .val (.int v49_1)] [])) (fun _ k => XS.icmpNo X0.here hx rfl (hb hby d15_52) rfl (tlt hc52).2.2.2 k) ?_
          refine Go.step (g' := (mkF m 58 #[.val (.int v49_0), .val (.int (v49_1 + (4 : Int32)))] [])) (fun _ k => XS.iinc X0.here hx rfl (hb hby d15_55) rfl (l' := #[.val (.int v49_0), .val (.int (v49_1 + (4 : Int32)))]) rfl k) ?_
          refine Go.step (g' := (mkF m 59 #[.val (.int v49_0), .val (.int (v49_1 + (4 : Int32)))] [(.int v49_0)])) (fun _ k => XS.iloadN X0.here hx rfl (hb hby d15_58) rfl  k) ?_
          refine Go.step (g' := (mkF m 60 #[.val (.int v49_0), .val (.int (v49_1 + (4 : Int32)))] [(.int (4 : Int32)), (.int v49_0)])) (fun _ k => XS.iconst X0.here hx rfl (hb hby d15_59) k) ?_
          refine Go.step (g' := (mkF m 61 #[.val (.int v49_0), .val (.int (v49_1 + (4 : Int32)))] [(.int ((v49_0.toUInt32 >>> ((4 : Int32) &&& 31).toUInt32).toInt32))])) (fun _ k => XS.iushr X0.here hx rfl (hb hby d15_60) rfl k) ?_
          refine Go.step (g' := (mkF m 62 #[.val (.int ((v49_0.toUInt32 >>> ((4 : Int32) &&& 31).toUInt32).toInt32)), .val (.int (v49_1 + (4 : Int32)))] [])) (fun _ k => XS.istoreN X0.here hx rfl (hb hby d15_61) rfl (l' := #[.val (.int ((v49_0.toUInt32 >>> ((4 : Int32) &&& 31).toUInt32).toInt32)), .val (.int (v49_1 + (4 : Int32)))]) rfl k) ?_
          rw [show (f15_55 v49_0 v49_1) = (f15_62 ((v49_0.toUInt32 >>> ((4 : Int32) &&& 31).toUInt32).toInt32) (v49_1 + (4 : Int32))) from rfl]
          exact t62 ((v49_0.toUInt32 >>> ((4 : Int32) &&& 31).toUInt32).toInt32) (v49_1 + (4 : Int32))
        · rw [show (f15_49 v49_0 v49_1) = (f15_62 v49_0 v49_1) from if_neg hc52]
          refine Go.step (g' := (mkF m 62 #[.val (.int v49_0), .val (.int v49_1)] [])) (fun _ k => XS.icmpYes X0.here hx rfl (pc0 := 52) (pc' := 62) rfl (hb hby d15_52) rfl (flt hc52).2.2.2 (by decide) (by decide) k) ?_
          exact t62 v49_0 v49_1
      by_cases hc38 : (256 : Int32) < v34_0
      · rw [show (f15_34 v34_0 v34_1) = (f15_41 v34_0 v34_1) from if_pos hc38]
        refine Go.step (g' := (mkF m 41 #[.val (.int v34_0), .val (.int v34_1)] [])) (fun _ k => XS.icmpNo X0.here hx rfl (hb hby d15_38) rfl (tlt hc38).2.2.2 k) ?_
        refine Go.step (g' := (mkF m 44 #[.val (.int v34_0), .val (.int (v34_1 + (8 : Int32)))] [])) (fun _ k => XS.iinc X0.here hx rfl (hb hby d15_41) rfl (l' := #[.val (.int v34_0), .val (.int (v34_1 + (8 : Int32)))]) rfl k) ?_
        refine Go.step (g' := (mkF m 45 #[.val (.int v34_0), .val (.int (v34_1 + (8 : Int32)))] [(.int v34_0)])) (fun _ k => XS.iloadN X0.here hx rfl (hb hby d15_44) rfl  k) ?_
        refine Go.step (g' := (mkF m 47 #[.val (.int v34_0), .val (.int (v34_1 + (8 : Int32)))] [(.int (8 : Int32)), (.int v34_0)])) (fun _ k => XS.bipush X0.here hx rfl (hb hby d15_45) k) ?_
        refine Go.step (g' := (mkF m 48 #[.val (.int v34_0), .val (.int (v34_1 + (8 : Int32)))] [(.int ((v34_0.toUInt32 >>> ((8 : Int32) &&& 31).toUInt32).toInt32))])) (fun _ k => XS.iushr X0.here hx rfl (hb hby d15_47) rfl k) ?_
        refine Go.step (g' := (mkF m 49 #[.val (.int ((v34_0.toUInt32 >>> ((8 : Int32) &&& 31).toUInt32).toInt32)), .val (.int (v34_1 + (8 : Int32)))] [])) (fun _ k => XS.istoreN X0.here hx rfl (hb hby d15_48) rfl (l' := #[.val (.int ((v34_0.toUInt32 >>> ((8 : Int32) &&& 31).toUInt32).toInt32)), .val (.int (v34_1 + (8 : Int32)))]) rfl k) ?_
        rw [show (f15_41 v34_0 v34_1) = (f15_49 ((v34_0.toUInt32 >>> ((8 : Int32) &&& 31).toUInt32).toInt32) (v34_1 + (8 : Int32))) from rfl]
        exact t49 ((v34_0.toUInt32 >>> ((8 : Int32) &&& 31).toUInt32).toInt32) (v34_1 + (8 : Int32))
      · rw [show (f15_34 v34_0 v34_1) = (f15_49 v34_0 v34_1) from if_neg hc38]
        refine Go.step (g' := (mkF m 49 #[.val (.int v34_0), .val (.int v34_1)] [])) (fun _ k => XS.icmpYes X0.here hx rfl (pc0 := 38) (pc' := 49) rfl (hb hby d15_38) rfl (flt hc38).2.2.2 (by decide) (by decide) k) ?_
        exact t49 v34_0 v34_1
    by_cases hc23 : (65536 : Int32) < ((p0 ^^^ (-1 : Int32)) &&& (p0 - (1 : Int32)))
    · rw [show (f15_17 p0) = (f15_26 p0) from if_pos hc23]
      refine Go.step (g' := (mkF m 26 #[.val (.int ((p0 ^^^ (-1 : Int32)) &&& (p0 - (1 : Int32)))), .val (.int (1 : Int32))] [])) (fun _ k => XS.icmpNo X0.here hx rfl (hb hby d15_23) rfl (tlt hc23).2.2.2 k) ?_
      refine Go.step (g' := (mkF m 29 #[.val (.int ((p0 ^^^ (-1 : Int32)) &&& (p0 - (1 : Int32)))), .val (.int ((1 : Int32) + (16 : Int32)))] [])) (fun _ k => XS.iinc X0.here hx rfl (hb hby d15_26) rfl (l' := #[.val (.int ((p0 ^^^ (-1 : Int32)) &&& (p0 - (1 : Int32)))), .val (.int ((1 : Int32) + (16 : Int32)))]) rfl k) ?_
      refine Go.step (g' := (mkF m 30 #[.val (.int ((p0 ^^^ (-1 : Int32)) &&& (p0 - (1 : Int32)))), .val (.int ((1 : Int32) + (16 : Int32)))] [(.int ((p0 ^^^ (-1 : Int32)) &&& (p0 - (1 : Int32))))])) (fun _ k => XS.iloadN X0.here hx rfl (hb hby d15_29) rfl  k) ?_
      refine Go.step (g' := (mkF m 32 #[.val (.int ((p0 ^^^ (-1 : Int32)) &&& (p0 - (1 : Int32)))), .val (.int ((1 : Int32) + (16 : Int32)))] [(.int (16 : Int32)), (.int ((p0 ^^^ (-1 : Int32)) &&& (p0 - (1 : Int32))))])) (fun _ k => XS.bipush X0.here hx rfl (hb hby d15_30) k) ?_
      refine Go.step (g' := (mkF m 33 #[.val (.int ((p0 ^^^ (-1 : Int32)) &&& (p0 - (1 : Int32)))), .val (.int ((1 : Int32) + (16 : Int32)))] [(.int ((((p0 ^^^ (-1 : Int32)) &&& (p0 - (1 : Int32))).toUInt32 >>> ((16 : Int32) &&& 31).toUInt32).toInt32))])) (fun _ k => XS.iushr X0.here hx rfl (hb hby d15_32) rfl k) ?_
      refine Go.step (g' := (mkF m 34 #[.val (.int ((((p0 ^^^ (-1 : Int32)) &&& (p0 - (1 : Int32))).toUInt32 >>> ((16 : Int32) &&& 31).toUInt32).toInt32)), .val (.int ((1 : Int32) + (16 : Int32)))] [])) (fun _ k => XS.istoreN X0.here hx rfl (hb hby d15_33) rfl (l' := #[.val (.int ((((p0 ^^^ (-1 : Int32)) &&& (p0 - (1 : Int32))).toUInt32 >>> ((16 : Int32) &&& 31).toUInt32).toInt32)), .val (.int ((1 : Int32) + (16 : Int32)))]) rfl k) ?_
      rw [show (f15_26 p0) = (f15_34 ((((p0 ^^^ (-1 : Int32)) &&& (p0 - (1 : Int32))).toUInt32 >>> ((16 : Int32) &&& 31).toUInt32).toInt32) ((1 : Int32) + (16 : Int32))) from rfl]
      exact t34 ((((p0 ^^^ (-1 : Int32)) &&& (p0 - (1 : Int32))).toUInt32 >>> ((16 : Int32) &&& 31).toUInt32).toInt32) ((1 : Int32) + (16 : Int32))
    · rw [show (f15_17 p0) = (f15_34 ((p0 ^^^ (-1 : Int32)) &&& (p0 - (1 : Int32))) (1 : Int32)) from if_neg hc23]
      refine Go.step (g' := (mkF m 34 #[.val (.int ((p0 ^^^ (-1 : Int32)) &&& (p0 - (1 : Int32)))), .val (.int (1 : Int32))] [])) (fun _ k => XS.icmpYes X0.here hx rfl (pc0 := 23) (pc' := 34) rfl (hb hby d15_23) rfl (flt hc23).2.2.2 (by decide) (by decide) k) ?_
      exact t34 ((p0 ^^^ (-1 : Int32)) &&& (p0 - (1 : Int32))) (1 : Int32)
  · rw [show (f15_0 p0) = (f15_12 p0) from if_neg hc9]
    refine Go.step (g' := (mkF m 12 #[.val (.int ((p0 ^^^ (-1 : Int32)) &&& (p0 - (1 : Int32)))), .unset] [])) (fun _ k => XS.ifNo X0.here hx rfl (hb hby d15_9) rfl ((if0 _ _).trans (flt hc9).2.2.1) k) ?_
    refine Go.step (g' := (mkF m 13 #[.val (.int ((p0 ^^^ (-1 : Int32)) &&& (p0 - (1 : Int32)))), .unset] [(.int ((p0 ^^^ (-1 : Int32)) &&& (p0 - (1 : Int32))))])) (fun _ k => XS.iloadN X0.here hx rfl (hb hby d15_12) rfl  k) ?_
    refine Go.step (g' := (mkF m 15 #[.val (.int ((p0 ^^^ (-1 : Int32)) &&& (p0 - (1 : Int32)))), .unset] [(.int (32 : Int32)), (.int ((p0 ^^^ (-1 : Int32)) &&& (p0 - (1 : Int32))))])) (fun _ k => XS.bipush X0.here hx rfl (hb hby d15_13) k) ?_
    refine Go.step (g' := (mkF m 16 #[.val (.int ((p0 ^^^ (-1 : Int32)) &&& (p0 - (1 : Int32)))), .unset] [(.int (((p0 ^^^ (-1 : Int32)) &&& (p0 - (1 : Int32))) &&& (32 : Int32)))])) (fun _ k => XS.iand X0.here hx rfl (hb hby d15_15) rfl k) ?_
    exact Go.retW X0 hx hlk (t := .int) Bd.returns rfl (Or.inl ⟨rfl, Or.inl rfl, _, rfl⟩) (hb hby d15_16) (by decide) (by decide) ⟨rfl, rfl, e0⟩
theorem d14_0 : decode jdk_35_method_49_code 0 = .ok (.lload_n 0, 1) := by decide +kernel
theorem d14_1 : decode jdk_35_method_49_code 1 = .ok (.l2i, 1) := by decide +kernel
theorem d14_2 : decode jdk_35_method_49_code 2 = .ok (.istore_n 2, 1) := by decide +kernel
theorem d14_3 : decode jdk_35_method_49_code 3 = .ok (.iload_n 2, 1) := by decide +kernel
theorem d14_4 : decode jdk_35_method_49_code 4 = .ok (.ifCond .ne 17, 3) := by decide +kernel
theorem d14_7 : decode jdk_35_method_49_code 7 = .ok (.bipush 32, 2) := by decide +kernel
theorem d14_9 : decode jdk_35_method_49_code 9 = .ok (.lload_n 0, 1) := by decide +kernel
theorem d14_10 : decode jdk_35_method_49_code 10 = .ok (.bipush 32, 2) := by decide +kernel
theorem d14_12 : decode jdk_35_method_49_code 12 = .ok (.lushr, 1) := by decide +kernel
theorem d14_13 : decode jdk_35_method_49_code 13 = .ok (.l2i, 1) := by decide +kernel
theorem d14_14 : decode jdk_35_method_49_code 14 = .ok (.invokestatic 311, 3) := by decide +kernel
theorem d14_17 : decode jdk_35_method_49_code 17 = .ok (.iadd, 1) := by decide +kernel
theorem d14_18 : decode jdk_35_method_49_code 18 = .ok (.goto 7, 3) := by decide +kernel
theorem d14_21 : decode jdk_35_method_49_code 21 = .ok (.iload_n 2, 1) := by decide +kernel
theorem d14_22 : decode jdk_35_method_49_code 22 = .ok (.invokestatic 311, 3) := by decide +kernel
theorem d14_25 : decode jdk_35_method_49_code 25 = .ok (.ireturn, 1) := by decide +kernel
theorem pn_14 : plainName "java/lang/Long" = true := by first | (simp [plainName, overriddenIn]; done) | decide +kernel
theorem ef_14 (m : MethodId) (q0 : Int64) : entryFrame m #[(.long q0)] 3 = mkF m 0 #[.val (.long q0), .second, .unset] [] := by first | (simp [entryFrame, mkF, argsToLocals, Value.category]; done) | rfl
def f14_25 (v25_s0 : Int32) : Int32 := v25_s0
def f14_21 (q0 : Int64) : Int32 := (f14_25 (f15_0 (q0.toInt32)))
def f14_7 (q0 : Int64) : Int32 := (f14_25 ((32 : Int32) + (f15_0 (((q0.toUInt64 >>> ((32 : Int32) &&& 0x3f).toInt64.toUInt64).toInt64).toInt32))))
def f14_0 (q0 : Int64) : Int32 := if (q0.toInt32) = (0 : Int32) then (f14_7 q0) else (f14_21 q0)
set_option maxRecDepth 65536 in
set_option maxHeartbeats 40000000 in
theorem rm14 (l : Launch) (Z : State) (a0 : Array Value) (hw : ∀ d ∈ tables_1, d.before a0 Z = true) (ws : List Jvm.Cond) (q0 : Int64)  (h0 : Heap) :
    MetFree l (⟨"java/lang/Long", "numberOfTrailingZeros", "(J)I"⟩ : MethodName) (head1 (Jvm.Cond.code (⟨"java/lang/Long", "numberOfTrailingZeros", "(J)I"⟩ : MethodName) jdk_35_method_49_code 3 (some .int) :: ws) ({ frames := 1, cells := 0, slots := 0, locals := 14 } : Room)) (fun a U => a = #[(.long q0)] ∧ Z.Warmed39 U.vm ∧ U.heap = h0) (fun _ _ _ _ _ => True) (fun _ U o U' => ∃ v L, o = .returned v ∧ (PureQ (.int (f14_0 q0)) h0) v U'.heap L ∧ FrameEnd U o U' L ({ frames := 1, cells := 0, slots := 0, locals := 14 } : Room).cells ({ frames := 1, cells := 0, slots := 0, locals := 14 } : Room).slots) := by
  refine MetFree.of_bodySF (plainFor_of_name pn_14) hisR ?_
  intro p e s m args below meth c s₁ Bd hml0 hP hK
  obtain ⟨rfl, hZ, hh⟩ := hP
  have hx := Bd.exec
  have hby := Bd.bytes
  have hlk : meth.locks = false := BodyLoose.notSynchronized Bd
  have hml : c.maxLocals = 3 := hml0
  have hown : s.vm.findClass "java/lang/Long" = some m.cls := findClass_of_methodNamed Bd.named
  have hnm := (name_of_methodNamed Bd.named Bd.method).1
  have X0 : Stand p l e ({ frames := 1, cells := 0, slots := 0, locals := 14 } : Room) s m #[(.long q0)] below meth c s₁ ([] : List Loc) 0 0 := Stand.of_body Bd
  have e0 : s₁.heap = h0 := by rw [← hh, Bd.state]; rfl
  show Go p e below s 0 0 (PureQ (.int (f14_0 q0)) h0) s₁ (entryFrame m #[(.long q0)] 3)
  rw [ef_14 m q0]
  refine Go.step (g' := (mkF m 1 #[.val (.long q0), .second, .unset] [(.long q0)])) (fun _ k => XS.lloadN X0.here hx rfl (hb hby d14_0) rfl  k) ?_
  refine Go.step (g' := (mkF m 2 #[.val (.long q0), .second, .unset] [(.int (q0.toInt32))])) (fun _ k => XS.l2i X0.here hx rfl (hb hby d14_1) rfl k) ?_
  refine Go.step (g' := (mkF m 3 #[.val (.long q0), .second, .val (.int (q0.toInt32))] [])) (fun _ k => XS.istoreN X0.here hx rfl (hb hby d14_2) rfl (l' := #[.val (.long q0), .second, .val (.int (q0.toInt32))]) rfl k) ?_
  refine Go.step (g' := (mkF m 4 #[.val (.long q0), .second, .val (.int (q0.toInt32))] [(.int (q0.toInt32))])) (fun _ k => XS.iloadN X0.here hx rfl (hb hby d14_3) rfl  k) ?_
  have t25 : ∀ (T_25 : State) (X_25 : Stand p l e ({ frames := 1, cells := 0, slots := 0, locals := 14 } : Room) s m #[(.long q0)] below meth c T_25 ([] : List Loc) 0 0) (e_25 : T_25.heap = h0) (v25_s0 : Int32), Go p e below s 0 0 (PureQ (.int (f14_25 v25_s0)) h0) T_25 (mkF m 25 #[.val (.long q0), .second, .val (.int (q0.toInt32))] [(.int v25_s0)]) := by
    intro T_25 X_25 e_25 v25_s0
    exact Go.retW X_25 hx hlk (t := .int) Bd.returns rfl (Or.inl ⟨rfl, Or.inl rfl, _, rfl⟩) (hb hby d14_25) (by decide) (by decide) ⟨rfl, rfl, e_25⟩
  by_cases hc4 : (q0.toInt32) = (0 : Int32)
  · rw [show (f14_0 q0) = (f14_7 q0) from if_pos hc4]
    refine Go.step (g' := (mkF m 7 #[.val (.long q0), .second, .val (.int (q0.toInt32))] [])) (fun _ k => XS.ifNo X0.here hx rfl (hb hby d14_4) rfl ((if0 _ _).trans (teq hc4).2) k) ?_
    refine Go.step (g' := (mkF m 9 #[.val (.long q0), .second, .val (.int (q0.toInt32))] [(.int (32 : Int32))])) (fun _ k => XS.bipush X0.here hx rfl (hb hby d14_7) k) ?_
    refine Go.step (g' := (mkF m 10 #[.val (.long q0), .second, .val (.int (q0.toInt32))] [(.long q0), (.int (32 : Int32))])) (fun _ k => XS.lloadN X0.here hx rfl (hb hby d14_9) rfl  k) ?_
    refine Go.step (g' := (mkF m 12 #[.val (.long q0), .second, .val (.int (q0.toInt32))] [(.int (32 : Int32)), (.long q0), (.int (32 : Int32))])) (fun _ k => XS.bipush X0.here hx rfl (hb hby d14_10) k) ?_
    refine Go.step (g' := (mkF m 13 #[.val (.long q0), .second, .val (.int (q0.toInt32))] [(.long ((q0.toUInt64 >>> ((32 : Int32) &&& 0x3f).toInt64.toUInt64).toInt64)), (.int (32 : Int32))])) (fun _ k => XS.lushr X0.here hx rfl (hb hby d14_12) rfl k) ?_
    refine Go.step (g' := (mkF m 14 #[.val (.long q0), .second, .val (.int (q0.toInt32))] [(.int (((q0.toUInt64 >>> ((32 : Int32) &&& 0x3f).toInt64.toUInt64).toInt64).toInt32)), (.int (32 : Int32))])) (fun _ k => XS.l2i X0.here hx rfl (hb hby d14_13) rfl k) ?_
    obtain ⟨_, _, ⟨T1, L1, k1, n1⟩, -, X1, ⟨Lc1, hQ1, l1, y1, z1⟩, st1⟩ := Jvm.LawKit.callS X0 hx (y := (⟨"java/lang/Integer", "numberOfTrailingZeros", "(I)I"⟩ : MethodName)) hown (mvT hZ (hw _ (List.mem_of_getElem? (i := 79) rfl))) (mvT hZ (hw _ (List.mem_of_getElem? (i := 80) rfl))) (mvT hZ (hw _ (List.mem_of_getElem? (i := 54) rfl))) (mvT hZ (hw _ (List.mem_of_getElem? (i := 81) rfl))) (by decide) (backOf (W := 1) (rm15 l Z a0 hw [] (((q0.toUInt64 >>> ((32 : Int32) &&& 0x3f).toInt64.toUInt64).toInt64).toInt32) h0 ) hZ (hw _ (List.mem_of_getElem? (i := 81) rfl)) (hw _ (List.mem_of_getElem? (i := 54) rfl)) (by decide) (by decide)) (g := (mkF m 14 #[.val (.long q0), .second, .val (.int (q0.toInt32))] [(.int (((q0.toUInt64 >>> ((32 : Int32) &&& 0x3f).toInt64.toUInt64).toInt64).toInt32)), (.int (32 : Int32))])) rfl (by rw [hml]; rfl) (argsL := [(.int (((q0.toUInt64 >>> ((32 : Int32) &&& 0x3f).toInt64.toUInt64).toInt64).toInt32))]) (rest := [(.int (32 : Int32))]) (lenOf pd_0 rfl) rfl (by show 2 * 0 + _ ≤ _; exact Nat.le_of_eq rfl) (hb hby d14_14) (fun _ _ => ⟨rfl, e0, (by decide : 0 + 0 ≤ _), (by decide : 0 + 0 ≤ _)⟩)
    dsimp only [Pt.U, Pt.locs, Pt.cells, Pt.slots] at X1 l1 y1 z1 st1 hQ1
    subst l1 y1 z1
    obtain ⟨rfl, rfl, e1⟩ := hQ1
    try rw [List.append_nil] at X1
    refine Go.step (g' := (mkF m 17 #[.val (.long q0), .second, .val (.int (q0.toInt32))] [(.int (f15_0 (((q0.toUInt64 >>> ((32 : Int32) &&& 0x3f).toInt64.toUInt64).toInt64).toInt32))), (.int (32 : Int32))])) st1 ?_
    refine Go.step (g' := (mkF m 18 #[.val (.long q0), .second, .val (.int (q0.toInt32))] [(.int ((32 : Int32) + (f15_0 (((q0.toUInt64 >>> ((32 : Int32) &&& 0x3f).toInt64.toUInt64).toInt64).toInt32))))])) (fun _ k => XS.iadd X1.here hx rfl (hb hby d14_17) rfl k) ?_
    refine Go.step (g' := (mkF m 25 #[.val (.long q0), .second, .val (.int (q0.toInt32))] [(.int ((32 : Int32) + (f15_0 (((q0.toUInt64 >>> ((32 : Int32) &&& 0x3f).toInt64.toUInt64).toInt64).toInt32))))])) (fun _ k => XS.goto X1.here hx rfl (pc0 := 18) (pc' := 25) rfl (hb hby d14_18) (by decide) (by decide) k) ?_
    rw [show (f14_7 q0) = (f14_25 ((32 : Int32) + (f15_0 (((q0.toUInt64 >>> ((32 : Int32) &&& 0x3f).toInt64.toUInt64).toInt64).toInt32)))) from rfl]
    exact t25 T1 X1 e1 ((32 : Int32) + (f15_0 (((q0.toUInt64 >>> ((32 : Int32) &&& 0x3f).toInt64.toUInt64).toInt64).toInt32)))
  · rw [show (f14_0 q0) = (f14_21 q0) from if_neg hc4]
    refine Go.step (g' := (mkF m 21 #[.val (.long q0), .second, .val (.int (q0.toInt32))] [])) (fun _ k => XS.ifYes X0.here hx rfl (pc0 := 4) (pc' := 21) rfl (hb hby d14_4) rfl ((if0 _ _).trans (feq hc4).2) (by decide) (by decide) k) ?_
    refine Go.step (g' := (mkF m 22 #[.val (.long q0), .second, .val (.int (q0.toInt32))] [(.int (q0.toInt32))])) (fun _ k => XS.iloadN X0.here hx rfl (hb hby d14_21) rfl  k) ?_
    obtain ⟨_, _, ⟨T2, L2, k2, n2⟩, -, X2, ⟨Lc2, hQ2, l2, y2, z2⟩, st2⟩ := Jvm.LawKit.callS X0 hx (y := (⟨"java/lang/Integer", "numberOfTrailingZeros", "(I)I"⟩ : MethodName)) hown (mvT hZ (hw _ (List.mem_of_getElem? (i := 79) rfl))) (mvT hZ (hw _ (List.mem_of_getElem? (i := 80) rfl))) (mvT hZ (hw _ (List.mem_of_getElem? (i := 54) rfl))) (mvT hZ (hw _ (List.mem_of_getElem? (i := 81) rfl))) (by decide) (backOf (W := 0) (rm15 l Z a0 hw [] (q0.toInt32) h0 ) hZ (hw _ (List.mem_of_getElem? (i := 81) rfl)) (hw _ (List.mem_of_getElem? (i := 54) rfl)) (by decide) (by decide)) (g := (mkF m 22 #[.val (.long q0), .second, .val (.int (q0.toInt32))] [(.int (q0.toInt32))])) rfl (by rw [hml]; rfl) (argsL := [(.int (q0.toInt32))]) (rest := []) (lenOf pd_0 rfl) rfl (by show 2 * 0 + _ ≤ _; exact Nat.le_of_eq rfl) (hb hby d14_22) (fun _ _ => ⟨rfl, e0, (by decide : 0 + 0 ≤ _), (by decide : 0 + 0 ≤ _)⟩)
    dsimp only [Pt.U, Pt.locs, Pt.cells, Pt.slots] at X2 l2 y2 z2 st2 hQ2
    subst l2 y2 z2
    obtain ⟨rfl, rfl, e2⟩ := hQ2
    try rw [List.append_nil] at X2
    refine Go.step (g' := (mkF m 25 #[.val (.long q0), .second, .val (.int (q0.toInt32))] [(.int (f15_0 (q0.toInt32)))])) st2 ?_
    rw [show (f14_21 q0) = (f14_25 (f15_0 (q0.toInt32))) from rfl]
    exact t25 T2 X2 e2 (f15_0 (q0.toInt32))
theorem d5_0 : decode prog_23_method_3_code 0 = .ok (.aload_n 0, 1) := by decide +kernel
theorem d5_1 : decode prog_23_method_3_code 1 = .ok (.getfield 27, 3) := by decide +kernel
theorem d5_4 : decode prog_23_method_3_code 4 = .ok (.ifCond .ne 7, 3) := by decide +kernel
theorem d5_7 : decode prog_23_method_3_code 7 = .ok (.iconst 1, 1) := by decide +kernel
theorem d5_8 : decode prog_23_method_3_code 8 = .ok (.goto 4, 3) := by decide +kernel
theorem d5_11 : decode prog_23_method_3_code 11 = .ok (.iconst 0, 1) := by decide +kernel
theorem d5_12 : decode prog_23_method_3_code 12 = .ok (.ireturn, 1) := by decide +kernel
theorem pn_5 : plainName "com/example/redelivery/redelivery/RadixHeap" = true := by first | (simp [plainName, overriddenIn]; done) | decide +kernel
theorem ef_5 (m : MethodId) (o0 : Addr) : entryFrame m #[(.ref o0)] 1 = mkF m 0 #[.val (.ref o0)] [] := by first | (simp [entryFrame, mkF, argsToLocals, Value.category]; done) | rfl
def f5_12 (v12_s0 : Int32) : Int32 := (nar .boolean v12_s0)
def f5_11 : Int32 := (f5_12 (0 : Int32))
def f5_7 : Int32 := (f5_12 (1 : Int32))
def f5_0 (z : Int32) : Int32 := if z = (0 : Int32) then f5_7 else f5_11
set_option maxRecDepth 65536 in
set_option maxHeartbeats 40000000 in
theorem rm5 (l : Launch) (Z : State) (a0 : Array Value) (hw : ∀ d ∈ tables_1, d.before a0 Z = true) (ws : List Jvm.Cond) (o0 : Addr) (z : Int32) (h0 : Heap) (Fz : Fld Z h0 o0 "com/example/redelivery/redelivery/RadixHeap" "size" "I" (.int z)) :
    MetFree l (⟨"com/example/redelivery/redelivery/RadixHeap", "isEmpty", "()Z"⟩ : MethodName) (head1 (Jvm.Cond.code (⟨"com/example/redelivery/redelivery/RadixHeap", "isEmpty", "()Z"⟩ : MethodName) prog_23_method_3_code 1 (some .boolean) :: ws) ({ frames := 0, cells := 0, slots := 0, locals := 0 } : Room)) (fun a U => a = #[(.ref o0)] ∧ Z.Warmed39 U.vm ∧ U.heap = h0) (fun _ _ _ _ _ => True) (fun _ U o U' => ∃ v L, o = .returned v ∧ (PureQ (.int (f5_0 z)) h0) v U'.heap L ∧ FrameEnd U o U' L ({ frames := 0, cells := 0, slots := 0, locals := 0 } : Room).cells ({ frames := 0, cells := 0, slots := 0, locals := 0 } : Room).slots) := by
  refine MetFree.of_bodySF (plainFor_of_name pn_5) hisR ?_
  intro p e s m args below meth c s₁ Bd hml0 hP hK
  obtain ⟨rfl, hZ, hh⟩ := hP
  have hx := Bd.exec
  have hby := Bd.bytes
  have hlk : meth.locks = false := BodyLoose.notSynchronized Bd
  have hml : c.maxLocals = 1 := hml0
  have hown : s.vm.findClass "com/example/redelivery/redelivery/RadixHeap" = some m.cls := findClass_of_methodNamed Bd.named
  have hnm := (name_of_methodNamed Bd.named Bd.method).1
  have X0 : Stand p l e ({ frames := 0, cells := 0, slots := 0, locals := 0 } : Room) s m #[(.ref o0)] below meth c s₁ ([] : List Loc) 0 0 := Stand.of_body Bd
  have e0 : s₁.heap = h0 := by rw [← hh, Bd.state]; rfl
  show Go p e below s 0 0 (PureQ (.int (f5_0 z)) h0) s₁ (entryFrame m #[(.ref o0)] 1)
  rw [ef_5 m o0]
  refine Go.step (g' := (mkF m 1 #[.val (.ref o0)] [(.ref o0)])) (fun _ k => XS.aloadN X0.here hx rfl (hb hby d5_0) rfl rfl  k) ?_
  obtain ⟨T1, X1, e1, st1⟩ := getF X0 hx hZ hown (host := "") (Or.inl (hw _ (List.mem_of_getElem? (i := 35) rfl))) Via.refl e0 Fz (g := (mkF m 1 #[.val (.ref o0)] [(.ref o0)])) rfl rfl (hb hby d5_1)
  refine Go.step (g' := (mkF m 4 #[.val (.ref o0)] [(.int z)])) st1 ?_
  have t12 : ∀ (v12_s0 : Int32), Go p e below s 0 0 (PureQ (.int (f5_12 v12_s0)) h0) T1 (mkF m 12 #[.val (.ref o0)] [(.int v12_s0)]) := by
    intro v12_s0
    exact Go.retN X1 hx hlk (t := .boolean) Bd.returns (by simp) (hb hby d5_12) (by decide) (by decide) ⟨rfl, rfl, e1⟩
  by_cases hc4 : z = (0 : Int32)
  · rw [show (f5_0 z) = f5_7 from if_pos hc4]
    refine Go.step (g' := (mkF m 7 #[.val (.ref o0)] [])) (fun _ k => XS.ifNo X1.here hx rfl (hb hby d5_4) rfl ((if0 _ _).trans (teq hc4).2) k) ?_
    refine Go.step (g' := (mkF m 8 #[.val (.ref o0)] [(.int (1 : Int32))])) (fun _ k => XS.iconst X1.here hx rfl (hb hby d5_7) k) ?_
    refine Go.step (g' := (mkF m 12 #[.val (.ref o0)] [(.int (1 : Int32))])) (fun _ k => XS.goto X1.here hx rfl (pc0 := 8) (pc' := 12) rfl (hb hby d5_8) (by decide) (by decide) k) ?_
    rw [show f5_7 = (f5_12 (1 : Int32)) from rfl]
    exact t12 (1 : Int32)
  · rw [show (f5_0 z) = f5_11 from if_neg hc4]
    refine Go.step (g' := (mkF m 11 #[.val (.ref o0)] [])) (fun _ k => XS.ifYes X1.here hx rfl (pc0 := 4) (pc' := 11) rfl (hb hby d5_4) rfl ((if0 _ _).trans (feq hc4).2) (by decide) (by decide) k) ?_
    refine Go.step (g' := (mkF m 12 #[.val (.ref o0)] [(.int (0 : Int32))])) (fun _ k => XS.iconst X1.here hx rfl (hb hby d5_11) k) ?_
    rw [show f5_11 = (f5_12 (0 : Int32)) from rfl]
    exact t12 (0 : Int32)
theorem d4_0 : decode method_2_code 0 = .ok (.aload_n 0, 1) := by decide +kernel
theorem d4_1 : decode method_2_code 1 = .ok (.invokevirtual 7, 3) := by decide +kernel
theorem d4_4 : decode method_2_code 4 = .ok (.iload_n 1, 1) := by decide +kernel
theorem d4_5 : decode method_2_code 5 = .ok (.ifCond .ne 7, 3) := by decide +kernel
theorem d4_8 : decode method_2_code 8 = .ok (.iconst 1, 1) := by decide +kernel
theorem d4_9 : decode method_2_code 9 = .ok (.goto 4, 3) := by decide +kernel
theorem d4_12 : decode method_2_code 12 = .ok (.iconst 0, 1) := by decide +kernel
theorem d4_13 : decode method_2_code 13 = .ok (.if_icmp .ne 7, 3) := by decide +kernel
theorem d4_16 : decode method_2_code 16 = .ok (.iconst 1, 1) := by decide +kernel
theorem d4_17 : decode method_2_code 17 = .ok (.goto 4, 3) := by decide +kernel
theorem d4_20 : decode method_2_code 20 = .ok (.iconst 0, 1) := by decide +kernel
theorem d4_21 : decode method_2_code 21 = .ok (.ireturn, 1) := by decide +kernel
theorem pn_4 : plainName "com/example/redelivery/redelivery/RadixHeapIsEmptyPinLaw" = true := by first | (simp [plainName, overriddenIn]; done) | decide +kernel
theorem ef_4 (m : MethodId) (o0 : Addr) (p1 : Int32) : entryFrame m #[(.ref o0), (.int p1)] 2 = mkF m 0 #[.val (.ref o0), .val (.int p1)] [] := by first | (simp [entryFrame, mkF, argsToLocals, Value.category]; done) | rfl
def f4_21 (v21_s0 : Int32) : Int32 := (nar .boolean v21_s0)
def f4_20 : Int32 := (f4_21 (0 : Int32))
def f4_16 : Int32 := (f4_21 (1 : Int32))
def f4_13 (z : Int32) (v13_s0 : Int32) : Int32 := if (f5_0 z) = v13_s0 then f4_16 else f4_20
def f4_12 (z : Int32) : Int32 := (f4_13 z (0 : Int32))
def f4_8 (z : Int32) : Int32 := (f4_13 z (1 : Int32))
def f4_0 (p1 : Int32) (z : Int32) : Int32 := if p1 = (0 : Int32) then (f4_8 z) else (f4_12 z)
set_option maxRecDepth 65536 in
set_option maxHeartbeats 40000000 in
theorem rm4 (l : Launch) (Z : State) (a0 : Array Value) (hw : ∀ d ∈ tables_1, d.before a0 Z = true) (ws : List Jvm.Cond) (o0 : Addr) (p1 : Int32) (z : Int32) (h0 : Heap) (Fz : Fld Z h0 o0 "com/example/redelivery/redelivery/RadixHeap" "size" "I" (.int z)) (Ez : Exa Z h0 o0 "com/example/redelivery/redelivery/RadixHeap") :
    MetFree l (⟨"com/example/redelivery/redelivery/RadixHeapIsEmptyPinLaw", "agree", "(Lcom/example/redelivery/redelivery/RadixHeap;I)Z"⟩ : MethodName) (head1 (Jvm.Cond.code (⟨"com/example/redelivery/redelivery/RadixHeapIsEmptyPinLaw", "agree", "(Lcom/example/redelivery/redelivery/RadixHeap;I)Z"⟩ : MethodName) method_2_code 2 (some .boolean) :: ws) ({ frames := 1, cells := 0, slots := 0, locals := 12 } : Room)) (fun a U => a = #[(.ref o0), (.int p1)] ∧ Z.Warmed39 U.vm ∧ U.heap = h0) (fun _ _ _ _ _ => True) (fun _ U o U' => ∃ v L, o = .returned v ∧ (PureQ (.int (f4_0 p1 z)) h0) v U'.heap L ∧ FrameEnd U o U' L ({ frames := 1, cells := 0, slots := 0, locals := 12 } : Room).cells ({ frames := 1, cells := 0, slots := 0, locals := 12 } : Room).slots) := by
  refine MetFree.of_bodySF (plainFor_of_name pn_4) hisR ?_
  intro p e s m args below meth c s₁ Bd hml0 hP hK
  obtain ⟨rfl, hZ, hh⟩ := hP
  have hx := Bd.exec
  have hby := Bd.bytes
  have hlk : meth.locks = false := BodyLoose.notSynchronized Bd
  have hml : c.maxLocals = 2 := hml0
  have hown : s.vm.findClass "com/example/redelivery/redelivery/RadixHeapIsEmptyPinLaw" = some m.cls := findClass_of_methodNamed Bd.named
  have hnm := (name_of_methodNamed Bd.named Bd.method).1
  have X0 : Stand p l e ({ frames := 1, cells := 0, slots := 0, locals := 12 } : Room) s m #[(.ref o0), (.int p1)] below meth c s₁ ([] : List Loc) 0 0 := Stand.of_body Bd
  have e0 : s₁.heap = h0 := by rw [← hh, Bd.state]; rfl
  show Go p e below s 0 0 (PureQ (.int (f4_0 p1 z)) h0) s₁ (entryFrame m #[(.ref o0), (.int p1)] 2)
  rw [ef_4 m o0 p1]
  refine Go.step (g' := (mkF m 1 #[.val (.ref o0), .val (.int p1)] [(.ref o0)])) (fun _ k => XS.aloadN X0.here hx rfl (hb hby d4_0) rfl rfl  k) ?_
  obtain ⟨cq1, kq1, q1a, q1b, q1c⟩ := isOf hZ e0 Ez
  obtain ⟨_, _, ⟨T1, L1, k1, n1⟩, -, X1, ⟨Lc1, hQ1, l1, y1, z1⟩, st1⟩ := X0.virtualBack hx (y := (⟨"com/example/redelivery/redelivery/RadixHeap", "isEmpty", "()Z"⟩ : MethodName)) (z := (⟨"com/example/redelivery/redelivery/RadixHeap", "isEmpty", "()Z"⟩ : MethodName)) hown (mvT hZ (hw _ (List.mem_of_getElem? (i := 30) rfl))) (mvT hZ (hw _ (List.mem_of_getElem? (i := 31) rfl))) (notFace_of_selects (args := #[]) (mvT hZ (hw _ (List.mem_of_getElem? (i := 33) rfl)))) (mvT hZ (hw _ (List.mem_of_getElem? (i := 33) rfl))) (mvT hZ (hw _ (List.mem_of_getElem? (i := 32) rfl))) (by decide) (backOf (W := 0) (rm5 l Z a0 hw [] o0 z h0 Fz) hZ (hw _ (List.mem_of_getElem? (i := 34) rfl)) (hw _ (List.mem_of_getElem? (i := 7) rfl)) (by decide) (by decide)) q1a q1c (g := (mkF m 1 #[.val (.ref o0), .val (.int p1)] [(.ref o0)])) rfl (by rw [hml]; rfl) (Steps.refl _) (argsL := []) (rest := []) (lenOf pd_1 rfl) rfl (by show 2 * 0 + _ ≤ _; exact Nat.le_of_eq rfl) (hb hby d4_1) (fun _ _ => ⟨rfl, e0, (by decide : 0 + 0 ≤ _), (by decide : 0 + 0 ≤ _)⟩)
  dsimp only [Pt.U, Pt.locs, Pt.cells, Pt.slots] at X1 l1 y1 z1 st1 hQ1
  subst l1 y1 z1
  obtain ⟨rfl, rfl, e1⟩ := hQ1
  try rw [List.append_nil] at X1
  refine Go.step (g' := (mkF m 4 #[.val (.ref o0), .val (.int p1)] [(.int (f5_0 z))])) (fun _ k => st1.trans k) ?_
  refine Go.step (g' := (mkF m 5 #[.val (.ref o0), .val (.int p1)] [(.int p1), (.int (f5_0 z))])) (fun _ k => XS.iloadN X1.here hx rfl (hb hby d4_4) rfl  k) ?_
  have t13 : ∀ (v13_s0 : Int32), Go p e below s 0 0 (PureQ (.int (f4_13 z v13_s0)) h0) T1 (mkF m 13 #[.val (.ref o0), .val (.int p1)] [(.int v13_s0), (.int (f5_0 z))]) := by
    intro v13_s0
    have t21 : ∀ (v21_s0 : Int32), Go p e below s 0 0 (PureQ (.int (f4_21 v21_s0)) h0) T1 (mkF m 21 #[.val (.ref o0), .val (.int p1)] [(.int v21_s0)]) := by
      intro v21_s0
      exact Go.retN X1 hx hlk (t := .boolean) Bd.returns (by simp) (hb hby d4_21) (by decide) (by decide) ⟨rfl, rfl, e1⟩
    by_cases hc13 : (f5_0 z) = v13_s0
    · rw [show (f4_13 z v13_s0) = f4_16 from if_pos hc13]
      refine Go.step (g' := (mkF m 16 #[.val (.ref o0), .val (.int p1)] [])) (fun _ k => XS.icmpNo X1.here hx rfl (hb hby d4_13) rfl (teq hc13).2 k) ?_
      refine Go.step (g' := (mkF m 17 #[.val (.ref o0), .val (.int p1)] [(.int (1 : Int32))])) (fun _ k => XS.iconst X1.here hx rfl (hb hby d4_16) k) ?_
      refine Go.step (g' := (mkF m 21 #[.val (.ref o0), .val (.int p1)] [(.int (1 : Int32))])) (fun _ k => XS.goto X1.here hx rfl (pc0 := 17) (pc' := 21) rfl (hb hby d4_17) (by decide) (by decide) k) ?_
      rw [show f4_16 = (f4_21 (1 : Int32)) from rfl]
      exact t21 (1 : Int32)
    · rw [show (f4_13 z v13_s0) = f4_20 from if_neg hc13]
      refine Go.step (g' := (mkF m 20 #[.val (.ref o0), .val (.int p1)] [])) (fun _ k => XS.icmpYes X1.here hx rfl (pc0 := 13) (pc' := 20) rfl (hb hby d4_13) rfl (feq hc13).2 (by decide) (by decide) k) ?_
      refine Go.step (g' := (mkF m 21 #[.val (.ref o0), .val (.int p1)] [(.int (0 : Int32))])) (fun _ k => XS.iconst X1.here hx rfl (hb hby d4_20) k) ?_
      rw [show f4_20 = (f4_21 (0 : Int32)) from rfl]
      exact t21 (0 : Int32)
  by_cases hc5 : p1 = (0 : Int32)
  · rw [show (f4_0 p1 z) = (f4_8 z) from if_pos hc5]
    refine Go.step (g' := (mkF m 8 #[.val (.ref o0), .val (.int p1)] [(.int (f5_0 z))])) (fun _ k => XS.ifNo X1.here hx rfl (hb hby d4_5) rfl ((if0 _ _).trans (teq hc5).2) k) ?_
    refine Go.step (g' := (mkF m 9 #[.val (.ref o0), .val (.int p1)] [(.int (1 : Int32)), (.int (f5_0 z))])) (fun _ k => XS.iconst X1.here hx rfl (hb hby d4_8) k) ?_
    refine Go.step (g' := (mkF m 13 #[.val (.ref o0), .val (.int p1)] [(.int (1 : Int32)), (.int (f5_0 z))])) (fun _ k => XS.goto X1.here hx rfl (pc0 := 9) (pc' := 13) rfl (hb hby d4_9) (by decide) (by decide) k) ?_
    rw [show (f4_8 z) = (f4_13 z (1 : Int32)) from rfl]
    exact t13 (1 : Int32)
  · rw [show (f4_0 p1 z) = (f4_12 z) from if_neg hc5]
    refine Go.step (g' := (mkF m 12 #[.val (.ref o0), .val (.int p1)] [(.int (f5_0 z))])) (fun _ k => XS.ifYes X1.here hx rfl (pc0 := 5) (pc' := 12) rfl (hb hby d4_5) rfl ((if0 _ _).trans (feq hc5).2) (by decide) (by decide) k) ?_
    refine Go.step (g' := (mkF m 13 #[.val (.ref o0), .val (.int p1)] [(.int (0 : Int32)), (.int (f5_0 z))])) (fun _ k => XS.iconst X1.here hx rfl (hb hby d4_12) k) ?_
    rw [show (f4_12 z) = (f4_13 z (0 : Int32)) from rfl]
    exact t13 (0 : Int32)
theorem d7_0 : decode prog_23_method_9_code 0 = .ok (.bipush 64, 2) := by decide +kernel
theorem d7_2 : decode prog_23_method_9_code 2 = .ok (.lload_n 1, 1) := by decide +kernel
theorem d7_3 : decode prog_23_method_9_code 3 = .ok (.aload_n 0, 1) := by decide +kernel
theorem d7_4 : decode prog_23_method_9_code 4 = .ok (.getfield 31, 3) := by decide +kernel
theorem d7_7 : decode prog_23_method_9_code 7 = .ok (.lxor, 1) := by decide +kernel
theorem d7_8 : decode prog_23_method_9_code 8 = .ok (.invokestatic 74, 3) := by decide +kernel
theorem d7_11 : decode prog_23_method_9_code 11 = .ok (.isub, 1) := by decide +kernel
theorem d7_12 : decode prog_23_method_9_code 12 = .ok (.ireturn, 1) := by decide +kernel
theorem pn_7 : plainName "com/example/redelivery/redelivery/RadixHeap" = true := by first | (simp [plainName, overriddenIn]; done) | decide +kernel
theorem ef_7 (m : MethodId) (o0 : Addr) (q1 : Int64) : entryFrame m #[(.ref o0), (.long q1)] 3 = mkF m 0 #[.val (.ref o0), .val (.long q1), .second] [] := by first | (simp [entryFrame, mkF, argsToLocals, Value.category]; done) | rfl
def f7_0 (q1 : Int64) (w : Int64) : Int32 := ((64 : Int32) - (f8_0 (q1 ^^^ w)))
set_option maxRecDepth 65536 in
set_option maxHeartbeats 40000000 in
theorem rm7 (l : Launch) (Z : State) (a0 : Array Value) (hw : ∀ d ∈ tables_1, d.before a0 Z = true) (ws : List Jvm.Cond) (o0 : Addr) (q1 : Int64) (w : Int64) (h0 : Heap) (Fw : Fld Z h0 o0 "com/example/redelivery/redelivery/RadixHeap" "last" "J" (.long w)) :
    MetFree l (⟨"com/example/redelivery/redelivery/RadixHeap", "bucketOf", "(J)I"⟩ : MethodName) (head1 (Jvm.Cond.code (⟨"com/example/redelivery/redelivery/RadixHeap", "bucketOf", "(J)I"⟩ : MethodName) prog_23_method_9_code 3 (some .int) :: ws) ({ frames := 2, cells := 0, slots := 0, locals := 29 } : Room)) (fun a U => a = #[(.ref o0), (.long q1)] ∧ Z.Warmed39 U.vm ∧ U.heap = h0) (fun _ _ _ _ _ => True) (fun _ U o U' => ∃ v L, o = .returned v ∧ (PureQ (.int (f7_0 q1 w)) h0) v U'.heap L ∧ FrameEnd U o U' L ({ frames := 2, cells := 0, slots := 0, locals := 29 } : Room).cells ({ frames := 2, cells := 0, slots := 0, locals := 29 } : Room).slots) := by
  refine MetFree.of_bodySF (plainFor_of_name pn_7) hisR ?_
  intro p e s m args below meth c s₁ Bd hml0 hP hK
  obtain ⟨rfl, hZ, hh⟩ := hP
  have hx := Bd.exec
  have hby := Bd.bytes
  have hlk : meth.locks = false := BodyLoose.notSynchronized Bd
  have hml : c.maxLocals = 3 := hml0
  have hown : s.vm.findClass "com/example/redelivery/redelivery/RadixHeap" = some m.cls := findClass_of_methodNamed Bd.named
  have hnm := (name_of_methodNamed Bd.named Bd.method).1
  have X0 : Stand p l e ({ frames := 2, cells := 0, slots := 0, locals := 29 } : Room) s m #[(.ref o0), (.long q1)] below meth c s₁ ([] : List Loc) 0 0 := Stand.of_body Bd
  have e0 : s₁.heap = h0 := by rw [← hh, Bd.state]; rfl
  show Go p e below s 0 0 (PureQ (.int (f7_0 q1 w)) h0) s₁ (entryFrame m #[(.ref o0), (.long q1)] 3)
  rw [ef_7 m o0 q1]
  refine Go.step (g' := (mkF m 2 #[.val (.ref o0), .val (.long q1), .second] [(.int (64 : Int32))])) (fun _ k => XS.bipush X0.here hx rfl (hb hby d7_0) k) ?_
  refine Go.step (g' := (mkF m 3 #[.val (.ref o0), .val (.long q1), .second] [(.long q1), (.int (64 : Int32))])) (fun _ k => XS.lloadN X0.here hx rfl (hb hby d7_2) rfl  k) ?_
  refine Go.step (g' := (mkF m 4 #[.val (.ref o0), .val (.long q1), .second] [(.ref o0), (.long q1), (.int (64 : Int32))])) (fun _ k => XS.aloadN X0.here hx rfl (hb hby d7_3) rfl rfl  k) ?_
  obtain ⟨T1, X1, e1, st1⟩ := getF X0 hx hZ hown (host := "") (Or.inl (hw _ (List.mem_of_getElem? (i := 42) rfl))) Via.refl e0 Fw (g := (mkF m 4 #[.val (.ref o0), .val (.long q1), .second] [(.ref o0), (.long q1), (.int (64 : Int32))])) rfl rfl (hb hby d7_4)
  refine Go.step (g' := (mkF m 7 #[.val (.ref o0), .val (.long q1), .second] [(.long w), (.long q1), (.int (64 : Int32))])) st1 ?_
  refine Go.step (g' := (mkF m 8 #[.val (.ref o0), .val (.long q1), .second] [(.long (q1 ^^^ w)), (.int (64 : Int32))])) (fun _ k => XS.lxor X1.here hx rfl (hb hby d7_7) rfl k) ?_
  obtain ⟨_, _, ⟨T2, L2, k2, n2⟩, -, X2, ⟨Lc2, hQ2, l2, y2, z2⟩, st2⟩ := Jvm.LawKit.callS X1 hx (y := (⟨"java/lang/Long", "numberOfLeadingZeros", "(J)I"⟩ : MethodName)) hown (mvT hZ (hw _ (List.mem_of_getElem? (i := 48) rfl))) (mvT hZ (hw _ (List.mem_of_getElem? (i := 49) rfl))) (mvT hZ (hw _ (List.mem_of_getElem? (i := 50) rfl))) (mvT hZ (hw _ (List.mem_of_getElem? (i := 51) rfl))) (by decide) (backOf (W := 1) (rm8 l Z a0 hw [] (q1 ^^^ w) h0 ) hZ (hw _ (List.mem_of_getElem? (i := 51) rfl)) (hw _ (List.mem_of_getElem? (i := 50) rfl)) (by decide) (by decide)) (g := (mkF m 8 #[.val (.ref o0), .val (.long q1), .second] [(.long (q1 ^^^ w)), (.int (64 : Int32))])) rfl (by rw [hml]; rfl) (argsL := [(.long (q1 ^^^ w))]) (rest := [(.int (64 : Int32))]) (lenOf pd_2 rfl) rfl (by show 2 * 0 + _ ≤ _; exact Nat.le_of_eq rfl) (hb hby d7_8) (fun _ _ => ⟨rfl, e1, (by decide : 0 + 0 ≤ _), (by decide : 0 + 0 ≤ _)⟩)
  dsimp only [Pt.U, Pt.locs, Pt.cells, Pt.slots] at X2 l2 y2 z2 st2 hQ2
  subst l2 y2 z2
  obtain ⟨rfl, rfl, e2⟩ := hQ2
  try rw [List.append_nil] at X2
  refine Go.step (g' := (mkF m 11 #[.val (.ref o0), .val (.long q1), .second] [(.int (f8_0 (q1 ^^^ w))), (.int (64 : Int32))])) st2 ?_
  refine Go.step (g' := (mkF m 12 #[.val (.ref o0), .val (.long q1), .second] [(.int ((64 : Int32) - (f8_0 (q1 ^^^ w))))])) (fun _ k => XS.isub X2.here hx rfl (hb hby d7_11) rfl k) ?_
  exact Go.retW X2 hx hlk (t := .int) Bd.returns rfl (Or.inl ⟨rfl, Or.inl rfl, _, rfl⟩) (hb hby d7_12) (by decide) (by decide) ⟨rfl, rfl, e2⟩
theorem d13_0 : decode prog_23_method_7_code 0 = .ok (.aload_n 0, 1) := by decide +kernel
theorem d13_1 : decode prog_23_method_7_code 1 = .ok (.getfield 27, 3) := by decide +kernel
theorem d13_4 : decode prog_23_method_7_code 4 = .ok (.ifCond .ne 13, 3) := by decide +kernel
theorem d13_17 : decode prog_23_method_7_code 17 = .ok (.return_, 1) := by decide +kernel
theorem pn_13 : plainName "com/example/redelivery/redelivery/RadixHeap" = true := by first | (simp [plainName, overriddenIn]; done) | decide +kernel
theorem ef_13 (m : MethodId) (o0 : Addr) : entryFrame m #[(.ref o0)] 1 = mkF m 0 #[.val (.ref o0)] [] := by first | (simp [entryFrame, mkF, argsToLocals, Value.category]; done) | rfl
def VoidQ (h0 : Heap) (v : Option Value) (h : Heap) (L : List Loc) : Prop := v = none ∧ L = [] ∧ h = h0
set_option maxRecDepth 65536 in
set_option maxHeartbeats 40000000 in
theorem rm13 (l : Launch) (Z : State) (a0 : Array Value) (hw : ∀ d ∈ tables_1, d.before a0 Z = true) (ws : List Jvm.Cond) (o0 : Addr) (z : Int32) (h0 : Heap) (Fz : Fld Z h0 o0 "com/example/redelivery/redelivery/RadixHeap" "size" "I" (.int z)) (hz : ¬ z = 0) :
    MetFree l (⟨"com/example/redelivery/redelivery/RadixHeap", "requireEntry", "()V"⟩ : MethodName) (head1 (Jvm.Cond.code (⟨"com/example/redelivery/redelivery/RadixHeap", "requireEntry", "()V"⟩ : MethodName) prog_23_method_7_code 1 none :: ws) ({ frames := 0, cells := 0, slots := 0, locals := 0 } : Room)) (fun a U => a = #[(.ref o0)] ∧ Z.Warmed39 U.vm ∧ U.heap = h0) (fun _ _ _ _ _ => True) (fun _ U o U' => ∃ v L, o = .returned v ∧ (VoidQ h0) v U'.heap L ∧ FrameEnd U o U' L ({ frames := 0, cells := 0, slots := 0, locals := 0 } : Room).cells ({ frames := 0, cells := 0, slots := 0, locals := 0 } : Room).slots) := by
  refine MetFree.of_bodySF (plainFor_of_name pn_13) hisR ?_
  intro p e s m args below meth c s₁ Bd hml0 hP hK
  obtain ⟨rfl, hZ, hh⟩ := hP
  have hx := Bd.exec
  have hby := Bd.bytes
  have hlk : meth.locks = false := BodyLoose.notSynchronized Bd
  have hml : c.maxLocals = 1 := hml0
  have hown : s.vm.findClass "com/example/redelivery/redelivery/RadixHeap" = some m.cls := findClass_of_methodNamed Bd.named
  have hnm := (name_of_methodNamed Bd.named Bd.method).1
  have X0 : Stand p l e ({ frames := 0, cells := 0, slots := 0, locals := 0 } : Room) s m #[(.ref o0)] below meth c s₁ ([] : List Loc) 0 0 := Stand.of_body Bd
  have e0 : s₁.heap = h0 := by rw [← hh, Bd.state]; rfl
  show Go p e below s 0 0 (VoidQ h0) s₁ (entryFrame m #[(.ref o0)] 1)
  rw [ef_13 m o0]
  refine Go.step (g' := (mkF m 1 #[.val (.ref o0)] [(.ref o0)])) (fun _ k => XS.aloadN X0.here hx rfl (hb hby d13_0) rfl rfl  k) ?_
  obtain ⟨T1, X1, e1, st1⟩ := getF X0 hx hZ hown (host := "") (Or.inl (hw _ (List.mem_of_getElem? (i := 35) rfl))) Via.refl e0 Fz (g := (mkF m 1 #[.val (.ref o0)] [(.ref o0)])) rfl rfl (hb hby d13_1)
  refine Go.step (g' := (mkF m 4 #[.val (.ref o0)] [(.int z)])) st1 ?_
  refine Go.step (g' := (mkF m 17 #[.val (.ref o0)] [])) (fun _ k => XS.ifYes X1.here hx rfl (pc0 := 4) (pc' := 17) rfl (hb hby d13_4) rfl ((if0 _ _).trans (feq (hz : ¬ (z = (0 : Int32)))).2) (by decide) (by decide) k) ?_
  skip
  exact Go.ret0 X1 hx hlk Bd.returns (hb hby d13_17) (by decide) (by decide) ⟨rfl, rfl, e1⟩
theorem own_sh (x q : Int32) (k : Nat) (hk : q.toBitVec.toNat % 32 = k) (h0 : 0 < k) (hx : 0 ≤ x.toInt) : ((x.toUInt32 >>> (q &&& 31).toUInt32).toInt32).toInt = x.toInt / (2 ^ k : Nat) := by
  have r := rng32 x
  rw [c_iushr x q k hk h0, Int.emod_eq_of_lt hx (by omega)]
theorem own_n73 {x n : Int32} (hx : 0 ≤ x.toInt) (h4 : x.toInt < 4) (hn : 0 ≤ n.toInt) (hn2 : n.toInt ≤ 31) : (f9_73 x n).toInt ≤ n.toInt ∧ n.toInt - 1 ≤ (f9_73 x n).toInt ∧ (x.toInt < 2 → (f9_73 x n).toInt = n.toInt) := by
  unfold f9_73
  have e := own_sh x 1 1 (by decide) (by decide) hx
  have s := c_isub n ((x.toUInt32 >>> ((1 : Int32) &&& 31).toUInt32).toInt32)
  have r := rng32 (n - ((x.toUInt32 >>> ((1 : Int32) &&& 31).toUInt32).toInt32))
  rw [e] at s
  rw [show ((2 ^ 1 : Nat) : Int) = 2 from rfl] at s
  omega
theorem own_n61 {x n : Int32} (hx : 0 ≤ x.toInt) (h4 : x.toInt < 16) (hn : 2 ≤ n.toInt) (hn2 : n.toInt ≤ 31) : (f9_61 x n).toInt ≤ n.toInt ∧ n.toInt - 3 ≤ (f9_61 x n).toInt ∧ (x.toInt < 8 → n.toInt - 2 ≤ (f9_61 x n).toInt) := by
  unfold f9_61
  have z : (4 : Int32).toInt = 4 := by decide
  by_cases c : x < (4 : Int32)
  · rw [if_pos c]; rw [Int32.lt_iff_toInt_lt, z] at c
    have := own_n73 (x := x) (n := n) hx c (by omega) hn2
    omega
  · rw [if_neg c]; rw [Int32.lt_iff_toInt_lt, z] at c
    unfold f9_66
    have e := own_sh x 2 2 (by decide) (by decide) hx
    rw [show ((2 ^ 2 : Nat) : Int) = 4 from rfl] at e
    have s := c_iadd n (-2)
    have r := rng32 (n + (-2 : Int32))
    have z2 : (-2 : Int32).toInt = -2 := by decide
    have := own_n73 (x := (x.toUInt32 >>> ((2 : Int32) &&& 31).toUInt32).toInt32) (n := n + (-2 : Int32)) (by omega) (by omega) (by omega) (by omega)
    omega
theorem own_n48 {x n : Int32} (hx : 0 ≤ x.toInt) (h4 : x.toInt < 256) (hn : 6 ≤ n.toInt) (hn2 : n.toInt ≤ 31) : (f9_48 x n).toInt ≤ n.toInt ∧ n.toInt - 7 ≤ (f9_48 x n).toInt ∧ (x.toInt < 128 → n.toInt - 6 ≤ (f9_48 x n).toInt) := by
  unfold f9_48
  have z : (16 : Int32).toInt = 16 := by decide
  by_cases c : x < (16 : Int32)
  · rw [if_pos c]; rw [Int32.lt_iff_toInt_lt, z] at c
    have := own_n61 (x := x) (n := n) hx c (by omega) hn2
    omega
  · rw [if_neg c]; rw [Int32.lt_iff_toInt_lt, z] at c
    unfold f9_54
    have e := own_sh x 4 4 (by decide) (by decide) hx
    rw [show ((2 ^ 4 : Nat) : Int) = 16 from rfl] at e
    have s := c_iadd n (-4)
    have r := rng32 (n + (-4 : Int32))
    have z2 : (-4 : Int32).toInt = -4 := by decide
    have := own_n61 (x := (x.toUInt32 >>> ((4 : Int32) &&& 31).toUInt32).toInt32) (n := n + (-4 : Int32)) (by omega) (by omega) (by omega) (by omega)
    omega
theorem own_n33 {x n : Int32} (hx : 0 ≤ x.toInt) (h4 : x.toInt < 65536) (hn : 14 ≤ n.toInt) (hn2 : n.toInt ≤ 31) : (f9_33 x n).toInt ≤ n.toInt ∧ n.toInt - 15 ≤ (f9_33 x n).toInt ∧ (x.toInt < 32768 → n.toInt - 14 ≤ (f9_33 x n).toInt) := by
  unfold f9_33
  have z : (256 : Int32).toInt = 256 := by decide
  by_cases c : x < (256 : Int32)
  · rw [if_pos c]; rw [Int32.lt_iff_toInt_lt, z] at c
    have := own_n48 (x := x) (n := n) hx c (by omega) hn2
    omega
  · rw [if_neg c]; rw [Int32.lt_iff_toInt_lt, z] at c
    unfold f9_40
    have e := own_sh x 8 8 (by decide) (by decide) hx
    rw [show ((2 ^ 8 : Nat) : Int) = 256 from rfl] at e
    have s := c_iadd n (-8)
    have r := rng32 (n + (-8 : Int32))
    have z2 : (-8 : Int32).toInt = -8 := by decide
    have := own_n48 (x := (x.toUInt32 >>> ((8 : Int32) &&& 31).toUInt32).toInt32) (n := n + (-8 : Int32)) (by omega) (by omega) (by omega) (by omega)
    omega
theorem own_nlzI (x : Int32) : 0 ≤ (f9_0 x).toInt ∧ (f9_0 x).toInt ≤ 32 ∧ (0 < x.toInt → 1 ≤ (f9_0 x).toInt) := by
  unfold f9_0
  have z : (0 : Int32).toInt = 0 := by decide
  have rx := rng32 x
  by_cases c : (0 : Int32) < x
  · rw [if_pos c]; rw [Int32.lt_iff_toInt_lt, z] at c
    unfold f9_15
    have z1 : (65536 : Int32).toInt = 65536 := by decide
    have z2 : (31 : Int32).toInt = 31 := by decide
    by_cases d : x < (65536 : Int32)
    · rw [if_pos d]; rw [Int32.lt_iff_toInt_lt, z1] at d
      have := own_n33 (x := x) (n := 31) (by omega) d (by omega) (by omega)
      omega
    · rw [if_neg d]; rw [Int32.lt_iff_toInt_lt, z1] at d
      unfold f9_25
      have e := own_sh x 16 16 (by decide) (by decide) (by omega)
      rw [show ((2 ^ 16 : Nat) : Int) = 65536 from rfl] at e
      have z3 : ((31 : Int32) + (-16 : Int32)).toInt = 15 := by decide
      have := own_n33 (x := (x.toUInt32 >>> ((16 : Int32) &&& 31).toUInt32).toInt32) (n := (31 : Int32) + (-16 : Int32)) (by omega) (by omega) (by omega) (by omega)
      omega
  · rw [if_neg c]; rw [Int32.lt_iff_toInt_lt, z] at c
    unfold f9_4
    by_cases d : x = (0 : Int32)
    · rw [if_pos d]; exact ⟨by decide, by decide, fun q => absurd q c⟩
    · rw [if_neg d]; exact ⟨by decide, by decide, fun q => absurd q c⟩
theorem own_nlz (x : Int64) (hx : 0 ≤ x.toInt) : 1 ≤ (f8_0 x).toInt ∧ (f8_0 x).toInt ≤ 64 := by
  unfold f8_0
  have rx := rng64 x
  have e1 := c_lushr x 32 32 (by decide) (by decide)
  have e2 := c_l2i ((x.toUInt64 >>> ((32 : Int32) &&& 0x3f).toInt64.toUInt64).toInt64)
  rw [Int.emod_eq_of_lt hx (by omega), show ((2 ^ 32 : Nat) : Int) = 4294967296 from rfl] at e1
  have r2 := rng32 ((x.toUInt64 >>> ((32 : Int32) &&& 0x3f).toInt64.toUInt64).toInt64).toInt32
  by_cases c : (((x.toUInt64 >>> ((32 : Int32) &&& 0x3f).toInt64.toUInt64).toInt64).toInt32) = (0 : Int32)
  · rw [if_pos c]
    unfold f8_10 f8_25
    have i := own_nlzI x.toInt32
    have s := c_iadd 32 (f9_0 x.toInt32)
    have r := rng32 (32 + f9_0 x.toInt32)
    have z : (32 : Int32).toInt = 32 := by decide
    omega
  · rw [if_neg c]
    unfold f8_21 f8_25
    have i := own_nlzI (((x.toUInt64 >>> ((32 : Int32) &&& 0x3f).toInt64.toUInt64).toInt64).toInt32)
    have ne : ¬ ((x.toUInt64 >>> ((32 : Int32) &&& 0x3f).toInt64.toUInt64).toInt64).toInt32.toInt = 0 := fun q => c (Int32.toInt_inj.mp q)
    omega
theorem own_bk {k w : Int64} (hk : ¬ k < 0) (hw : ¬ w < 0) : ¬ (f7_0 k w < 0 ∨ 64 ≤ (f7_0 k w).toNatClampNeg) := by
  unfold f7_0
  rw [Int64.lt_iff_toInt_lt, show (0 : Int64).toInt = 0 from rfl] at hk hw
  have x := (c_xorSL k w).2.2.2 (by omega) (by omega)
  have b := own_nlz (k ^^^ w) x
  have s := c_isub 64 (f8_0 (k ^^^ w))
  have r := rng32 (64 - f8_0 (k ^^^ w))
  have z : (64 : Int32).toInt = 64 := by decide
  have t : (64 - f8_0 (k ^^^ w)).toNatClampNeg = (64 - f8_0 (k ^^^ w)).toInt.toNat := rfl
  rw [Int32.lt_iff_toInt_lt, show (0 : Int32).toInt = 0 from rfl]
  omega
theorem own_bk0 (x : Int64) : f7_0 x x = 0 := by
  unfold f7_0
  rw [Int64.xor_self]; decide +kernel
theorem own_f14 (u : Int64) : f14_0 u = Jvm.Free.JP.Long_numberOfTrailingZeros_J.val u := rfl
theorem own_ntz (u : Int64) (h : u ≠ 0) : ∃ t, t < 64 ∧ f14_0 u = Int32.ofNat t ∧ bitOf u t = true := by
  have hn : u.toBitVec.toNat ≠ 0 := fun q => h (Int64.toBitVec_inj.mp (BitVec.eq_of_toNat_eq (by rw [q]; rfl)))
  obtain ⟨t, ht⟩ := Jvm.Free.JM.low_ex _ hn
  exact ⟨t, ht.lt u.toBitVec.isLt, (own_f14 u).trans (Jvm.Free.JM.ntz64 ht), ht.at⟩
theorem own_cl : ∀ t : Fin 64, (Int32.ofNat t.val).toNatClampNeg = t.val ∧ ¬ Int32.ofNat t.val < 0 := by decide +kernel
section OwnPlain2
variable {Z : State} {h h' : Heap} {n0 : Nat} {tg tg' : Addr → Nat} {M B : Int64} {kf vf kf' vf' : Nat → Value} {sf sf' : Nat → Int32} {lf lf' : Nat → Int64} {u u' w lw : Int64} {n n' b : Nat} {ws : List Addr} {z cnt p1 : Int32} {o ka va sa la xa xc : Addr} {g gv : Nat → Int64} {L : List Loc}
theorem own_pick (J0 : JJ Z h n0 tg M kf vf sf lf u n) (hn : n ≠ 0) (h12 : lcmpW (u &&& (1 : Int64)) (0 : Int64) = (0 : Int32)) : ¬ (f14_0 u < 0 ∨ 64 ≤ (f14_0 u).toNatClampNeg) ∧ sf (f14_0 u).toNatClampNeg ≠ 0 ∧ (f14_0 u).toNatClampNeg ≠ 0 := by
  have hs : sumTo sf 64 ≠ 0 := by rw [J0.2.2.2.1]; exact hn
  obtain ⟨b, hb, hq⟩ := sumTo_pos 64 hs
  have q1 : sf b ≠ 0 := fun e => hq (by rw [e]; rfl)
  have q2 : bitOf u b = true := by rw [J0.2.1 b hb]; simp [q1]
  have q3 : u ≠ 0 := fun e => by rw [e] at q2; unfold bitOf at q2; simp at q2
  obtain ⟨t, t1, t2, t3⟩ := own_ntz u q3
  have c := own_cl ⟨t, t1⟩
  simp only at c
  rw [t2, c.1]
  refine ⟨fun e => e.elim c.2 (fun e => by omega), ?_, ?_⟩
  · have := J0.2.1 t t1
    rw [t3] at this
    simpa using this.symm
  · intro e
    subst e
    rw [lw_eq] at h12
    have : (u &&& (1 : Int64)).toBitVec.getLsbD 0 = true := by
      rw [Int64.toBitVec_and, BitVec.getLsbD_and]; unfold bitOf at t3; rw [t3]; decide
    rw [h12] at this; exact absurd this (by decide)
theorem own_s0 (J0 : JJ Z h n0 tg M kf vf sf lf u n) (h12 : ¬ lcmpW (u &&& (1 : Int64)) (0 : Int64) = (0 : Int32)) : sf 0 ≠ 0 := by
  have q := own_bit0 u h12
  rw [J0.2.1 0 (by decide)] at q
  simpa using q
theorem own_minE {a q : Int64} {v : Int64} {i : Int32} (hv : (i = 0 ∧ v = q) ∨ (¬ i = 0 ∧ v = f11_0 a q)) : v = q ∨ (¬ i = 0 ∧ v = a) := by
  rcases hv with e | ⟨e1, e2⟩
  · exact Or.inl e.2
  · unfold f11_0 at e2
    by_cases c : (0 : Int32) < lcmpW a q
    · rw [if_pos c] at e2; exact Or.inl e2
    · rw [if_neg c] at e2; exact Or.inr ⟨e1, e2⟩
theorem own_at16 {i : Int32} (J0 : JJ Z h n0 tg M kf vf sf lf u n) (hb : ¬ (p1 < 0 ∨ 64 ≤ p1.toNatClampNeg)) (hn : n < 16) (hi : sf p1.toNatClampNeg = i) : ¬ (i < 0 ∨ 16 ≤ i.toNatClampNeg) := by
  have q := J0.le (own_lt hb)
  rw [hi] at q
  rw [Int32.lt_iff_toInt_lt, show (0 : Int32).toInt = 0 from rfl]; omega
theorem own_ws5 (G0 : TG tg o ka va sa la) {b : Nat} : ∀ x ∈ [o, ka, va, sa, la], (tg x < 10 ∧ tg x ≠ 5) ∨ tg x = 10 + 2 * b ∨ tg x = 11 + 2 * b := by
  obtain ⟨g1, g2, g3, g4, g5⟩ := G0
  intro x hx
  simp only [List.mem_cons, List.not_mem_nil, or_false] at hx
  left
  rcases hx with rfl | rfl | rfl | rfl | rfl <;> omega
theorem own_ws7 (G0 : TG tg o ka va sa la) {b : Nat} (ta : tg xa = 10 + 2 * b) (tc : tg xc = 11 + 2 * b) : ∀ x ∈ [o, ka, va, sa, la, xa, xc], (tg x < 10 ∧ tg x ≠ 5) ∨ tg x = 10 + 2 * b ∨ tg x = 11 + 2 * b := by
  obtain ⟨g1, g2, g3, g4, g5⟩ := G0
  intro x hx
  simp only [List.mem_cons, List.not_mem_nil, or_false] at hx
  rcases hx with rfl | rfl | rfl | rfl | rfl | rfl | rfl <;> omega
theorem own_ws4 (G0 : TG tg o ka va sa la) : ∀ x ∈ [o, ka, va, sa], tg x < 10 := by
  obtain ⟨g1, g2, g3, g4, g5⟩ := G0
  intro x hx
  simp only [List.mem_cons, List.not_mem_nil, or_false] at hx
  rcases hx with rfl | rfl | rfl | rfl <;> omega
theorem own_ws2 (G0 : TG tg o ka va sa la) : ∀ x ∈ [o, sa], tg x < 10 := fun x hx => own_ws4 G0 x (by
  simp only [List.mem_cons, List.not_mem_nil, or_false] at hx ⊢
  rcases hx with h | h <;> simp [h])
theorem own_ws1 (G0 : TG tg o ka va sa la) : ∀ x ∈ [o], tg x < 10 := fun x hx => own_ws4 G0 x (by
  simp only [List.mem_cons, List.not_mem_nil, or_false] at hx ⊢
  simp [hx])
theorem own_twOld {a c : Addr} {ta tc : Nat} (ha : h.size ≤ a) (hc : h.size ≤ c) : ∀ x, x < h.size → TW tg a c ta tc x = tg x := fun x hx => by
  unfold TW
  rw [if_neg (Nat.ne_of_lt (Nat.lt_of_lt_of_le hx ha)), if_neg (Nat.ne_of_lt (Nat.lt_of_lt_of_le hx hc))]
theorem own_twN {a c : Addr} {ta tc : Nat} (hg : ∀ x, tg x ≠ 0 → n0 ≤ x) (ga : n0 ≤ a) (gc : n0 ≤ c) : ∀ x, TW tg a c ta tc x ≠ 0 → n0 ≤ x := fun x hx => by
  unfold TW at hx
  by_cases q1 : x = a
  · rw [q1]; exact ga
  by_cases q2 : x = c
  · rw [q2]; exact gc
  · rw [if_neg q1, if_neg q2] at hx; exact hg x hx
theorem own_twA (tg : Addr → Nat) (a c : Addr) (ta tc : Nat) : TW tg a c ta tc a = ta := if_pos rfl
theorem own_twC {a c : Addr} {ta tc : Nat} (q : a ≠ c) : TW tg a c ta tc c = tc := by unfold TW; rw [if_neg q.symm, if_pos rfl]
theorem own_tw5 (tg : Addr → Nat) (a c : Addr) : TW tg a c 5 5 c = 5 := by unfold TW; rw [if_pos rfl]; split <;> rfl
theorem own_tg5 (G0 : TG tg o ka va sa la) (ta : tg xa = 10 + 2 * b) (tc : tg xc = 11 + 2 * b) : TG (TW tg xa xc 5 5) o ka va sa la := by
  obtain ⟨g1, g2, g3, g4, g5⟩ := G0
  have k : ∀ y, tg y < 10 → TW tg xa xc 5 5 y = tg y := fun y hy => by
    unfold TW
    rw [if_neg (fun e => by rw [e] at hy; omega), if_neg (fun e => by rw [e] at hy; omega)]
  exact ⟨(k _ (by omega)).trans g1, (k _ (by omega)).trans g2, (k _ (by omega)).trans g3, (k _ (by omega)).trans g4, (k _ (by omega)).trans g5⟩
theorem own_clear (J0 : JJ Z h n0 tg M kf vf sf lf u n) (hb : ¬ (p1 < 0 ∨ 64 ≤ p1.toNatClampNeg)) (hcnt : sf p1.toNatClampNeg = cnt) (K : Keep h h' ws) (hW : ∀ x ∈ ws, tg x < 10) (ta : tg xa = 10 + 2 * p1.toNatClampNeg) (tc : tg xc = 11 + 2 * p1.toNatClampNeg) :
    JJ Z h' n0 (TW tg xa xc 5 5) M (upd kf p1.toNatClampNeg .null) (upd vf p1.toNatClampNeg .null) (upd sf p1.toNatClampNeg (0 : Int32)) lf (u &&& (((1 : Int64) <<< (p1 &&& 0x3f).toInt64) ^^^ (-1 : Int64))) (n - cnt.toNatClampNeg) := by
  have q := J0.le (own_lt hb)
  refine J0.change (own_lt hb) K (fun x hx => Or.inl (hW x hx)) (fun x hx => ?_) (own_twN J0.2.2.2.2 (J0.2.2.2.2 _ (by omega)) (J0.2.2.2.2 _ (by omega))) (fun j hj => upd_ne _ _ _ hj) (fun j hj => upd_ne _ _ _ hj) (fun j hj => upd_ne _ _ _ hj) (fun j hj => rfl) (Or.inl ⟨upd_same _ _ _, upd_same _ _ _⟩) (fun j hj => ?_) ?_ ?_
  · by_cases q1 : x = xa
    · rw [q1]; exact Or.inr (Or.inl ta)
    by_cases q2 : x = xc
    · rw [q2]; exact Or.inr (Or.inr tc)
    · left; unfold TW; rw [if_neg q1, if_neg q2]
  · rw [own_bitClr hb u j hj, upd_same]; simp
  · rw [upd_same]; decide
  · rw [upd_same, hcnt]; rw [hcnt] at q
    show n - cnt.toNatClampNeg + cnt.toNatClampNeg = n + 0
    omega
theorem own_cntB (J0 : JJ Z h n0 tg M kf vf sf lf u n) (hb : ¬ (p1 < 0 ∨ 64 ≤ p1.toNatClampNeg)) (hcnt : sf p1.toNatClampNeg = cnt) : cnt.toNatClampNeg ≤ n := by
  have q := J0.le (own_lt hb); rw [hcnt] at q; exact q.2.2
theorem own_cntP (J0 : JJ Z h n0 tg M kf vf sf lf u n) (hb : ¬ (p1 < 0 ∨ 64 ≤ p1.toNatClampNeg)) (hcnt : sf p1.toNatClampNeg = cnt) (hs : sf p1.toNatClampNeg ≠ 0) : (0 : Int32) < cnt := by
  have q := J0.le (own_lt hb)
  rw [hcnt] at q hs
  rw [Int32.lt_iff_toInt_lt, show (0 : Int32).toInt = 0 from rfl]
  have : cnt.toInt ≠ 0 := fun e => hs (Int32.toInt_inj.mp e)
  omega
theorem own_cntL {k : Int32} {N : Nat} (hcn : cnt.toNatClampNeg ≤ n) (hn : n ≤ N) (e : k.toInt = N) : ¬ k < cnt := by
  rw [Int32.lt_iff_toInt_lt]
  have t : cnt.toNatClampNeg = cnt.toInt.toNat := rfl
  omega
theorem own_lw (hg : ∀ i, i < cnt.toNatClampNeg → ¬ g i < 0 ∧ ¬ M < g i) (hl : ∃ i, i < cnt.toNatClampNeg ∧ lf b = g i) (hlw : lf b = lw) : ¬ lw < 0 ∧ ¬ M < lw ∧ ∃ i, i < cnt.toNatClampNeg ∧ lw = g i := by
  obtain ⟨i, h1, h2⟩ := hl
  rw [hlw] at h2
  exact ⟨by rw [h2]; exact (hg i h1).1, by rw [h2]; exact (hg i h1).2, i, h1, h2⟩
theorem own_lti {k : Nat} {a : Int32} (h : a < cnt) (e : a.toInt = k) : k < cnt.toNatClampNeg := by
  rw [Int32.lt_iff_toInt_lt] at h
  have t : cnt.toNatClampNeg = cnt.toInt.toNat := rfl
  omega
theorem own_hsS {F : Nat → Nat} {t : Nat} (H : ∀ i, i < t → sf (F i) ≠ 0) (hm : ∀ j, sf j ≠ 0 → sf' j ≠ 0) (hp : sf' (F t) ≠ 0) : ∀ i, i < t + 1 → sf' (F i) ≠ 0 := fun i hi => by
  by_cases e : i = t
  · rw [e]; exact hp
  · exact hm _ (H i (by omega))
theorem own_cn {a b : Int32} {c : Nat} (h1 : a < cnt) (h2 : ¬ b < cnt) (e1 : a.toInt + 1 = c) (e2 : b.toInt = c) : cnt.toNatClampNeg = c := by
  rw [Int32.lt_iff_toInt_lt] at h1 h2
  have t : cnt.toNatClampNeg = cnt.toInt.toNat := rfl
  omega
def QS (Z : State) (n0 : Nat) (o ka va sa la : Addr) (M : Int64) (z : Int32) (n : Nat) (v : Option Value) (h : Heap) (L : List Loc) : Prop :=
  v = none ∧ Fr n0 L ∧ ∃ (tg' : Addr → Nat) (kf' vf' : Nat → Value) (sf' : Nat → Int32) (lf' : Nat → Int64) (u' w' : Int64), RF Z h o ka va sa la kf' vf' sf' lf' u' w' z ∧ TG tg' o ka va sa la ∧ JJ Z h n0 tg' M kf' vf' sf' lf' u' n ∧ ¬ w' < 0 ∧ ¬ M < w' ∧ sf' 0 ≠ 0
theorem own_spEnd {c : Nat} (hc : cnt.toNatClampNeg = c) (hcn : cnt.toNatClampNeg ≤ n) (N : Fr n0 L) (R : RF Z h o ka va sa la kf vf sf lf u lw z) (G : TG tg o ka va sa la) (J : JJ Z h n0 tg M kf vf sf lf u n') (hn : n' = n - cnt.toNatClampNeg + c) (Hs : ∀ i, i < c → sf (f7_0 (g i) lw).toNatClampNeg ≠ 0)
    (hl : ∃ i, i < cnt.toNatClampNeg ∧ lw = g i) (h0 : ¬ lw < 0) (hM : ¬ M < lw) : QS Z n0 o ka va sa la M z n none h L := by
  obtain ⟨i, i1, i2⟩ := hl
  have e : n' = n := by omega
  subst e
  refine ⟨rfl, N, _, _, _, _, _, _, _, R, G, J, h0, hM, ?_⟩
  have q := Hs i (by omega)
  rw [← i2, own_bk0] at q
  exact q
theorem own_addEnd (R : RF Z h' o ka va sa la kf vf sf lf u w (z + 1)) (G : TG tg o ka va sa la) (J : JJ Z h n0 tg M kf vf sf lf u (z.toNatClampNeg + 1)) (K : Keep h h' ws) (hW : ∀ x ∈ ws, tg x < 10) (hw0 : ¬ w < 0) (hwB : ¬ B < w) (hz0 : ¬ z < 0) (hz8 : z.toInt ≤ 8) : RH Z h' n0 o (z + 1) B M := by
  rw [Int32.lt_iff_toInt_lt, show (0 : Int32).toInt = 0 from rfl] at hz0
  have s := own_succ (i := z) (by omega) (by omega)
  refine ⟨_, _, _, _, _, _, _, _, _, _, _, R, G, ?_, hw0, hwB, ?_⟩
  · rw [s.2]; exact J.same K hW
  · rw [Int32.lt_iff_toInt_lt, show (0 : Int32).toInt = 0 from rfl]; omega
theorem own_ge {q : Int64} (hB : ¬ q < B) (hwB : ¬ B < w) : ¬ lcmpW q w < (0 : Int32) := by
  rw [lw_lt]; rw [Int64.lt_iff_toInt_lt] at *; omega
theorem own_k0 {q : Int64} (hB : ¬ q < B) (hwB : ¬ B < w) (hw0 : ¬ w < 0) : ¬ q < 0 := by
  rw [Int64.lt_iff_toInt_lt] at *; omega
theorem own_z8 (hz0 : ¬ z < 0) (hz8 : z.toInt ≤ 8) : z.toNatClampNeg < 16 := by
  have t : z.toNatClampNeg = z.toInt.toNat := rfl
  omega
theorem own_wM (hwB : ¬ B < w) (hBM : ¬ M < B) : ¬ M < w := by rw [Int64.lt_iff_toInt_lt] at *; omega
theorem own_zN {N : Nat} (hz0 : ¬ z < 0) (hzN : z.toInt ≤ N) : z.toNatClampNeg ≤ N := by
  have t : z.toNatClampNeg = z.toInt.toNat := rfl
  omega
theorem own_zne (hz1 : 1 ≤ z.toInt) : ¬ z = 0 := fun e => by rw [e, show (0 : Int32).toInt = 0 from rfl] at hz1; omega
theorem own_zpos (hz1 : 1 ≤ z.toInt) : z.toNatClampNeg ≠ 0 := by
  have t : z.toNatClampNeg = z.toInt.toNat := rfl
  omega
theorem own_left {s0 : Int32} {N : Nat} (hle : 0 ≤ (sf 0).toInt ∧ (sf 0).toInt ≤ n ∧ (sf 0).toNatClampNeg ≤ n) (hs0 : sf (0 : Int32).toNatClampNeg = s0) (hs : sf 0 ≠ 0) (hn : n ≤ N) (hN : N ≤ 15) : ¬ (s0 - (1 : Int32) < 0 ∨ 16 ≤ (s0 - (1 : Int32)).toNatClampNeg) := by
  have hs0' : sf 0 = s0 := hs0
  rw [hs0'] at hle hs
  have : s0.toInt ≠ 0 := fun e => hs (Int32.toInt_inj.mp e)
  have p := own_pred (i := s0) (by omega)
  rw [Int32.lt_iff_toInt_lt, show (0 : Int32).toInt = 0 from rfl]
  omega
theorem own_takeEnd {s0 : Int32} (R : RF Z h' o ka va sa la kf vf (upd sf (0 : Int32).toNatClampNeg (s0 - (1 : Int32))) lf u' w (z - (1 : Int32))) (G : TG tg o ka va sa la) (J : JJ Z h n0 tg M kf vf sf lf u z.toNatClampNeg) (K : Keep h h' ws) (hW : ∀ x ∈ ws, tg x < 10) (hw0 : ¬ w < 0) (hwM : ¬ M < w) (hz0 : ¬ z < 0) (hz1 : 1 ≤ z.toInt)
    (hs0 : sf (0 : Int32).toNatClampNeg = s0) (hs : sf 0 ≠ 0) (hu : (s0 - (1 : Int32) = (0 : Int32) ∧ u' = u &&& (-2 : Int64)) ∨ (¬ s0 - (1 : Int32) = (0 : Int32) ∧ u' = u)) (hka : kf 0 = .ref xa) (hvc : vf 0 = .ref xc) (ta : tg xa = 10 + 2 * 0) (tc : tg xc = 11 + 2 * 0)
    (Aa : IA Z h xa .long 16 (fun k => .long (g k))) (Ac : IA Z h xc .long 16 (fun k => .long (gv k))) (hg : ∀ i, i < (sf 0).toNatClampNeg → ¬ g i < 0 ∧ ¬ M < g i) : RH Z h' n0 o (z - (1 : Int32)) M M := by
  have hle := J.le (b := 0) (by decide)
  have hs0' : sf 0 = s0 := hs0
  rw [hs0'] at hle hs hg
  have s1 : s0.toInt ≠ 0 := fun e => hs (Int32.toInt_inj.mp e)
  have ps := own_pred (i := s0) (by omega)
  have pz := own_pred hz1
  have i0 : (0 : Int32).toNatClampNeg = 0 := rfl
  rw [i0] at R
  refine ⟨_, _, _, _, _, _, _, _, _, _, _, R, G, ?_, hw0, hwM, ?_⟩
  · have j1 := J.2.1 0 (by decide)
    rw [hs0'] at j1
    refine J.change (b := 0) (by decide) K (fun x hx => Or.inl (hW x hx)) (fun x hx => Or.inl rfl) J.2.2.2.2 (fun j hj => rfl) (fun j hj => rfl) (fun j hj => upd_ne _ _ _ hj) (fun j hj => rfl) ?_ (fun j hj => ?_) ?_ ?_
    · rw [upd_same, hka, hvc]
      exact Or.inr ⟨xa, xc, g, gv, rfl, rfl, ta, tc, Aa.keep K (fun hm => by have := hW _ hm; omega), Ac.keep K (fun hm => by have := hW _ hm; omega), fun i hi => hg i (by omega), Or.inr (Or.inl rfl)⟩
    · rw [upd_same]
      rcases hu with ⟨c, rfl⟩ | ⟨c, rfl⟩
      · rw [own_bitClr0 u j hj, c]
        by_cases e : j = 0 <;> simp [e]
      · by_cases e : j = 0
        · subst e; rw [if_pos rfl, j1]; simp [c, hs]
        · rw [if_neg e]
    · rw [upd_same, Int32.lt_iff_toInt_lt, show (0 : Int32).toInt = 0 from rfl]; omega
    · rw [upd_same, hs0']; omega
  · rw [Int32.lt_iff_toInt_lt, show (0 : Int32).toInt = 0 from rfl]; omega
theorem own_agree (z : Int32) : f4_0 z z = 1 := by
  unfold f4_0
  by_cases e : z = 0
  · subst e; decide
  · rw [if_neg e]
    unfold f4_12 f4_13 f5_0
    rw [if_neg e]; decide
end OwnPlain2

theorem d2_0 : decode prog_23_method_1_code 0 = .ok (.aload_n 0, 1) := by decide +kernel
theorem d2_1 : decode prog_23_method_1_code 1 = .ok (.invokespecial 3, 3) := by decide +kernel
theorem d2_4 : decode prog_23_method_1_code 4 = .ok (.aload_n 0, 1) := by decide +kernel
theorem d2_5 : decode prog_23_method_1_code 5 = .ok (.bipush 64, 2) := by decide +kernel
theorem d2_7 : decode prog_23_method_1_code 7 = .ok (.anewarray 11, 3) := by decide +kernel
theorem d2_10 : decode prog_23_method_1_code 10 = .ok (.putfield 13, 3) := by decide +kernel
theorem d2_13 : decode prog_23_method_1_code 13 = .ok (.aload_n 0, 1) := by decide +kernel
theorem d2_14 : decode prog_23_method_1_code 14 = .ok (.bipush 64, 2) := by decide +kernel
theorem d2_16 : decode prog_23_method_1_code 16 = .ok (.anewarray 11, 3) := by decide +kernel
theorem d2_19 : decode prog_23_method_1_code 19 = .ok (.putfield 17, 3) := by decide +kernel
theorem d2_22 : decode prog_23_method_1_code 22 = .ok (.aload_n 0, 1) := by decide +kernel
theorem d2_23 : decode prog_23_method_1_code 23 = .ok (.bipush 64, 2) := by decide +kernel
theorem d2_25 : decode prog_23_method_1_code 25 = .ok (.newarray .int, 2) := by decide +kernel
theorem d2_27 : decode prog_23_method_1_code 27 = .ok (.putfield 20, 3) := by decide +kernel
theorem d2_30 : decode prog_23_method_1_code 30 = .ok (.aload_n 0, 1) := by decide +kernel
theorem d2_31 : decode prog_23_method_1_code 31 = .ok (.bipush 64, 2) := by decide +kernel
theorem d2_33 : decode prog_23_method_1_code 33 = .ok (.newarray .long, 2) := by decide +kernel
theorem d2_35 : decode prog_23_method_1_code 35 = .ok (.putfield 24, 3) := by decide +kernel
theorem d2_38 : decode prog_23_method_1_code 38 = .ok (.return_, 1) := by decide +kernel
theorem pn_2 : plainName "com/example/redelivery/redelivery/RadixHeap" = true := by first | (simp [plainName, overriddenIn]; done) | decide +kernel
theorem ef_2 (m : MethodId) (o0 : Addr) : entryFrame m #[(.ref o0)] 1 = mkF m 0 #[.val (.ref o0)] [] := by first | (simp [entryFrame, mkF, argsToLocals, Value.category]; done) | rfl
def QI (Z : State) (o0 : Addr) (M : Int64) (n0 : Nat) (v : Option Value) (h : Heap) (L : List Loc) : Prop := v = none ∧ Fr n0 L ∧ RH Z h n0 o0 (0 : Int32) (0 : Int64) M
set_option maxRecDepth 65536 in
set_option maxHeartbeats 40000000 in
theorem rm2 (l : Launch) (Z : State) (a0 : Array Value) (hw : ∀ d ∈ tables_1, d.before a0 Z = true) (ws : List Jvm.Cond) (o0 : Addr) (M : Int64) (h0 : Heap) (n0 : Nat) (Z0 : n0 ≤ h0.size) (E_o0 : Exa Z h0 o0 "com/example/redelivery/redelivery/RadixHeap") (g_o0 : n0 ≤ o0) (F_keys : Fld Z h0 o0 "com/example/redelivery/redelivery/RadixHeap" "keys" "[[J" .null) (F_values : Fld Z h0 o0 "com/example/redelivery/redelivery/RadixHeap" "values" "[[J" .null) (F_sizes : Fld Z h0 o0 "com/example/redelivery/redelivery/RadixHeap" "sizes" "[I" .null) (F_leastKeys : Fld Z h0 o0 "com/example/redelivery/redelivery/RadixHeap" "leastKeys" "[J" .null) (F_inUse : Fld Z h0 o0 "com/example/redelivery/redelivery/RadixHeap" "inUse" "J" (.long (0 : Int64))) (F_last : Fld Z h0 o0 "com/example/redelivery/redelivery/RadixHeap" "last" "J" (.long (0 : Int64))) (F_size : Fld Z h0 o0 "com/example/redelivery/redelivery/RadixHeap" "size" "I" (.int (0 : Int32))) :
    MetFree l (⟨"com/example/redelivery/redelivery/RadixHeap", "<init>", "()V"⟩ : MethodName) (head1 (Jvm.Cond.code (⟨"com/example/redelivery/redelivery/RadixHeap", "<init>", "()V"⟩ : MethodName) prog_23_method_1_code 1 none :: ws) ({ frames := 1, cells := 4, slots := 256, locals := 12 } : Room)) (fun a U => a = #[(.ref o0)] ∧ Z.Warmed39 U.vm ∧ U.heap = h0) (fun _ _ _ _ _ => True) (fun _ U o U' => ∃ v L, o = .returned v ∧ (QI Z o0 M n0) v U'.heap L ∧ FrameEnd U o U' L ({ frames := 1, cells := 4, slots := 256, locals := 12 } : Room).cells ({ frames := 1, cells := 4, slots := 256, locals := 12 } : Room).slots) := by
  refine MetFree.of_bodySF (plainFor_of_name pn_2) hisR ?_
  intro p e s m args below meth c s₁ Bd hml0 hP hK
  obtain ⟨rfl, hZ, hh⟩ := hP
  have hx := Bd.exec
  have hby := Bd.bytes
  have hlk : meth.locks = false := BodyLoose.notSynchronized Bd
  have hml : c.maxLocals = 1 := hml0
  have hown : s.vm.findClass "com/example/redelivery/redelivery/RadixHeap" = some m.cls := findClass_of_methodNamed Bd.named
  have hnm := (name_of_methodNamed Bd.named Bd.method).1
  have X0 : Stand p l e ({ frames := 1, cells := 4, slots := 256, locals := 12 } : Room) s m #[(.ref o0)] below meth c s₁ ([] : List Loc) 0 0 := Stand.of_body Bd
  have e0 : s₁.heap = h0 := by rw [← hh, Bd.state]; rfl
  show Go p e below s 4 256 (QI Z o0 M n0) s₁ (entryFrame m #[(.ref o0)] 1)
  rw [ef_2 m o0]
  have N0 := Fr.nil n0
  refine Go.step (g' := (mkF m 1 #[.val (.ref o0)] [(.ref o0)])) (fun _ k => XS.aloadN X0.here hx rfl (hb hby d2_0) rfl rfl  k) ?_
  obtain ⟨T1, X1, e1, st1⟩ := initO X0 hx hZ hown (hw _ (List.mem_of_getElem? (i := 11) rfl)) (hw _ (List.mem_of_getElem? (i := 12) rfl)) (hw _ (List.mem_of_getElem? (i := 13) rfl)) e0 (g := (mkF m 1 #[.val (.ref o0)] [(.ref o0)])) rfl (by rw [hml]; rfl) rfl (hb hby d2_1) (by decide) (W := 0) (by show 2 * 0 + _ ≤ _; exact Nat.le_of_eq rfl) (by decide)
  refine Go.step (g' := (mkF m 4 #[.val (.ref o0)] [])) st1 ?_
  refine Go.step (g' := (mkF m 5 #[.val (.ref o0)] [(.ref o0)])) (fun _ k => XS.aloadN X1.here hx rfl (hb hby d2_4) rfl rfl  k) ?_
  refine Go.step (g' := (mkF m 7 #[.val (.ref o0)] [(.int (64 : Int32)), (.ref o0)])) (fun _ k => XS.bipush X1.here hx rfl (hb hby d2_5) k) ?_
  obtain ⟨T2, h2, k2, X2, e2, E2, A2, -, O2, st2⟩ := newRA X1 hx hZ hown (ty := .long) (C := "[J") (by decide +kernel) (hw _ (List.mem_of_getElem? (i := 14) rfl)) (hw _ (List.mem_of_getElem? (i := 15) rfl)) e1 (g := (mkF m 7 #[.val (.ref o0)] [(.int (64 : Int32)), (.ref o0)])) rfl (hb hby d2_7) rfl (by decide) (cap := 64) (by decide) (by decide) (by decide) (by decide) rfl
  obtain ⟨b2, g2⟩ : ∃ z, z = h0.size := ⟨_, rfl⟩
  rw [← g2] at A2 st2
  have ne_o0_b2 : o0 ≠ b2 := Nat.ne_of_lt (Nat.lt_of_lt_of_le F_keys.lt (Nat.le_of_eq g2.symm))
  have g_b2 : n0 ≤ b2 := Nat.le_trans Z0 (Nat.le_of_eq g2.symm)
  have sz_b2 : h0.size ≤ b2 := Nat.le_trans (Keep.refl h0 [o0]).1 (Nat.le_of_eq g2.symm)
  have V2 : RA Z h2 b2 (fun _ => Value.null) := RA.of_new A2 O2
  refine Go.step (g' := (mkF m 10 #[.val (.ref o0)] [(.ref b2), (.ref o0)])) st2 ?_
  obtain ⟨T3, h3, X3, e3, W3, st3⟩ := putF X2 hx hZ hown (host := "") (Or.inl (hw _ (List.mem_of_getElem? (i := 16) rfl))) Via.refl e2 (F_keys.ext E2) (E_o0.ext E2) (Or.inr ⟨(hw _ (List.mem_of_getElem? (i := 17) rfl)), rfl, hnm⟩) (hw _ (List.mem_of_getElem? (i := 6) rfl)) (ty := (.array (.array .long))) (by decide) rfl rfl (g := (mkF m 10 #[.val (.ref o0)] [(.ref b2), (.ref o0)])) rfl rfl (hb hby d2_10)
  obtain ⟨lc3, X3, N3⟩ := own_pack X3 (Fr.snoc X3 N0 g_o0)
  have Fw3 := (F_keys.ext E2).same W3
  refine Go.step (g' := (mkF m 13 #[.val (.ref o0)] [])) st3 ?_
  have Q4 := ((F_values.ext E2).other W3 (Or.inr (slot_ne (Or.inr (hw _ (List.mem_of_getElem? (i := 19) rfl))) (Or.inr (hw _ (List.mem_of_getElem? (i := 17) rfl))) (by decide) (t := (.array (.array .long))) (t' := (.array (.array .long))) (by decide) (by decide))))
  have Q5 := ((F_sizes.ext E2).other W3 (Or.inr (slot_ne (Or.inr (hw _ (List.mem_of_getElem? (i := 22) rfl))) (Or.inr (hw _ (List.mem_of_getElem? (i := 17) rfl))) (by decide) (t := (.array .int)) (t' := (.array (.array .long))) (by decide) (by decide))))
  have Q6 := ((F_leastKeys.ext E2).other W3 (Or.inr (slot_ne (Or.inr (hw _ (List.mem_of_getElem? (i := 25) rfl))) (Or.inr (hw _ (List.mem_of_getElem? (i := 17) rfl))) (by decide) (t := (.array .long)) (t' := (.array (.array .long))) (by decide) (by decide))))
  have Q7 := ((F_inUse.ext E2).other W3 (Or.inr (slot_ne (Or.inl (hw _ (List.mem_of_getElem? (i := 63) rfl))) (Or.inr (hw _ (List.mem_of_getElem? (i := 17) rfl))) (by decide) (t := .long) (t' := (.array (.array .long))) (by decide) (by decide))))
  have Q8 := ((F_last.ext E2).other W3 (Or.inr (slot_ne (Or.inl (hw _ (List.mem_of_getElem? (i := 43) rfl))) (Or.inr (hw _ (List.mem_of_getElem? (i := 17) rfl))) (by decide) (t := .long) (t' := (.array (.array .long))) (by decide) (by decide))))
  have Q9 := ((F_size.ext E2).other W3 (Or.inr (slot_ne (Or.inl (hw _ (List.mem_of_getElem? (i := 36) rfl))) (Or.inr (hw _ (List.mem_of_getElem? (i := 17) rfl))) (by decide) (t := .int) (t' := (.array (.array .long))) (by decide) (by decide))))
  have Q10 := (((Keep.refl h0 [o0]).ext E2).wr W3 (Or.inl (List.mem_of_getElem? (i := 0) rfl)))
  refine Go.step (g' := (mkF m 14 #[.val (.ref o0)] [(.ref o0)])) (fun _ k => XS.aloadN X3.here hx rfl (hb hby d2_13) rfl rfl  k) ?_
  refine Go.step (g' := (mkF m 16 #[.val (.ref o0)] [(.int (64 : Int32)), (.ref o0)])) (fun _ k => XS.bipush X3.here hx rfl (hb hby d2_14) k) ?_
  obtain ⟨T11, h11, k11, X11, e11, E11, A11, -, O11, st11⟩ := newRA X3 hx hZ hown (ty := .long) (C := "[J") (by decide +kernel) (hw _ (List.mem_of_getElem? (i := 14) rfl)) (hw _ (List.mem_of_getElem? (i := 15) rfl)) e3 (g := (mkF m 16 #[.val (.ref o0)] [(.int (64 : Int32)), (.ref o0)])) rfl (hb hby d2_16) rfl (by decide) (cap := 64) (by decide) (by decide) (by decide) (by decide) rfl
  obtain ⟨b11, g11⟩ : ∃ z, z = h3.size := ⟨_, rfl⟩
  rw [← g11] at A11 st11
  have ne_o0_b11 : o0 ≠ b11 := Nat.ne_of_lt (Nat.lt_of_lt_of_le Q4.lt (Nat.le_of_eq g11.symm))
  have ne_b2_b11 : b2 ≠ b11 := Nat.ne_of_lt (Nat.lt_of_lt_of_le (V2.other W3 (Ne.symm ne_o0_b2)).lt (Nat.le_of_eq g11.symm))
  have g_b11 : n0 ≤ b11 := Nat.le_trans (Nat.le_trans (Nat.le_trans Z0 E2.1) (Keep.of_wr W3).1) (Nat.le_of_eq g11.symm)
  have sz_b11 : h0.size ≤ b11 := Nat.le_trans Q10.1 (Nat.le_of_eq g11.symm)
  have V11 : RA Z h11 b11 (fun _ => Value.null) := RA.of_new A11 O11
  refine Go.step (g' := (mkF m 19 #[.val (.ref o0)] [(.ref b11), (.ref o0)])) st11 ?_
  have Q12 := (Nat.le_trans (Nat.le_trans (Nat.le_trans Z0 E2.1) (Keep.of_wr W3).1) E11.1)
  obtain ⟨T13, h13, X13, e13, W13, st13⟩ := putF X11 hx hZ hown (host := "") (Or.inl (hw _ (List.mem_of_getElem? (i := 18) rfl))) Via.refl e11 (Q4.ext E11) (((E_o0.ext E2).wr W3).ext E11) (Or.inr ⟨(hw _ (List.mem_of_getElem? (i := 19) rfl)), rfl, hnm⟩) (hw _ (List.mem_of_getElem? (i := 6) rfl)) (ty := (.array (.array .long))) (by decide) rfl rfl (g := (mkF m 19 #[.val (.ref o0)] [(.ref b11), (.ref o0)])) rfl rfl (hb hby d2_19)
  obtain ⟨lc13, X13, N13⟩ := own_pack X13 (Fr.snoc X13 N3 g_o0)
  have Fw13 := (Q4.ext E11).same W13
  refine Go.step (g' := (mkF m 22 #[.val (.ref o0)] [])) st13 ?_
  have Q14 := ((Q5.ext E11).other W13 (Or.inr (slot_ne (Or.inr (hw _ (List.mem_of_getElem? (i := 22) rfl))) (Or.inr (hw _ (List.mem_of_getElem? (i := 19) rfl))) (by decide) (t := (.array .int)) (t' := (.array (.array .long))) (by decide) (by decide))))
  have Q15 := ((Q6.ext E11).other W13 (Or.inr (slot_ne (Or.inr (hw _ (List.mem_of_getElem? (i := 25) rfl))) (Or.inr (hw _ (List.mem_of_getElem? (i := 19) rfl))) (by decide) (t := (.array .long)) (t' := (.array (.array .long))) (by decide) (by decide))))
  have Q16 := ((Q7.ext E11).other W13 (Or.inr (slot_ne (Or.inl (hw _ (List.mem_of_getElem? (i := 63) rfl))) (Or.inr (hw _ (List.mem_of_getElem? (i := 19) rfl))) (by decide) (t := .long) (t' := (.array (.array .long))) (by decide) (by decide))))
  have Q17 := ((Q8.ext E11).other W13 (Or.inr (slot_ne (Or.inl (hw _ (List.mem_of_getElem? (i := 43) rfl))) (Or.inr (hw _ (List.mem_of_getElem? (i := 19) rfl))) (by decide) (t := .long) (t' := (.array (.array .long))) (by decide) (by decide))))
  have Q18 := ((Q9.ext E11).other W13 (Or.inr (slot_ne (Or.inl (hw _ (List.mem_of_getElem? (i := 36) rfl))) (Or.inr (hw _ (List.mem_of_getElem? (i := 19) rfl))) (by decide) (t := .int) (t' := (.array (.array .long))) (by decide) (by decide))))
  have Q19 := (((V2.other W3 (Ne.symm ne_o0_b2)).ext E11).other W13 (Ne.symm ne_o0_b2))
  have Q20 := ((Fw3.ext E11).other W13 (Or.inr (slot_ne (Or.inr (hw _ (List.mem_of_getElem? (i := 17) rfl))) (Or.inr (hw _ (List.mem_of_getElem? (i := 19) rfl))) (by decide) (t := (.array (.array .long))) (t' := (.array (.array .long))) (by decide) (by decide))))
  have Q21 := ((Q10.ext E11).wr W13 (Or.inl (List.mem_of_getElem? (i := 0) rfl)))
  refine Go.step (g' := (mkF m 23 #[.val (.ref o0)] [(.ref o0)])) (fun _ k => XS.aloadN X13.here hx rfl (hb hby d2_22) rfl rfl  k) ?_
  refine Go.step (g' := (mkF m 25 #[.val (.ref o0)] [(.int (64 : Int32)), (.ref o0)])) (fun _ k => XS.bipush X13.here hx rfl (hb hby d2_23) k) ?_
  obtain ⟨T22, h22, k22, X22, e22, E22, A22, st22⟩ := newP X13 hx hZ (hw _ (List.mem_of_getElem? (i := 20) rfl)) e13 (g := (mkF m 25 #[.val (.ref o0)] [(.int (64 : Int32)), (.ref o0)])) rfl (hb hby d2_25) rfl (by decide) (cap := 64) (by decide) (by decide) (by decide) (by decide)
  obtain ⟨b22, g22⟩ : ∃ z, z = h13.size := ⟨_, rfl⟩
  rw [← g22] at A22 st22
  have ne_o0_b22 : o0 ≠ b22 := Nat.ne_of_lt (Nat.lt_of_lt_of_le Q14.lt (Nat.le_of_eq g22.symm))
  have ne_b2_b22 : b2 ≠ b22 := Nat.ne_of_lt (Nat.lt_of_lt_of_le Q19.lt (Nat.le_of_eq g22.symm))
  have ne_b11_b22 : b11 ≠ b22 := Nat.ne_of_lt (Nat.lt_of_lt_of_le (V11.other W13 (Ne.symm ne_o0_b11)).lt (Nat.le_of_eq g22.symm))
  have g_b22 : n0 ≤ b22 := Nat.le_trans (Nat.le_trans Q12 (Keep.of_wr W13).1) (Nat.le_of_eq g22.symm)
  have sz_b22 : h0.size ≤ b22 := Nat.le_trans Q21.1 (Nat.le_of_eq g22.symm)
  have V22 : IA Z h22 b22 .int 64 (fun k => .int ((fun _ => (0 : Int32)) k)) := IA.of_new A22 (by decide)
  refine Go.step (g' := (mkF m 27 #[.val (.ref o0)] [(.ref b22), (.ref o0)])) st22 ?_
  obtain ⟨T23, h23, X23, e23, W23, st23⟩ := putF X22 hx hZ hown (host := "") (Or.inl (hw _ (List.mem_of_getElem? (i := 21) rfl))) Via.refl e22 (Q14.ext E22) (((((E_o0.ext E2).wr W3).ext E11).wr W13).ext E22) (Or.inr ⟨(hw _ (List.mem_of_getElem? (i := 22) rfl)), rfl, hnm⟩) (hw _ (List.mem_of_getElem? (i := 6) rfl)) (ty := (.array .int)) (by decide) rfl rfl (g := (mkF m 27 #[.val (.ref o0)] [(.ref b22), (.ref o0)])) rfl rfl (hb hby d2_27)
  obtain ⟨lc23, X23, N23⟩ := own_pack X23 (Fr.snoc X23 N13 g_o0)
  have Fw23 := (Q14.ext E22).same W23
  refine Go.step (g' := (mkF m 30 #[.val (.ref o0)] [])) st23 ?_
  have Q24 := ((Q15.ext E22).other W23 (Or.inr (slot_ne (Or.inr (hw _ (List.mem_of_getElem? (i := 25) rfl))) (Or.inr (hw _ (List.mem_of_getElem? (i := 22) rfl))) (by decide) (t := (.array .long)) (t' := (.array .int)) (by decide) (by decide))))
  have Q25 := ((Q16.ext E22).other W23 (Or.inr (slot_ne (Or.inl (hw _ (List.mem_of_getElem? (i := 63) rfl))) (Or.inr (hw _ (List.mem_of_getElem? (i := 22) rfl))) (by decide) (t := .long) (t' := (.array .int)) (by decide) (by decide))))
  have Q26 := ((Q17.ext E22).other W23 (Or.inr (slot_ne (Or.inl (hw _ (List.mem_of_getElem? (i := 43) rfl))) (Or.inr (hw _ (List.mem_of_getElem? (i := 22) rfl))) (by decide) (t := .long) (t' := (.array .int)) (by decide) (by decide))))
  have Q27 := ((Q18.ext E22).other W23 (Or.inr (slot_ne (Or.inl (hw _ (List.mem_of_getElem? (i := 36) rfl))) (Or.inr (hw _ (List.mem_of_getElem? (i := 22) rfl))) (by decide) (t := .int) (t' := (.array .int)) (by decide) (by decide))))
  have Q28 := ((Q20.ext E22).other W23 (Or.inr (slot_ne (Or.inr (hw _ (List.mem_of_getElem? (i := 17) rfl))) (Or.inr (hw _ (List.mem_of_getElem? (i := 22) rfl))) (by decide) (t := (.array (.array .long))) (t' := (.array .int)) (by decide) (by decide))))
  have Q29 := (((V11.other W13 (Ne.symm ne_o0_b11)).ext E22).other W23 (Ne.symm ne_o0_b11))
  have Q30 := ((Fw13.ext E22).other W23 (Or.inr (slot_ne (Or.inr (hw _ (List.mem_of_getElem? (i := 19) rfl))) (Or.inr (hw _ (List.mem_of_getElem? (i := 22) rfl))) (by decide) (t := (.array (.array .long))) (t' := (.array .int)) (by decide) (by decide))))
  have Q31 := (Nat.le_trans (Nat.le_trans (Nat.le_trans Q12 (Keep.of_wr W13).1) E22.1) (Keep.of_wr W23).1)
  have Q32 := ((Q21.ext E22).wr W23 (Or.inl (List.mem_of_getElem? (i := 0) rfl)))
  refine Go.step (g' := (mkF m 31 #[.val (.ref o0)] [(.ref o0)])) (fun _ k => XS.aloadN X23.here hx rfl (hb hby d2_30) rfl rfl  k) ?_
  refine Go.step (g' := (mkF m 33 #[.val (.ref o0)] [(.int (64 : Int32)), (.ref o0)])) (fun _ k => XS.bipush X23.here hx rfl (hb hby d2_31) k) ?_
  obtain ⟨T33, h33, k33, X33, e33, E33, A33, st33⟩ := newP X23 hx hZ (hw _ (List.mem_of_getElem? (i := 23) rfl)) e23 (g := (mkF m 33 #[.val (.ref o0)] [(.int (64 : Int32)), (.ref o0)])) rfl (hb hby d2_33) rfl (by decide) (cap := 64) (by decide) (by decide) (by decide) (by decide)
  obtain ⟨b33, g33⟩ : ∃ z, z = h23.size := ⟨_, rfl⟩
  rw [← g33] at A33 st33
  have ne_o0_b33 : o0 ≠ b33 := Nat.ne_of_lt (Nat.lt_of_lt_of_le Q24.lt (Nat.le_of_eq g33.symm))
  have ne_b2_b33 : b2 ≠ b33 := Nat.ne_of_lt (Nat.lt_of_lt_of_le ((Q19.ext E22).other W23 (Ne.symm ne_o0_b2)).lt (Nat.le_of_eq g33.symm))
  have ne_b11_b33 : b11 ≠ b33 := Nat.ne_of_lt (Nat.lt_of_lt_of_le Q29.lt (Nat.le_of_eq g33.symm))
  have ne_b22_b33 : b22 ≠ b33 := Nat.ne_of_lt (Nat.lt_of_lt_of_le (V22.other W23 (Ne.symm ne_o0_b22)).lt (Nat.le_of_eq g33.symm))
  have g_b33 : n0 ≤ b33 := Nat.le_trans Q31 (Nat.le_of_eq g33.symm)
  have sz_b33 : h0.size ≤ b33 := Nat.le_trans Q32.1 (Nat.le_of_eq g33.symm)
  have V33 : IA Z h33 b33 .long 64 (fun k => .long ((fun _ => (0 : Int64)) k)) := IA.of_new A33 (by decide)
  refine Go.step (g' := (mkF m 35 #[.val (.ref o0)] [(.ref b33), (.ref o0)])) st33 ?_
  have Q34 := (((((((E_o0.ext E2).wr W3).ext E11).wr W13).ext E22).wr W23).ext E33)
  obtain ⟨T35, h35, X35, e35, W35, st35⟩ := putF X33 hx hZ hown (host := "") (Or.inl (hw _ (List.mem_of_getElem? (i := 24) rfl))) Via.refl e33 (Q24.ext E33) Q34 (Or.inr ⟨(hw _ (List.mem_of_getElem? (i := 25) rfl)), rfl, hnm⟩) (hw _ (List.mem_of_getElem? (i := 6) rfl)) (ty := (.array .long)) (by decide) rfl rfl (g := (mkF m 35 #[.val (.ref o0)] [(.ref b33), (.ref o0)])) rfl rfl (hb hby d2_35)
  obtain ⟨lc35, X35, N35⟩ := own_pack X35 (Fr.snoc X35 N23 g_o0)
  have Fw35 := (Q24.ext E33).same W35
  refine Go.step (g' := (mkF m 38 #[.val (.ref o0)] [])) st35 ?_
  have Q36 := ((Q25.ext E33).other W35 (Or.inr (slot_ne (Or.inl (hw _ (List.mem_of_getElem? (i := 63) rfl))) (Or.inr (hw _ (List.mem_of_getElem? (i := 25) rfl))) (by decide) (t := .long) (t' := (.array .long)) (by decide) (by decide))))
  have Q37 := ((Q26.ext E33).other W35 (Or.inr (slot_ne (Or.inl (hw _ (List.mem_of_getElem? (i := 43) rfl))) (Or.inr (hw _ (List.mem_of_getElem? (i := 25) rfl))) (by decide) (t := .long) (t' := (.array .long)) (by decide) (by decide))))
  have Q38 := ((Q27.ext E33).other W35 (Or.inr (slot_ne (Or.inl (hw _ (List.mem_of_getElem? (i := 36) rfl))) (Or.inr (hw _ (List.mem_of_getElem? (i := 25) rfl))) (by decide) (t := .int) (t' := (.array .long)) (by decide) (by decide))))
  have Q39 := ((((Q19.ext E22).other W23 (Ne.symm ne_o0_b2)).ext E33).other W35 (Ne.symm ne_o0_b2))
  have Q40 := ((Q28.ext E33).other W35 (Or.inr (slot_ne (Or.inr (hw _ (List.mem_of_getElem? (i := 17) rfl))) (Or.inr (hw _ (List.mem_of_getElem? (i := 25) rfl))) (by decide) (t := (.array (.array .long))) (t' := (.array .long)) (by decide) (by decide))))
  have Q41 := ((Q30.ext E33).other W35 (Or.inr (slot_ne (Or.inr (hw _ (List.mem_of_getElem? (i := 19) rfl))) (Or.inr (hw _ (List.mem_of_getElem? (i := 25) rfl))) (by decide) (t := (.array (.array .long))) (t' := (.array .long)) (by decide) (by decide))))
  have Q42 := (((V22.other W23 (Ne.symm ne_o0_b22)).ext E33).other W35 (Ne.symm ne_o0_b22))
  have Q43 := ((Fw23.ext E33).other W35 (Or.inr (slot_ne (Or.inr (hw _ (List.mem_of_getElem? (i := 22) rfl))) (Or.inr (hw _ (List.mem_of_getElem? (i := 25) rfl))) (by decide) (t := (.array .int)) (t' := (.array .long)) (by decide) (by decide))))
  have Q44 := ((Q32.ext E33).wr W35 (Or.inl (List.mem_of_getElem? (i := 0) rfl)))
  exact Go.ret0 X35 hx hlk Bd.returns (hb hby d2_38) (by decide) (by decide) (by rw [e35]; exact ⟨rfl, N35, own_init ⟨(Q34.wr W35), Q40, Q41, Q43, Fw35, Q36, Q37, Q38, Q39, ((Q29.ext E33).other W35 (Ne.symm ne_o0_b11)), Q42, (V33.other W35 (Ne.symm ne_o0_b33))⟩ ne_o0_b2 ne_o0_b11 ne_o0_b22 ne_o0_b33 ne_b2_b11 ne_b2_b22 ne_b2_b33 ne_b11_b22 ne_b11_b33 ne_b22_b33 g_o0 g_b2 g_b11 g_b22 g_b33⟩)
theorem d10_0 : decode prog_23_method_10_code 0 = .ok (.aload_n 0, 1) := by decide +kernel
theorem d10_1 : decode prog_23_method_10_code 1 = .ok (.getfield 20, 3) := by decide +kernel
theorem d10_4 : decode prog_23_method_10_code 4 = .ok (.iload_n 1, 1) := by decide +kernel
theorem d10_5 : decode prog_23_method_10_code 5 = .ok (.iaload, 1) := by decide +kernel
theorem d10_6 : decode prog_23_method_10_code 6 = .ok (.istore 6, 2) := by decide +kernel
theorem d10_8 : decode prog_23_method_10_code 8 = .ok (.aload_n 0, 1) := by decide +kernel
theorem d10_9 : decode prog_23_method_10_code 9 = .ok (.getfield 13, 3) := by decide +kernel
theorem d10_12 : decode prog_23_method_10_code 12 = .ok (.iload_n 1, 1) := by decide +kernel
theorem d10_13 : decode prog_23_method_10_code 13 = .ok (.aaload, 1) := by decide +kernel
theorem d10_14 : decode prog_23_method_10_code 14 = .ok (.ifnonnull 26, 3) := by decide +kernel
theorem d10_17 : decode prog_23_method_10_code 17 = .ok (.aload_n 0, 1) := by decide +kernel
theorem d10_18 : decode prog_23_method_10_code 18 = .ok (.getfield 13, 3) := by decide +kernel
theorem d10_21 : decode prog_23_method_10_code 21 = .ok (.iload_n 1, 1) := by decide +kernel
theorem d10_22 : decode prog_23_method_10_code 22 = .ok (.bipush 16, 2) := by decide +kernel
theorem d10_24 : decode prog_23_method_10_code 24 = .ok (.newarray .long, 2) := by decide +kernel
theorem d10_26 : decode prog_23_method_10_code 26 = .ok (.aastore, 1) := by decide +kernel
theorem d10_27 : decode prog_23_method_10_code 27 = .ok (.aload_n 0, 1) := by decide +kernel
theorem d10_28 : decode prog_23_method_10_code 28 = .ok (.getfield 17, 3) := by decide +kernel
theorem d10_31 : decode prog_23_method_10_code 31 = .ok (.iload_n 1, 1) := by decide +kernel
theorem d10_32 : decode prog_23_method_10_code 32 = .ok (.bipush 16, 2) := by decide +kernel
theorem d10_34 : decode prog_23_method_10_code 34 = .ok (.newarray .long, 2) := by decide +kernel
theorem d10_36 : decode prog_23_method_10_code 36 = .ok (.aastore, 1) := by decide +kernel
theorem d10_37 : decode prog_23_method_10_code 37 = .ok (.goto 53, 3) := by decide +kernel
theorem d10_40 : decode prog_23_method_10_code 40 = .ok (.iload 6, 2) := by decide +kernel
theorem d10_42 : decode prog_23_method_10_code 42 = .ok (.aload_n 0, 1) := by decide +kernel
theorem d10_43 : decode prog_23_method_10_code 43 = .ok (.getfield 13, 3) := by decide +kernel
theorem d10_46 : decode prog_23_method_10_code 46 = .ok (.iload_n 1, 1) := by decide +kernel
theorem d10_47 : decode prog_23_method_10_code 47 = .ok (.aaload, 1) := by decide +kernel
theorem d10_48 : decode prog_23_method_10_code 48 = .ok (.arraylength, 1) := by decide +kernel
theorem d10_49 : decode prog_23_method_10_code 49 = .ok (.if_icmp .ne 41, 3) := by decide +kernel
theorem d10_90 : decode prog_23_method_10_code 90 = .ok (.aload_n 0, 1) := by decide +kernel
theorem d10_91 : decode prog_23_method_10_code 91 = .ok (.getfield 13, 3) := by decide +kernel
theorem d10_94 : decode prog_23_method_10_code 94 = .ok (.iload_n 1, 1) := by decide +kernel
theorem d10_95 : decode prog_23_method_10_code 95 = .ok (.aaload, 1) := by decide +kernel
theorem d10_96 : decode prog_23_method_10_code 96 = .ok (.iload 6, 2) := by decide +kernel
theorem d10_98 : decode prog_23_method_10_code 98 = .ok (.lload_n 2, 1) := by decide +kernel
theorem d10_99 : decode prog_23_method_10_code 99 = .ok (.lastore, 1) := by decide +kernel
theorem d10_100 : decode prog_23_method_10_code 100 = .ok (.aload_n 0, 1) := by decide +kernel
theorem d10_101 : decode prog_23_method_10_code 101 = .ok (.getfield 17, 3) := by decide +kernel
theorem d10_104 : decode prog_23_method_10_code 104 = .ok (.iload_n 1, 1) := by decide +kernel
theorem d10_105 : decode prog_23_method_10_code 105 = .ok (.aaload, 1) := by decide +kernel
theorem d10_106 : decode prog_23_method_10_code 106 = .ok (.iload 6, 2) := by decide +kernel
theorem d10_108 : decode prog_23_method_10_code 108 = .ok (.lload 4, 2) := by decide +kernel
theorem d10_110 : decode prog_23_method_10_code 110 = .ok (.lastore, 1) := by decide +kernel
theorem d10_111 : decode prog_23_method_10_code 111 = .ok (.aload_n 0, 1) := by decide +kernel
theorem d10_112 : decode prog_23_method_10_code 112 = .ok (.getfield 24, 3) := by decide +kernel
theorem d10_115 : decode prog_23_method_10_code 115 = .ok (.iload_n 1, 1) := by decide +kernel
theorem d10_116 : decode prog_23_method_10_code 116 = .ok (.iload 6, 2) := by decide +kernel
theorem d10_118 : decode prog_23_method_10_code 118 = .ok (.ifCond .ne 7, 3) := by decide +kernel
theorem d10_121 : decode prog_23_method_10_code 121 = .ok (.lload_n 2, 1) := by decide +kernel
theorem d10_122 : decode prog_23_method_10_code 122 = .ok (.goto 13, 3) := by decide +kernel
theorem d10_125 : decode prog_23_method_10_code 125 = .ok (.aload_n 0, 1) := by decide +kernel
theorem d10_126 : decode prog_23_method_10_code 126 = .ok (.getfield 24, 3) := by decide +kernel
theorem d10_129 : decode prog_23_method_10_code 129 = .ok (.iload_n 1, 1) := by decide +kernel
theorem d10_130 : decode prog_23_method_10_code 130 = .ok (.laload, 1) := by decide +kernel
theorem d10_131 : decode prog_23_method_10_code 131 = .ok (.lload_n 2, 1) := by decide +kernel
theorem d10_132 : decode prog_23_method_10_code 132 = .ok (.invokestatic 83, 3) := by decide +kernel
theorem d10_135 : decode prog_23_method_10_code 135 = .ok (.lastore, 1) := by decide +kernel
theorem d10_136 : decode prog_23_method_10_code 136 = .ok (.aload_n 0, 1) := by decide +kernel
theorem d10_137 : decode prog_23_method_10_code 137 = .ok (.getfield 20, 3) := by decide +kernel
theorem d10_140 : decode prog_23_method_10_code 140 = .ok (.iload_n 1, 1) := by decide +kernel
theorem d10_141 : decode prog_23_method_10_code 141 = .ok (.iload 6, 2) := by decide +kernel
theorem d10_143 : decode prog_23_method_10_code 143 = .ok (.iconst 1, 1) := by decide +kernel
theorem d10_144 : decode prog_23_method_10_code 144 = .ok (.iadd, 1) := by decide +kernel
theorem d10_145 : decode prog_23_method_10_code 145 = .ok (.iastore, 1) := by decide +kernel
theorem d10_146 : decode prog_23_method_10_code 146 = .ok (.aload_n 0, 1) := by decide +kernel
theorem d10_147 : decode prog_23_method_10_code 147 = .ok (.dup, 1) := by decide +kernel
theorem d10_148 : decode prog_23_method_10_code 148 = .ok (.getfield 55, 3) := by decide +kernel
theorem d10_151 : decode prog_23_method_10_code 151 = .ok (.lconst 1, 1) := by decide +kernel
theorem d10_152 : decode prog_23_method_10_code 152 = .ok (.iload_n 1, 1) := by decide +kernel
theorem d10_153 : decode prog_23_method_10_code 153 = .ok (.lshl, 1) := by decide +kernel
theorem d10_154 : decode prog_23_method_10_code 154 = .ok (.lor, 1) := by decide +kernel
theorem d10_155 : decode prog_23_method_10_code 155 = .ok (.putfield 55, 3) := by decide +kernel
theorem d10_158 : decode prog_23_method_10_code 158 = .ok (.return_, 1) := by decide +kernel
theorem pn_10 : plainName "com/example/redelivery/redelivery/RadixHeap" = true := by first | (simp [plainName, overriddenIn]; done) | decide +kernel
theorem ef_10 (m : MethodId) (o0 : Addr) (p1 : Int32) (q2 : Int64) (q3 : Int64) : entryFrame m #[(.ref o0), (.int p1), (.long q2), (.long q3)] 7 = mkF m 0 #[.val (.ref o0), .val (.int p1), .val (.long q2), .second, .val (.long q3), .second, .unset] [] := by first | (simp [entryFrame, mkF, argsToLocals, Value.category]; done) | rfl
set_option maxRecDepth 65536 in
set_option maxHeartbeats 40000000 in
theorem rm10a (l : Launch) (Z : State) (a0 : Array Value) (hw : ∀ d ∈ tables_1, d.before a0 Z = true) (ws : List Jvm.Cond) (o0 : Addr) (p1 : Int32) (q2 : Int64) (q3 : Int64) (ka : Addr) (va : Addr) (sa : Addr) (la : Addr) (tg : Addr → Nat) (kf : Nat → Value) (vf : Nat → Value) (sf : Nat → Int32) (lf : Nat → Int64) (u : Int64) (w : Int64) (z : Int32) (M : Int64) (n : Nat) (h0 : Heap) (n0 : Nat) (Z0 : n0 ≤ h0.size) (R0 : RF Z h0 o0 ka va sa la kf vf sf lf u w z) (G0 : TG tg o0 ka va sa la) (J0 : JJ Z h0 n0 tg M kf vf sf lf u n) (hbb : ¬ (p1 < 0 ∨ 64 ≤ p1.toNatClampNeg)) (hn : n < 16) (hk0 : ¬ q2 < 0) (hkM : ¬ M < q2) (hkn : kf p1.toNatClampNeg = .null) (hz : sf p1.toNatClampNeg = 0) :
    MetFree l (⟨"com/example/redelivery/redelivery/RadixHeap", "put", "(IJJ)V"⟩ : MethodName) (head1 (Jvm.Cond.code (⟨"com/example/redelivery/redelivery/RadixHeap", "put", "(IJJ)V"⟩ : MethodName) prog_23_method_10_code 7 none :: ws) ({ frames := 1, cells := 2, slots := 32, locals := 17 } : Room)) (fun a U => a = #[(.ref o0), (.int p1), (.long q2), (.long q3)] ∧ Z.Warmed39 U.vm ∧ U.heap = h0) (fun _ _ _ _ _ => True) (fun _ U o U' => ∃ v L, o = .returned v ∧ (QP Z h0 n0 o0 ka va sa la tg M sf w z n p1.toNatClampNeg) v U'.heap L ∧ FrameEnd U o U' L ({ frames := 1, cells := 2, slots := 32, locals := 17 } : Room).cells ({ frames := 1, cells := 2, slots := 32, locals := 17 } : Room).slots) := by
  refine MetFree.of_bodySF (plainFor_of_name pn_10) hisR ?_
  intro p e s m args below meth c s₁ Bd hml0 hP hK
  obtain ⟨rfl, hZ, hh⟩ := hP
  have hx := Bd.exec
  have hby := Bd.bytes
  have hlk : meth.locks = false := BodyLoose.notSynchronized Bd
  have hml : c.maxLocals = 7 := hml0
  have hown : s.vm.findClass "com/example/redelivery/redelivery/RadixHeap" = some m.cls := findClass_of_methodNamed Bd.named
  have hnm := (name_of_methodNamed Bd.named Bd.method).1
  have X0 : Stand p l e ({ frames := 1, cells := 2, slots := 32, locals := 17 } : Room) s m #[(.ref o0), (.int p1), (.long q2), (.long q3)] below meth c s₁ ([] : List Loc) 0 0 := Stand.of_body Bd
  have e0 : s₁.heap = h0 := by rw [← hh, Bd.state]; rfl
  show Go p e below s 2 32 (QP Z h0 n0 o0 ka va sa la tg M sf w z n p1.toNatClampNeg) s₁ (entryFrame m #[(.ref o0), (.int p1), (.long q2), (.long q3)] 7)
  rw [ef_10 m o0 p1 q2 q3]
  have N0 := Fr.nil n0
  have R0' := R0
  obtain ⟨E0, Fk0, Fv0, Fs0, Fl0, Fu0, Fw0, Fz0, Ak0, Av0, As0, Al0⟩ := R0'
  have n_o0_ka : o0 ≠ ka := own_tn G0.1 G0.2.1 (by decide)
  have n_o0_va : o0 ≠ va := own_tn G0.1 G0.2.2.1 (by decide)
  have n_o0_sa : o0 ≠ sa := own_tn G0.1 G0.2.2.2.1 (by decide)
  have n_o0_la : o0 ≠ la := own_tn G0.1 G0.2.2.2.2 (by decide)
  have n_ka_va : ka ≠ va := own_tn G0.2.1 G0.2.2.1 (by decide)
  have n_ka_sa : ka ≠ sa := own_tn G0.2.1 G0.2.2.2.1 (by decide)
  have n_ka_la : ka ≠ la := own_tn G0.2.1 G0.2.2.2.2 (by decide)
  have n_va_sa : va ≠ sa := own_tn G0.2.2.1 G0.2.2.2.1 (by decide)
  have n_va_la : va ≠ la := own_tn G0.2.2.1 G0.2.2.2.2 (by decide)
  have n_sa_la : sa ≠ la := own_tn G0.2.2.2.1 G0.2.2.2.2 (by decide)
  have g_o0 : n0 ≤ o0 := J0.2.2.2.2 _ (by rw [G0.1]; decide)
  have g_ka : n0 ≤ ka := J0.2.2.2.2 _ (by rw [G0.2.1]; decide)
  have g_va : n0 ≤ va := J0.2.2.2.2 _ (by rw [G0.2.2.1]; decide)
  have g_sa : n0 ≤ sa := J0.2.2.2.2 _ (by rw [G0.2.2.2.1]; decide)
  have g_la : n0 ≤ la := J0.2.2.2.2 _ (by rw [G0.2.2.2.2]; decide)
  refine Go.step (g' := (mkF m 1 #[.val (.ref o0), .val (.int p1), .val (.long q2), .second, .val (.long q3), .second, .unset] [(.ref o0)])) (fun _ k => XS.aloadN X0.here hx rfl (hb hby d10_0) rfl rfl  k) ?_
  obtain ⟨T1, X1, e1, st1⟩ := getF X0 hx hZ hown (host := "") (Or.inl (hw _ (List.mem_of_getElem? (i := 21) rfl))) Via.refl e0 Fs0 (g := (mkF m 1 #[.val (.ref o0), .val (.int p1), .val (.long q2), .second, .val (.long q3), .second, .unset] [(.ref o0)])) rfl rfl (hb hby d10_1)
  refine Go.step (g' := (mkF m 4 #[.val (.ref o0), .val (.int p1), .val (.long q2), .second, .val (.long q3), .second, .unset] [(.ref sa)])) st1 ?_
  refine Go.step (g' := (mkF m 5 #[.val (.ref o0), .val (.int p1), .val (.long q2), .second, .val (.long q3), .second, .unset] [(.int p1), (.ref sa)])) (fun _ k => XS.iloadN X1.here hx rfl (hb hby d10_4) rfl  k) ?_
  refine Go.step (g' := (mkF m 6 #[.val (.ref o0), .val (.int p1), .val (.long q2), .second, .val (.long q3), .second, .unset] [(.int (sf p1.toNatClampNeg))])) (fun _ k => getAI X1 hx hZ e1 As0 (j := p1) hbb (gf := (mkF m 5 #[.val (.ref o0), .val (.int p1), .val (.long q2), .second, .val (.long q3), .second, .unset] [(.int p1), (.ref sa)])) rfl rfl (hb hby d10_5) k) ?_
  refine Go.step (g' := (mkF m 8 #[.val (.ref o0), .val (.int p1), .val (.long q2), .second, .val (.long q3), .second, .val (.int (sf p1.toNatClampNeg))] [])) (fun _ k => XS.istore X1.here hx rfl (hb hby d10_6) rfl (l' := #[.val (.ref o0), .val (.int p1), .val (.long q2), .second, .val (.long q3), .second, .val (.int (sf p1.toNatClampNeg))]) rfl k) ?_
  rw [show (sf p1.toNatClampNeg) = (0 : Int32) from hz]
  refine Go.step (g' := (mkF m 9 #[.val (.ref o0), .val (.int p1), .val (.long q2), .second, .val (.long q3), .second, .val (.int (0 : Int32))] [(.ref o0)])) (fun _ k => XS.aloadN X1.here hx rfl (hb hby d10_8) rfl rfl  k) ?_
  obtain ⟨T2, X2, e2, st2⟩ := getF X1 hx hZ hown (host := "") (Or.inl (hw _ (List.mem_of_getElem? (i := 16) rfl))) Via.refl e1 Fk0 (g := (mkF m 9 #[.val (.ref o0), .val (.int p1), .val (.long q2), .second, .val (.long q3), .second, .val (.int (0 : Int32))] [(.ref o0)])) rfl rfl (hb hby d10_9)
  refine Go.step (g' := (mkF m 12 #[.val (.ref o0), .val (.int p1), .val (.long q2), .second, .val (.long q3), .second, .val (.int (0 : Int32))] [(.ref ka)])) st2 ?_
  refine Go.step (g' := (mkF m 13 #[.val (.ref o0), .val (.int p1), .val (.long q2), .second, .val (.long q3), .second, .val (.int (0 : Int32))] [(.int p1), (.ref ka)])) (fun _ k => XS.iloadN X2.here hx rfl (hb hby d10_12) rfl  k) ?_
  refine Go.step (g' := (mkF m 14 #[.val (.ref o0), .val (.int p1), .val (.long q2), .second, .val (.long q3), .second, .val (.int (0 : Int32))] [.null])) (fun _ k => getAV X2 hx hZ e2 Ak0 (j := p1) (v := .null) hbb hkn (gf := (mkF m 13 #[.val (.ref o0), .val (.int p1), .val (.long q2), .second, .val (.long q3), .second, .val (.int (0 : Int32))] [(.int p1), (.ref ka)])) rfl rfl (hb hby d10_13) k) ?_
  refine Go.step (g' := (mkF m 17 #[.val (.ref o0), .val (.int p1), .val (.long q2), .second, .val (.long q3), .second, .val (.int (0 : Int32))] [])) (fun _ k => XS.ifnonnullNo X2.here hx rfl (hb hby d10_14) rfl k) ?_
  skip
  refine Go.step (g' := (mkF m 18 #[.val (.ref o0), .val (.int p1), .val (.long q2), .second, .val (.long q3), .second, .val (.int (0 : Int32))] [(.ref o0)])) (fun _ k => XS.aloadN X2.here hx rfl (hb hby d10_17) rfl rfl  k) ?_
  obtain ⟨T3, X3, e3, st3⟩ := getF X2 hx hZ hown (host := "") (Or.inl (hw _ (List.mem_of_getElem? (i := 16) rfl))) Via.refl e2 Fk0 (g := (mkF m 18 #[.val (.ref o0), .val (.int p1), .val (.long q2), .second, .val (.long q3), .second, .val (.int (0 : Int32))] [(.ref o0)])) rfl rfl (hb hby d10_18)
  refine Go.step (g' := (mkF m 21 #[.val (.ref o0), .val (.int p1), .val (.long q2), .second, .val (.long q3), .second, .val (.int (0 : Int32))] [(.ref ka)])) st3 ?_
  refine Go.step (g' := (mkF m 22 #[.val (.ref o0), .val (.int p1), .val (.long q2), .second, .val (.long q3), .second, .val (.int (0 : Int32))] [(.int p1), (.ref ka)])) (fun _ k => XS.iloadN X3.here hx rfl (hb hby d10_21) rfl  k) ?_
  refine Go.step (g' := (mkF m 24 #[.val (.ref o0), .val (.int p1), .val (.long q2), .second, .val (.long q3), .second, .val (.int (0 : Int32))] [(.int (16 : Int32)), (.int p1), (.ref ka)])) (fun _ k => XS.bipush X3.here hx rfl (hb hby d10_22) k) ?_
  obtain ⟨T4, h4, k4, X4, e4, E4, A4, Q4x, st4⟩ := newPE X3 hx hZ (hw _ (List.mem_of_getElem? (i := 23) rfl)) e3 (g := (mkF m 24 #[.val (.ref o0), .val (.int p1), .val (.long q2), .second, .val (.long q3), .second, .val (.int (0 : Int32))] [(.int (16 : Int32)), (.int p1), (.ref ka)])) rfl (hb hby d10_24) rfl (by decide) (cap := 16) (by decide) (by decide) (by decide) (by decide) (ad := "[J") (by decide +kernel)
  obtain ⟨b4, g4⟩ : ∃ z, z = h0.size := ⟨_, rfl⟩
  rw [← g4] at A4 Q4x st4
  have ne_o0_b4 : o0 ≠ b4 := Nat.ne_of_lt (Nat.lt_of_lt_of_le E0.lt (Nat.le_of_eq g4.symm))
  have ne_ka_b4 : ka ≠ b4 := Nat.ne_of_lt (Nat.lt_of_lt_of_le Ak0.lt (Nat.le_of_eq g4.symm))
  have ne_va_b4 : va ≠ b4 := Nat.ne_of_lt (Nat.lt_of_lt_of_le Av0.lt (Nat.le_of_eq g4.symm))
  have ne_sa_b4 : sa ≠ b4 := Nat.ne_of_lt (Nat.lt_of_lt_of_le As0.lt (Nat.le_of_eq g4.symm))
  have ne_la_b4 : la ≠ b4 := Nat.ne_of_lt (Nat.lt_of_lt_of_le Al0.lt (Nat.le_of_eq g4.symm))
  have g_b4 : n0 ≤ b4 := Nat.le_trans Z0 (Nat.le_of_eq g4.symm)
  have sz_b4 : h0.size ≤ b4 := Nat.le_trans (Keep.refl h0 [o0, ka, va, sa, la]).1 (Nat.le_of_eq g4.symm)
  have V4 : IA Z h4 b4 .long 16 (fun k => .long ((fun _ => (0 : Int64)) k)) := IA.of_new A4 (by decide)
  refine Go.step (g' := (mkF m 26 #[.val (.ref o0), .val (.int p1), .val (.long q2), .second, .val (.long q3), .second, .val (.int (0 : Int32))] [(.ref b4), (.int p1), (.ref ka)])) st4 ?_
  obtain ⟨T5, h5, lc5, X5, e5, W5, N5, V5, st5⟩ := putAV X4 hx hZ e4 (Ak0.ext E4) (j := p1) (v := (.ref b4)) hbb N0 g_ka ((Ak0.ext E4).sto Q4x) (gf := (mkF m 26 #[.val (.ref o0), .val (.int p1), .val (.long q2), .second, .val (.long q3), .second, .val (.int (0 : Int32))] [(.ref b4), (.int p1), (.ref ka)])) rfl rfl (hb hby d10_26)
  refine Go.step (g' := (mkF m 27 #[.val (.ref o0), .val (.int p1), .val (.long q2), .second, .val (.long q3), .second, .val (.int (0 : Int32))] [])) st5 ?_
  have Q6 := (((Keep.refl h0 [o0, ka, va, sa, la]).ext E4).wr W5 (Or.inl (List.mem_of_getElem? (i := 1) rfl)))
  refine Go.step (g' := (mkF m 28 #[.val (.ref o0), .val (.int p1), .val (.long q2), .second, .val (.long q3), .second, .val (.int (0 : Int32))] [(.ref o0)])) (fun _ k => XS.aloadN X5.here hx rfl (hb hby d10_27) rfl rfl  k) ?_
  obtain ⟨T7, X7, e7, st7⟩ := getF X5 hx hZ hown (host := "") (Or.inl (hw _ (List.mem_of_getElem? (i := 18) rfl))) Via.refl e5 ((Fv0.ext E4).other W5 (Or.inl n_o0_ka)) (g := (mkF m 28 #[.val (.ref o0), .val (.int p1), .val (.long q2), .second, .val (.long q3), .second, .val (.int (0 : Int32))] [(.ref o0)])) rfl rfl (hb hby d10_28)
  refine Go.step (g' := (mkF m 31 #[.val (.ref o0), .val (.int p1), .val (.long q2), .second, .val (.long q3), .second, .val (.int (0 : Int32))] [(.ref va)])) st7 ?_
  refine Go.step (g' := (mkF m 32 #[.val (.ref o0), .val (.int p1), .val (.long q2), .second, .val (.long q3), .second, .val (.int (0 : Int32))] [(.int p1), (.ref va)])) (fun _ k => XS.iloadN X7.here hx rfl (hb hby d10_31) rfl  k) ?_
  refine Go.step (g' := (mkF m 34 #[.val (.ref o0), .val (.int p1), .val (.long q2), .second, .val (.long q3), .second, .val (.int (0 : Int32))] [(.int (16 : Int32)), (.int p1), (.ref va)])) (fun _ k => XS.bipush X7.here hx rfl (hb hby d10_32) k) ?_
  obtain ⟨T8, h8, k8, X8, e8, E8, A8, Q8x, st8⟩ := newPE X7 hx hZ (hw _ (List.mem_of_getElem? (i := 23) rfl)) e7 (g := (mkF m 34 #[.val (.ref o0), .val (.int p1), .val (.long q2), .second, .val (.long q3), .second, .val (.int (0 : Int32))] [(.int (16 : Int32)), (.int p1), (.ref va)])) rfl (hb hby d10_34) rfl (by decide) (cap := 16) (by decide) (by decide) (by decide) (by decide) (ad := "[J") (by decide +kernel)
  obtain ⟨b8, g8⟩ : ∃ z, z = h5.size := ⟨_, rfl⟩
  rw [← g8] at A8 Q8x st8
  have ne_o0_b8 : o0 ≠ b8 := Nat.ne_of_lt (Nat.lt_of_lt_of_le ((E0.ext E4).wr W5).lt (Nat.le_of_eq g8.symm))
  have ne_va_b8 : va ≠ b8 := Nat.ne_of_lt (Nat.lt_of_lt_of_le ((Av0.ext E4).other W5 (Ne.symm n_ka_va)).lt (Nat.le_of_eq g8.symm))
  have ne_sa_b8 : sa ≠ b8 := Nat.ne_of_lt (Nat.lt_of_lt_of_le ((As0.ext E4).other W5 (Ne.symm n_ka_sa)).lt (Nat.le_of_eq g8.symm))
  have ne_la_b8 : la ≠ b8 := Nat.ne_of_lt (Nat.lt_of_lt_of_le ((Al0.ext E4).other W5 (Ne.symm n_ka_la)).lt (Nat.le_of_eq g8.symm))
  have ne_b4_b8 : b4 ≠ b8 := Nat.ne_of_lt (Nat.lt_of_lt_of_le (V4.other W5 (Ne.symm ne_ka_b4)).lt (Nat.le_of_eq g8.symm))
  have ne_ka_b8 : ka ≠ b8 := Nat.ne_of_lt (Nat.lt_of_lt_of_le V5.lt (Nat.le_of_eq g8.symm))
  have g_b8 : n0 ≤ b8 := Nat.le_trans (Nat.le_trans (Nat.le_trans Z0 E4.1) (Keep.of_wr W5).1) (Nat.le_of_eq g8.symm)
  have sz_b8 : h0.size ≤ b8 := Nat.le_trans Q6.1 (Nat.le_of_eq g8.symm)
  have V8 : IA Z h8 b8 .long 16 (fun k => .long ((fun _ => (0 : Int64)) k)) := IA.of_new A8 (by decide)
  refine Go.step (g' := (mkF m 36 #[.val (.ref o0), .val (.int p1), .val (.long q2), .second, .val (.long q3), .second, .val (.int (0 : Int32))] [(.ref b8), (.int p1), (.ref va)])) st8 ?_
  have Q9 := (Nat.le_trans (Nat.le_trans (Nat.le_trans Z0 E4.1) (Keep.of_wr W5).1) E8.1)
  obtain ⟨T10, h10, lc10, X10, e10, W10, N10, V10, st10⟩ := putAV X8 hx hZ e8 (((Av0.ext E4).other W5 (Ne.symm n_ka_va)).ext E8) (j := p1) (v := (.ref b8)) hbb N5 g_va ((((Av0.ext E4).other W5 (Ne.symm n_ka_va)).ext E8).sto Q8x) (gf := (mkF m 36 #[.val (.ref o0), .val (.int p1), .val (.long q2), .second, .val (.long q3), .second, .val (.int (0 : Int32))] [(.ref b8), (.int p1), (.ref va)])) rfl rfl (hb hby d10_36)
  refine Go.step (g' := (mkF m 37 #[.val (.ref o0), .val (.int p1), .val (.long q2), .second, .val (.long q3), .second, .val (.int (0 : Int32))] [])) st10 ?_
  have Q11 := ((((Fk0.ext E4).other W5 (Or.inl n_o0_ka)).ext E8).other W10 (Or.inl n_o0_va))
  have Q12 := ((((Fv0.ext E4).other W5 (Or.inl n_o0_ka)).ext E8).other W10 (Or.inl n_o0_va))
  have Q13 := ((((Fs0.ext E4).other W5 (Or.inl n_o0_ka)).ext E8).other W10 (Or.inl n_o0_va))
  have Q14 := ((((Fl0.ext E4).other W5 (Or.inl n_o0_ka)).ext E8).other W10 (Or.inl n_o0_va))
  have Q15 := ((((Fu0.ext E4).other W5 (Or.inl n_o0_ka)).ext E8).other W10 (Or.inl n_o0_va))
  have Q16 := ((((Fw0.ext E4).other W5 (Or.inl n_o0_ka)).ext E8).other W10 (Or.inl n_o0_va))
  have Q17 := ((((Fz0.ext E4).other W5 (Or.inl n_o0_ka)).ext E8).other W10 (Or.inl n_o0_va))
  have Q18 := ((((As0.ext E4).other W5 (Ne.symm n_ka_sa)).ext E8).other W10 (Ne.symm n_va_sa))
  have Q19 := ((((Al0.ext E4).other W5 (Ne.symm n_ka_la)).ext E8).other W10 (Ne.symm n_va_la))
  have Q20 := (((V4.other W5 (Ne.symm ne_ka_b4)).ext E8).other W10 (Ne.symm ne_va_b4))
  have Q21 := ((Q6.ext E8).wr W10 (Or.inl (List.mem_of_getElem? (i := 2) rfl)))
  refine Go.step (g' := (mkF m 90 #[.val (.ref o0), .val (.int p1), .val (.long q2), .second, .val (.long q3), .second, .val (.int (0 : Int32))] [])) (fun _ k => XS.goto X10.here hx rfl (pc0 := 37) (pc' := 90) rfl (hb hby d10_37) (by decide) (by decide) k) ?_
  skip
  refine Go.step (g' := (mkF m 91 #[.val (.ref o0), .val (.int p1), .val (.long q2), .second, .val (.long q3), .second, .val (.int (0 : Int32))] [(.ref o0)])) (fun _ k => XS.aloadN X10.here hx rfl (hb hby d10_90) rfl rfl  k) ?_
  obtain ⟨T22, X22, e22, st22⟩ := getF X10 hx hZ hown (host := "") (Or.inl (hw _ (List.mem_of_getElem? (i := 16) rfl))) Via.refl e10 Q11 (g := (mkF m 91 #[.val (.ref o0), .val (.int p1), .val (.long q2), .second, .val (.long q3), .second, .val (.int (0 : Int32))] [(.ref o0)])) rfl rfl (hb hby d10_91)
  refine Go.step (g' := (mkF m 94 #[.val (.ref o0), .val (.int p1), .val (.long q2), .second, .val (.long q3), .second, .val (.int (0 : Int32))] [(.ref ka)])) st22 ?_
  refine Go.step (g' := (mkF m 95 #[.val (.ref o0), .val (.int p1), .val (.long q2), .second, .val (.long q3), .second, .val (.int (0 : Int32))] [(.int p1), (.ref ka)])) (fun _ k => XS.iloadN X22.here hx rfl (hb hby d10_94) rfl  k) ?_
  refine Go.step (g' := (mkF m 96 #[.val (.ref o0), .val (.int p1), .val (.long q2), .second, .val (.long q3), .second, .val (.int (0 : Int32))] [(.ref b4)])) (fun _ k => getAV X22 hx hZ e22 ((V5.ext E8).other W10 n_ka_va) (j := p1) (v := (.ref b4)) hbb (upd_same _ _ _) (gf := (mkF m 95 #[.val (.ref o0), .val (.int p1), .val (.long q2), .second, .val (.long q3), .second, .val (.int (0 : Int32))] [(.int p1), (.ref ka)])) rfl rfl (hb hby d10_95) k) ?_
  refine Go.step (g' := (mkF m 98 #[.val (.ref o0), .val (.int p1), .val (.long q2), .second, .val (.long q3), .second, .val (.int (0 : Int32))] [(.int (0 : Int32)), (.ref b4)])) (fun _ k => XS.iload X22.here hx rfl (hb hby d10_96) rfl  k) ?_
  refine Go.step (g' := (mkF m 99 #[.val (.ref o0), .val (.int p1), .val (.long q2), .second, .val (.long q3), .second, .val (.int (0 : Int32))] [(.long q2), (.int (0 : Int32)), (.ref b4)])) (fun _ k => XS.lloadN X22.here hx rfl (hb hby d10_98) rfl  k) ?_
  obtain ⟨T23, h23, lc23, X23, e23, W23, N23, V23, st23⟩ := putAJ X22 hx hZ e22 Q20 (j := (0 : Int32)) (by decide) N10 g_b4 (gf := (mkF m 99 #[.val (.ref o0), .val (.int p1), .val (.long q2), .second, .val (.long q3), .second, .val (.int (0 : Int32))] [(.long q2), (.int (0 : Int32)), (.ref b4)])) rfl rfl (hb hby d10_99)
  refine Go.step (g' := (mkF m 100 #[.val (.ref o0), .val (.int p1), .val (.long q2), .second, .val (.long q3), .second, .val (.int (0 : Int32))] [])) st23 ?_
  have Q24 := ((V8.other W10 (Ne.symm ne_va_b8)).other W23 (Ne.symm ne_b4_b8))
  have Q25 := (Nat.le_trans (Nat.le_trans Q9 (Keep.of_wr W10).1) (Keep.of_wr W23).1)
  refine Go.step (g' := (mkF m 101 #[.val (.ref o0), .val (.int p1), .val (.long q2), .second, .val (.long q3), .second, .val (.int (0 : Int32))] [(.ref o0)])) (fun _ k => XS.aloadN X23.here hx rfl (hb hby d10_100) rfl rfl  k) ?_
  obtain ⟨T26, X26, e26, st26⟩ := getF X23 hx hZ hown (host := "") (Or.inl (hw _ (List.mem_of_getElem? (i := 18) rfl))) Via.refl e23 (Q12.other W23 (Or.inl ne_o0_b4)) (g := (mkF m 101 #[.val (.ref o0), .val (.int p1), .val (.long q2), .second, .val (.long q3), .second, .val (.int (0 : Int32))] [(.ref o0)])) rfl rfl (hb hby d10_101)
  refine Go.step (g' := (mkF m 104 #[.val (.ref o0), .val (.int p1), .val (.long q2), .second, .val (.long q3), .second, .val (.int (0 : Int32))] [(.ref va)])) st26 ?_
  refine Go.step (g' := (mkF m 105 #[.val (.ref o0), .val (.int p1), .val (.long q2), .second, .val (.long q3), .second, .val (.int (0 : Int32))] [(.int p1), (.ref va)])) (fun _ k => XS.iloadN X26.here hx rfl (hb hby d10_104) rfl  k) ?_
  refine Go.step (g' := (mkF m 106 #[.val (.ref o0), .val (.int p1), .val (.long q2), .second, .val (.long q3), .second, .val (.int (0 : Int32))] [(.ref b8)])) (fun _ k => getAV X26 hx hZ e26 (V10.other W23 ne_va_b4) (j := p1) (v := (.ref b8)) hbb (upd_same _ _ _) (gf := (mkF m 105 #[.val (.ref o0), .val (.int p1), .val (.long q2), .second, .val (.long q3), .second, .val (.int (0 : Int32))] [(.int p1), (.ref va)])) rfl rfl (hb hby d10_105) k) ?_
  refine Go.step (g' := (mkF m 108 #[.val (.ref o0), .val (.int p1), .val (.long q2), .second, .val (.long q3), .second, .val (.int (0 : Int32))] [(.int (0 : Int32)), (.ref b8)])) (fun _ k => XS.iload X26.here hx rfl (hb hby d10_106) rfl  k) ?_
  refine Go.step (g' := (mkF m 110 #[.val (.ref o0), .val (.int p1), .val (.long q2), .second, .val (.long q3), .second, .val (.int (0 : Int32))] [(.long q3), (.int (0 : Int32)), (.ref b8)])) (fun _ k => XS.lload X26.here hx rfl (hb hby d10_108) rfl  k) ?_
  obtain ⟨T27, h27, lc27, X27, e27, W27, N27, V27, st27⟩ := putAJ X26 hx hZ e26 Q24 (j := (0 : Int32)) (by decide) N23 g_b8 (gf := (mkF m 110 #[.val (.ref o0), .val (.int p1), .val (.long q2), .second, .val (.long q3), .second, .val (.int (0 : Int32))] [(.long q3), (.int (0 : Int32)), (.ref b8)])) rfl rfl (hb hby d10_110)
  refine Go.step (g' := (mkF m 111 #[.val (.ref o0), .val (.int p1), .val (.long q2), .second, .val (.long q3), .second, .val (.int (0 : Int32))] [])) st27 ?_
  have Q28 := ((Q11.other W23 (Or.inl ne_o0_b4)).other W27 (Or.inl ne_o0_b8))
  have Q29 := ((Q12.other W23 (Or.inl ne_o0_b4)).other W27 (Or.inl ne_o0_b8))
  have Q30 := ((Q13.other W23 (Or.inl ne_o0_b4)).other W27 (Or.inl ne_o0_b8))
  have Q31 := ((Q14.other W23 (Or.inl ne_o0_b4)).other W27 (Or.inl ne_o0_b8))
  have Q32 := ((Q15.other W23 (Or.inl ne_o0_b4)).other W27 (Or.inl ne_o0_b8))
  have Q33 := ((Q16.other W23 (Or.inl ne_o0_b4)).other W27 (Or.inl ne_o0_b8))
  have Q34 := ((Q17.other W23 (Or.inl ne_o0_b4)).other W27 (Or.inl ne_o0_b8))
  have Q35 := ((((V5.ext E8).other W10 n_ka_va).other W23 ne_ka_b4).other W27 ne_ka_b8)
  refine Go.step (g' := (mkF m 112 #[.val (.ref o0), .val (.int p1), .val (.long q2), .second, .val (.long q3), .second, .val (.int (0 : Int32))] [(.ref o0)])) (fun _ k => XS.aloadN X27.here hx rfl (hb hby d10_111) rfl rfl  k) ?_
  obtain ⟨T36, X36, e36, st36⟩ := getF X27 hx hZ hown (host := "") (Or.inl (hw _ (List.mem_of_getElem? (i := 24) rfl))) Via.refl e27 Q31 (g := (mkF m 112 #[.val (.ref o0), .val (.int p1), .val (.long q2), .second, .val (.long q3), .second, .val (.int (0 : Int32))] [(.ref o0)])) rfl rfl (hb hby d10_112)
  refine Go.step (g' := (mkF m 115 #[.val (.ref o0), .val (.int p1), .val (.long q2), .second, .val (.long q3), .second, .val (.int (0 : Int32))] [(.ref la)])) st36 ?_
  refine Go.step (g' := (mkF m 116 #[.val (.ref o0), .val (.int p1), .val (.long q2), .second, .val (.long q3), .second, .val (.int (0 : Int32))] [(.int p1), (.ref la)])) (fun _ k => XS.iloadN X36.here hx rfl (hb hby d10_115) rfl  k) ?_
  refine Go.step (g' := (mkF m 118 #[.val (.ref o0), .val (.int p1), .val (.long q2), .second, .val (.long q3), .second, .val (.int (0 : Int32))] [(.int (0 : Int32)), (.int p1), (.ref la)])) (fun _ k => XS.iload X36.here hx rfl (hb hby d10_116) rfl  k) ?_
  refine Go.step (g' := (mkF m 121 #[.val (.ref o0), .val (.int p1), .val (.long q2), .second, .val (.long q3), .second, .val (.int (0 : Int32))] [(.int p1), (.ref la)])) (fun _ k => XS.ifNo X36.here hx rfl (hb hby d10_118) rfl ((if0 _ _).trans (teq (by decide : (0 : Int32) = (0 : Int32))).2) k) ?_
  skip
  refine Go.step (g' := (mkF m 122 #[.val (.ref o0), .val (.int p1), .val (.long q2), .second, .val (.long q3), .second, .val (.int (0 : Int32))] [(.long q2), (.int p1), (.ref la)])) (fun _ k => XS.lloadN X36.here hx rfl (hb hby d10_121) rfl  k) ?_
  refine Go.step (g' := (mkF m 135 #[.val (.ref o0), .val (.int p1), .val (.long q2), .second, .val (.long q3), .second, .val (.int (0 : Int32))] [(.long q2), (.int p1), (.ref la)])) (fun _ k => XS.goto X36.here hx rfl (pc0 := 122) (pc' := 135) rfl (hb hby d10_122) (by decide) (by decide) k) ?_
  skip
  obtain ⟨T37, h37, lc37, X37, e37, W37, N37, V37, st37⟩ := putAJ X36 hx hZ e36 ((Q19.other W23 ne_la_b4).other W27 ne_la_b8) (j := p1) hbb N27 g_la (gf := (mkF m 135 #[.val (.ref o0), .val (.int p1), .val (.long q2), .second, .val (.long q3), .second, .val (.int (0 : Int32))] [(.long q2), (.int p1), (.ref la)])) rfl rfl (hb hby d10_135)
  refine Go.step (g' := (mkF m 136 #[.val (.ref o0), .val (.int p1), .val (.long q2), .second, .val (.long q3), .second, .val (.int (0 : Int32))] [])) st37 ?_
  have Q38 := (((((((E0.ext E4).wr W5).ext E8).wr W10).wr W23).wr W27).wr W37)
  have Q39 := (((Q18.other W23 ne_sa_b4).other W27 ne_sa_b8).other W37 n_sa_la)
  have Q40 := (((V10.other W23 ne_va_b4).other W27 ne_va_b8).other W37 n_va_la)
  have Q41 := (Nat.le_trans (Nat.le_trans Q25 (Keep.of_wr W27).1) (Keep.of_wr W37).1)
  have Q42 := (((Q21.wr W23 (Or.inr sz_b4)).wr W27 (Or.inr sz_b8)).wr W37 (Or.inl (List.mem_of_getElem? (i := 4) rfl)))
  refine Go.step (g' := (mkF m 137 #[.val (.ref o0), .val (.int p1), .val (.long q2), .second, .val (.long q3), .second, .val (.int (0 : Int32))] [(.ref o0)])) (fun _ k => XS.aloadN X37.here hx rfl (hb hby d10_136) rfl rfl  k) ?_
  obtain ⟨T43, X43, e43, st43⟩ := getF X37 hx hZ hown (host := "") (Or.inl (hw _ (List.mem_of_getElem? (i := 21) rfl))) Via.refl e37 (Q30.other W37 (Or.inl n_o0_la)) (g := (mkF m 137 #[.val (.ref o0), .val (.int p1), .val (.long q2), .second, .val (.long q3), .second, .val (.int (0 : Int32))] [(.ref o0)])) rfl rfl (hb hby d10_137)
  refine Go.step (g' := (mkF m 140 #[.val (.ref o0), .val (.int p1), .val (.long q2), .second, .val (.long q3), .second, .val (.int (0 : Int32))] [(.ref sa)])) st43 ?_
  refine Go.step (g' := (mkF m 141 #[.val (.ref o0), .val (.int p1), .val (.long q2), .second, .val (.long q3), .second, .val (.int (0 : Int32))] [(.int p1), (.ref sa)])) (fun _ k => XS.iloadN X43.here hx rfl (hb hby d10_140) rfl  k) ?_
  refine Go.step (g' := (mkF m 143 #[.val (.ref o0), .val (.int p1), .val (.long q2), .second, .val (.long q3), .second, .val (.int (0 : Int32))] [(.int (0 : Int32)), (.int p1), (.ref sa)])) (fun _ k => XS.iload X43.here hx rfl (hb hby d10_141) rfl  k) ?_
  refine Go.step (g' := (mkF m 144 #[.val (.ref o0), .val (.int p1), .val (.long q2), .second, .val (.long q3), .second, .val (.int (0 : Int32))] [(.int (1 : Int32)), (.int (0 : Int32)), (.int p1), (.ref sa)])) (fun _ k => XS.iconst X43.here hx rfl (hb hby d10_143) k) ?_
  refine Go.step (g' := (mkF m 145 #[.val (.ref o0), .val (.int p1), .val (.long q2), .second, .val (.long q3), .second, .val (.int (0 : Int32))] [(.int ((0 : Int32) + (1 : Int32))), (.int p1), (.ref sa)])) (fun _ k => XS.iadd X43.here hx rfl (hb hby d10_144) rfl k) ?_
  obtain ⟨T44, h44, lc44, X44, e44, W44, N44, V44, st44⟩ := putAI X43 hx hZ e43 Q39 (j := p1) hbb N37 g_sa (gf := (mkF m 145 #[.val (.ref o0), .val (.int p1), .val (.long q2), .second, .val (.long q3), .second, .val (.int (0 : Int32))] [(.int ((0 : Int32) + (1 : Int32))), (.int p1), (.ref sa)])) rfl rfl (hb hby d10_145)
  refine Go.step (g' := (mkF m 146 #[.val (.ref o0), .val (.int p1), .val (.long q2), .second, .val (.long q3), .second, .val (.int (0 : Int32))] [])) st44 ?_
  have Q45 := ((Q28.other W37 (Or.inl n_o0_la)).other W44 (Or.inl n_o0_sa))
  have Q46 := ((Q29.other W37 (Or.inl n_o0_la)).other W44 (Or.inl n_o0_sa))
  have Q47 := ((Q30.other W37 (Or.inl n_o0_la)).other W44 (Or.inl n_o0_sa))
  have Q48 := ((Q31.other W37 (Or.inl n_o0_la)).other W44 (Or.inl n_o0_sa))
  have Q49 := ((Q32.other W37 (Or.inl n_o0_la)).other W44 (Or.inl n_o0_sa))
  have Q50 := ((Q33.other W37 (Or.inl n_o0_la)).other W44 (Or.inl n_o0_sa))
  have Q51 := ((Q34.other W37 (Or.inl n_o0_la)).other W44 (Or.inl n_o0_sa))
  have Q52 := (((((((Q4x.wr W5).ext E8).wr W10).wr W23).wr W27).wr W37).wr W44)
  have Q53 := (((V23.other W27 ne_b4_b8).other W37 (Ne.symm ne_la_b4)).other W44 (Ne.symm ne_sa_b4))
  have Q54 := ((V27.other W37 (Ne.symm ne_la_b8)).other W44 (Ne.symm ne_sa_b8))
  refine Go.step (g' := (mkF m 147 #[.val (.ref o0), .val (.int p1), .val (.long q2), .second, .val (.long q3), .second, .val (.int (0 : Int32))] [(.ref o0)])) (fun _ k => XS.aloadN X44.here hx rfl (hb hby d10_146) rfl rfl  k) ?_
  refine Go.step (g' := (mkF m 148 #[.val (.ref o0), .val (.int p1), .val (.long q2), .second, .val (.long q3), .second, .val (.int (0 : Int32))] [(.ref o0), (.ref o0)])) (fun _ k => XS.dup X44.here hx rfl (hb hby d10_147) rfl rfl k) ?_
  obtain ⟨T55, X55, e55, st55⟩ := getF X44 hx hZ hown (host := "") (Or.inl (hw _ (List.mem_of_getElem? (i := 62) rfl))) Via.refl e44 Q49 (g := (mkF m 148 #[.val (.ref o0), .val (.int p1), .val (.long q2), .second, .val (.long q3), .second, .val (.int (0 : Int32))] [(.ref o0), (.ref o0)])) rfl rfl (hb hby d10_148)
  refine Go.step (g' := (mkF m 151 #[.val (.ref o0), .val (.int p1), .val (.long q2), .second, .val (.long q3), .second, .val (.int (0 : Int32))] [(.long u), (.ref o0)])) st55 ?_
  refine Go.step (g' := (mkF m 152 #[.val (.ref o0), .val (.int p1), .val (.long q2), .second, .val (.long q3), .second, .val (.int (0 : Int32))] [(.long (1 : Int64)), (.long u), (.ref o0)])) (fun _ k => XS.lconst X55.here hx rfl (hb hby d10_151) k) ?_
  refine Go.step (g' := (mkF m 153 #[.val (.ref o0), .val (.int p1), .val (.long q2), .second, .val (.long q3), .second, .val (.int (0 : Int32))] [(.int p1), (.long (1 : Int64)), (.long u), (.ref o0)])) (fun _ k => XS.iloadN X55.here hx rfl (hb hby d10_152) rfl  k) ?_
  refine Go.step (g' := (mkF m 154 #[.val (.ref o0), .val (.int p1), .val (.long q2), .second, .val (.long q3), .second, .val (.int (0 : Int32))] [(.long ((1 : Int64) <<< (p1 &&& 0x3f).toInt64)), (.long u), (.ref o0)])) (fun _ k => XS.lshl X55.here hx rfl (hb hby d10_153) rfl k) ?_
  refine Go.step (g' := (mkF m 155 #[.val (.ref o0), .val (.int p1), .val (.long q2), .second, .val (.long q3), .second, .val (.int (0 : Int32))] [(.long (u ||| ((1 : Int64) <<< (p1 &&& 0x3f).toInt64))), (.ref o0)])) (fun _ k => XS.lor X55.here hx rfl (hb hby d10_154) rfl k) ?_
  obtain ⟨T56, h56, X56, e56, W56, st56⟩ := putF X55 hx hZ hown (host := "") (Or.inl (hw _ (List.mem_of_getElem? (i := 62) rfl))) Via.refl e55 Q49 (Q38.wr W44) (Or.inl (hw _ (List.mem_of_getElem? (i := 63) rfl))) (hw _ (List.mem_of_getElem? (i := 6) rfl)) (ty := .long) (by decide) rfl rfl (g := (mkF m 155 #[.val (.ref o0), .val (.int p1), .val (.long q2), .second, .val (.long q3), .second, .val (.int (0 : Int32))] [(.long (u ||| ((1 : Int64) <<< (p1 &&& 0x3f).toInt64))), (.ref o0)])) rfl rfl (hb hby d10_155)
  obtain ⟨lc56, X56, N56⟩ := own_pack X56 (Fr.snoc X56 N44 g_o0)
  have Fw56 := Q49.same W56
  refine Go.step (g' := (mkF m 158 #[.val (.ref o0), .val (.int p1), .val (.long q2), .second, .val (.long q3), .second, .val (.int (0 : Int32))] [])) st56 ?_
  have Q57 := (Q45.other W56 (Or.inr (slot_ne (Or.inr (hw _ (List.mem_of_getElem? (i := 17) rfl))) (Or.inl (hw _ (List.mem_of_getElem? (i := 63) rfl))) (by decide) (t := (.array (.array .long))) (t' := .long) (by decide) (by decide))))
  have Q58 := (Q46.other W56 (Or.inr (slot_ne (Or.inr (hw _ (List.mem_of_getElem? (i := 19) rfl))) (Or.inl (hw _ (List.mem_of_getElem? (i := 63) rfl))) (by decide) (t := (.array (.array .long))) (t' := .long) (by decide) (by decide))))
  have Q59 := (Q47.other W56 (Or.inr (slot_ne (Or.inr (hw _ (List.mem_of_getElem? (i := 22) rfl))) (Or.inl (hw _ (List.mem_of_getElem? (i := 63) rfl))) (by decide) (t := (.array .int)) (t' := .long) (by decide) (by decide))))
  have Q60 := (Q48.other W56 (Or.inr (slot_ne (Or.inr (hw _ (List.mem_of_getElem? (i := 25) rfl))) (Or.inl (hw _ (List.mem_of_getElem? (i := 63) rfl))) (by decide) (t := (.array .long)) (t' := .long) (by decide) (by decide))))
  have Q61 := (Q50.other W56 (Or.inr (slot_ne (Or.inl (hw _ (List.mem_of_getElem? (i := 43) rfl))) (Or.inl (hw _ (List.mem_of_getElem? (i := 63) rfl))) (by decide) (t := .long) (t' := .long) (by decide) (by decide))))
  have Q62 := (Q51.other W56 (Or.inr (slot_ne (Or.inl (hw _ (List.mem_of_getElem? (i := 36) rfl))) (Or.inl (hw _ (List.mem_of_getElem? (i := 63) rfl))) (by decide) (t := .int) (t' := .long) (by decide) (by decide))))
  have Q63 := (((Q35.other W37 n_ka_la).other W44 n_ka_sa).other W56 (Ne.symm n_o0_ka))
  have Q64 := ((V37.other W44 (Ne.symm n_sa_la)).other W56 (Ne.symm n_o0_la))
  have Q65 := (Nat.le_trans (Nat.le_trans Q41 (Keep.of_wr W44).1) (Keep.of_wr W56).1)
  have Q66 := ((Q42.wr W44 (Or.inl (List.mem_of_getElem? (i := 3) rfl))).wr W56 (Or.inl (List.mem_of_getElem? (i := 0) rfl)))
  exact Go.ret0 X56 hx hlk Bd.returns (hb hby d10_158) (by decide) (by decide) (by rw [e56]; exact (own_putEnd (tg' := (TW tg b4 b8 (10 + 2 * p1.toNatClampNeg) (11 + 2 * p1.toNatClampNeg))) (a := b4) (c := b8) (kf' := upd kf p1.toNatClampNeg (.ref b4)) (vf' := upd vf p1.toNatClampNeg (.ref b8)) (g := fun _ => (0 : Int64)) (gv := fun _ => (0 : Int64)) J0 G0 ⟨E0.lt, Ak0.lt, Av0.lt, As0.lt, Al0.lt⟩ hbb Q66 (own_ws5 G0) (own_twOld sz_b4 sz_b8) (own_twN J0.2.2.2.2 g_b4 g_b8) (fun j hj => upd_ne _ _ _ hj) (fun j hj => upd_ne _ _ _ hj) (upd_same _ _ _) (upd_same _ _ _) (own_twA _ _ _ _ _) (own_twC ne_b4_b8) (Q53.other W56 (Ne.symm ne_o0_b4)) (Q54.other W56 (Ne.symm ne_o0_b8)) hz hn (fun k hk => absurd hk (Nat.not_lt_zero _)) (Or.inl rfl) hk0 hkM (Or.inl rfl) ⟨((Q38.wr W44).wr W56), Q57, Q58, Q59, Q60, Fw56, Q61, Q62, Q63, ((Q40.other W44 n_va_sa).other W56 (Ne.symm n_o0_va)), (V44.other W56 (Ne.symm n_o0_sa)), Q64⟩ N56))

set_option maxRecDepth 65536 in
set_option maxHeartbeats 40000000 in
theorem rm10b (l : Launch) (Z : State) (a0 : Array Value) (hw : ∀ d ∈ tables_1, d.before a0 Z = true) (ws : List Jvm.Cond) (o0 : Addr) (p1 : Int32) (q2 : Int64) (q3 : Int64) (ka : Addr) (va : Addr) (sa : Addr) (la : Addr) (tg : Addr → Nat) (kf : Nat → Value) (vf : Nat → Value) (sf : Nat → Int32) (lf : Nat → Int64) (u : Int64) (w : Int64) (z : Int32) (M : Int64) (n : Nat) (xa : Addr) (xc : Addr) (g : Nat → Int64) (gv : Nat → Int64) (h0 : Heap) (n0 : Nat) (Z0 : n0 ≤ h0.size) (R0 : RF Z h0 o0 ka va sa la kf vf sf lf u w z) (G0 : TG tg o0 ka va sa la) (J0 : JJ Z h0 n0 tg M kf vf sf lf u n) (hbb : ¬ (p1 < 0 ∨ 64 ≤ p1.toNatClampNeg)) (hn : n < 16) (hk0 : ¬ q2 < 0) (hkM : ¬ M < q2) (hka : kf p1.toNatClampNeg = .ref xa) (hvc : vf p1.toNatClampNeg = .ref xc) (t_xa : tg xa = 10 + 2 * p1.toNatClampNeg) (t_xc : tg xc = 11 + 2 * p1.toNatClampNeg) (Aa : IA Z h0 xa .long 16 (fun k => .long (g k))) (Ac : IA Z h0 xc .long 16 (fun k => .long (gv k))) (hg : ∀ i, i < (sf p1.toNatClampNeg).toNatClampNeg → ¬ g i < 0 ∧ ¬ M < g i) (hl : sf p1.toNatClampNeg = 0 ∨ p1.toNatClampNeg = 0 ∨ ∃ i, i < (sf p1.toNatClampNeg).toNatClampNeg ∧ lf p1.toNatClampNeg = g i) :
    MetFree l (⟨"com/example/redelivery/redelivery/RadixHeap", "put", "(IJJ)V"⟩ : MethodName) (head1 (Jvm.Cond.code (⟨"com/example/redelivery/redelivery/RadixHeap", "put", "(IJJ)V"⟩ : MethodName) prog_23_method_10_code 7 none :: ws) ({ frames := 1, cells := 2, slots := 32, locals := 17 } : Room)) (fun a U => a = #[(.ref o0), (.int p1), (.long q2), (.long q3)] ∧ Z.Warmed39 U.vm ∧ U.heap = h0) (fun _ _ _ _ _ => True) (fun _ U o U' => ∃ v L, o = .returned v ∧ (QP Z h0 n0 o0 ka va sa la tg M sf w z n p1.toNatClampNeg) v U'.heap L ∧ FrameEnd U o U' L ({ frames := 1, cells := 2, slots := 32, locals := 17 } : Room).cells ({ frames := 1, cells := 2, slots := 32, locals := 17 } : Room).slots) := by
  refine MetFree.of_bodySF (plainFor_of_name pn_10) hisR ?_
  intro p e s m args below meth c s₁ Bd hml0 hP hK
  obtain ⟨rfl, hZ, hh⟩ := hP
  have hx := Bd.exec
  have hby := Bd.bytes
  have hlk : meth.locks = false := BodyLoose.notSynchronized Bd
  have hml : c.maxLocals = 7 := hml0
  have hown : s.vm.findClass "com/example/redelivery/redelivery/RadixHeap" = some m.cls := findClass_of_methodNamed Bd.named
  have hnm := (name_of_methodNamed Bd.named Bd.method).1
  have X0 : Stand p l e ({ frames := 1, cells := 2, slots := 32, locals := 17 } : Room) s m #[(.ref o0), (.int p1), (.long q2), (.long q3)] below meth c s₁ ([] : List Loc) 0 0 := Stand.of_body Bd
  have e0 : s₁.heap = h0 := by rw [← hh, Bd.state]; rfl
  show Go p e below s 2 32 (QP Z h0 n0 o0 ka va sa la tg M sf w z n p1.toNatClampNeg) s₁ (entryFrame m #[(.ref o0), (.int p1), (.long q2), (.long q3)] 7)
  rw [ef_10 m o0 p1 q2 q3]
  have N0 := Fr.nil n0
  have R0' := R0
  obtain ⟨E0, Fk0, Fv0, Fs0, Fl0, Fu0, Fw0, Fz0, Ak0, Av0, As0, Al0⟩ := R0'
  have n_o0_ka : o0 ≠ ka := own_tn G0.1 G0.2.1 (by decide)
  have n_o0_va : o0 ≠ va := own_tn G0.1 G0.2.2.1 (by decide)
  have n_o0_sa : o0 ≠ sa := own_tn G0.1 G0.2.2.2.1 (by decide)
  have n_o0_la : o0 ≠ la := own_tn G0.1 G0.2.2.2.2 (by decide)
  have n_o0_xa : o0 ≠ xa := own_tn G0.1 t_xa (by omega)
  have n_o0_xc : o0 ≠ xc := own_tn G0.1 t_xc (by omega)
  have n_ka_va : ka ≠ va := own_tn G0.2.1 G0.2.2.1 (by decide)
  have n_ka_sa : ka ≠ sa := own_tn G0.2.1 G0.2.2.2.1 (by decide)
  have n_ka_la : ka ≠ la := own_tn G0.2.1 G0.2.2.2.2 (by decide)
  have n_ka_xa : ka ≠ xa := own_tn G0.2.1 t_xa (by omega)
  have n_ka_xc : ka ≠ xc := own_tn G0.2.1 t_xc (by omega)
  have n_va_sa : va ≠ sa := own_tn G0.2.2.1 G0.2.2.2.1 (by decide)
  have n_va_la : va ≠ la := own_tn G0.2.2.1 G0.2.2.2.2 (by decide)
  have n_va_xa : va ≠ xa := own_tn G0.2.2.1 t_xa (by omega)
  have n_va_xc : va ≠ xc := own_tn G0.2.2.1 t_xc (by omega)
  have n_sa_la : sa ≠ la := own_tn G0.2.2.2.1 G0.2.2.2.2 (by decide)
  have n_sa_xa : sa ≠ xa := own_tn G0.2.2.2.1 t_xa (by omega)
  have n_sa_xc : sa ≠ xc := own_tn G0.2.2.2.1 t_xc (by omega)
  have n_la_xa : la ≠ xa := own_tn G0.2.2.2.2 t_xa (by omega)
  have n_la_xc : la ≠ xc := own_tn G0.2.2.2.2 t_xc (by omega)
  have n_xa_xc : xa ≠ xc := own_tn t_xa t_xc (by omega)
  have g_o0 : n0 ≤ o0 := J0.2.2.2.2 _ (by rw [G0.1]; decide)
  have g_ka : n0 ≤ ka := J0.2.2.2.2 _ (by rw [G0.2.1]; decide)
  have g_va : n0 ≤ va := J0.2.2.2.2 _ (by rw [G0.2.2.1]; decide)
  have g_sa : n0 ≤ sa := J0.2.2.2.2 _ (by rw [G0.2.2.2.1]; decide)
  have g_la : n0 ≤ la := J0.2.2.2.2 _ (by rw [G0.2.2.2.2]; decide)
  have g_xa : n0 ≤ xa := J0.2.2.2.2 _ (by rw [t_xa]; omega)
  have g_xc : n0 ≤ xc := J0.2.2.2.2 _ (by rw [t_xc]; omega)
  refine Go.step (g' := (mkF m 1 #[.val (.ref o0), .val (.int p1), .val (.long q2), .second, .val (.long q3), .second, .unset] [(.ref o0)])) (fun _ k => XS.aloadN X0.here hx rfl (hb hby d10_0) rfl rfl  k) ?_
  obtain ⟨T1, X1, e1, st1⟩ := getF X0 hx hZ hown (host := "") (Or.inl (hw _ (List.mem_of_getElem? (i := 21) rfl))) Via.refl e0 Fs0 (g := (mkF m 1 #[.val (.ref o0), .val (.int p1), .val (.long q2), .second, .val (.long q3), .second, .unset] [(.ref o0)])) rfl rfl (hb hby d10_1)
  refine Go.step (g' := (mkF m 4 #[.val (.ref o0), .val (.int p1), .val (.long q2), .second, .val (.long q3), .second, .unset] [(.ref sa)])) st1 ?_
  refine Go.step (g' := (mkF m 5 #[.val (.ref o0), .val (.int p1), .val (.long q2), .second, .val (.long q3), .second, .unset] [(.int p1), (.ref sa)])) (fun _ k => XS.iloadN X1.here hx rfl (hb hby d10_4) rfl  k) ?_
  refine Go.step (g' := (mkF m 6 #[.val (.ref o0), .val (.int p1), .val (.long q2), .second, .val (.long q3), .second, .unset] [(.int (sf p1.toNatClampNeg))])) (fun _ k => getAI X1 hx hZ e1 As0 (j := p1) hbb (gf := (mkF m 5 #[.val (.ref o0), .val (.int p1), .val (.long q2), .second, .val (.long q3), .second, .unset] [(.int p1), (.ref sa)])) rfl rfl (hb hby d10_5) k) ?_
  refine Go.step (g' := (mkF m 8 #[.val (.ref o0), .val (.int p1), .val (.long q2), .second, .val (.long q3), .second, .val (.int (sf p1.toNatClampNeg))] [])) (fun _ k => XS.istore X1.here hx rfl (hb hby d10_6) rfl (l' := #[.val (.ref o0), .val (.int p1), .val (.long q2), .second, .val (.long q3), .second, .val (.int (sf p1.toNatClampNeg))]) rfl k) ?_
  generalize hat_ : (sf p1.toNatClampNeg) = at_
  have hat16 := own_at16 J0 hbb hn hat_
  refine Go.step (g' := (mkF m 9 #[.val (.ref o0), .val (.int p1), .val (.long q2), .second, .val (.long q3), .second, .val (.int at_)] [(.ref o0)])) (fun _ k => XS.aloadN X1.here hx rfl (hb hby d10_8) rfl rfl  k) ?_
  obtain ⟨T2, X2, e2, st2⟩ := getF X1 hx hZ hown (host := "") (Or.inl (hw _ (List.mem_of_getElem? (i := 16) rfl))) Via.refl e1 Fk0 (g := (mkF m 9 #[.val (.ref o0), .val (.int p1), .val (.long q2), .second, .val (.long q3), .second, .val (.int at_)] [(.ref o0)])) rfl rfl (hb hby d10_9)
  refine Go.step (g' := (mkF m 12 #[.val (.ref o0), .val (.int p1), .val (.long q2), .second, .val (.long q3), .second, .val (.int at_)] [(.ref ka)])) st2 ?_
  refine Go.step (g' := (mkF m 13 #[.val (.ref o0), .val (.int p1), .val (.long q2), .second, .val (.long q3), .second, .val (.int at_)] [(.int p1), (.ref ka)])) (fun _ k => XS.iloadN X2.here hx rfl (hb hby d10_12) rfl  k) ?_
  refine Go.step (g' := (mkF m 14 #[.val (.ref o0), .val (.int p1), .val (.long q2), .second, .val (.long q3), .second, .val (.int at_)] [(.ref xa)])) (fun _ k => getAV X2 hx hZ e2 Ak0 (j := p1) (v := (.ref xa)) hbb hka (gf := (mkF m 13 #[.val (.ref o0), .val (.int p1), .val (.long q2), .second, .val (.long q3), .second, .val (.int at_)] [(.int p1), (.ref ka)])) rfl rfl (hb hby d10_13) k) ?_
  refine Go.step (g' := (mkF m 40 #[.val (.ref o0), .val (.int p1), .val (.long q2), .second, .val (.long q3), .second, .val (.int at_)] [])) (fun _ k => XS.ifnonnullYes X2.here hx rfl (pc0 := 14) (pc' := 40) rfl (hb hby d10_14) rfl (by decide) (by decide) k) ?_
  skip
  refine Go.step (g' := (mkF m 42 #[.val (.ref o0), .val (.int p1), .val (.long q2), .second, .val (.long q3), .second, .val (.int at_)] [(.int at_)])) (fun _ k => XS.iload X2.here hx rfl (hb hby d10_40) rfl  k) ?_
  refine Go.step (g' := (mkF m 43 #[.val (.ref o0), .val (.int p1), .val (.long q2), .second, .val (.long q3), .second, .val (.int at_)] [(.ref o0), (.int at_)])) (fun _ k => XS.aloadN X2.here hx rfl (hb hby d10_42) rfl rfl  k) ?_
  obtain ⟨T3, X3, e3, st3⟩ := getF X2 hx hZ hown (host := "") (Or.inl (hw _ (List.mem_of_getElem? (i := 16) rfl))) Via.refl e2 Fk0 (g := (mkF m 43 #[.val (.ref o0), .val (.int p1), .val (.long q2), .second, .val (.long q3), .second, .val (.int at_)] [(.ref o0), (.int at_)])) rfl rfl (hb hby d10_43)
  refine Go.step (g' := (mkF m 46 #[.val (.ref o0), .val (.int p1), .val (.long q2), .second, .val (.long q3), .second, .val (.int at_)] [(.ref ka), (.int at_)])) st3 ?_
  refine Go.step (g' := (mkF m 47 #[.val (.ref o0), .val (.int p1), .val (.long q2), .second, .val (.long q3), .second, .val (.int at_)] [(.int p1), (.ref ka), (.int at_)])) (fun _ k => XS.iloadN X3.here hx rfl (hb hby d10_46) rfl  k) ?_
  refine Go.step (g' := (mkF m 48 #[.val (.ref o0), .val (.int p1), .val (.long q2), .second, .val (.long q3), .second, .val (.int at_)] [(.ref xa), (.int at_)])) (fun _ k => getAV X3 hx hZ e3 Ak0 (j := p1) (v := (.ref xa)) hbb hka (gf := (mkF m 47 #[.val (.ref o0), .val (.int p1), .val (.long q2), .second, .val (.long q3), .second, .val (.int at_)] [(.int p1), (.ref ka), (.int at_)])) rfl rfl (hb hby d10_47) k) ?_
  refine Go.step (g' := (mkF m 49 #[.val (.ref o0), .val (.int p1), .val (.long q2), .second, .val (.long q3), .second, .val (.int at_)] [(.int (16 : Int32)), (.int at_)])) (fun _ k => getLen X3 hx hZ e3 Aa rfl (gf := (mkF m 48 #[.val (.ref o0), .val (.int p1), .val (.long q2), .second, .val (.long q3), .second, .val (.int at_)] [(.ref xa), (.int at_)])) rfl rfl (hb hby d10_48) k) ?_
  refine Go.step (g' := (mkF m 90 #[.val (.ref o0), .val (.int p1), .val (.long q2), .second, .val (.long q3), .second, .val (.int at_)] [])) (fun _ k => XS.icmpYes X3.here hx rfl (pc0 := 49) (pc' := 90) rfl (hb hby d10_49) rfl (feq (fun e => hat16 (Or.inr (by rw [e]; decide)) : ¬ (at_ = (16 : Int32)))).2 (by decide) (by decide) k) ?_
  skip
  refine Go.step (g' := (mkF m 91 #[.val (.ref o0), .val (.int p1), .val (.long q2), .second, .val (.long q3), .second, .val (.int at_)] [(.ref o0)])) (fun _ k => XS.aloadN X3.here hx rfl (hb hby d10_90) rfl rfl  k) ?_
  obtain ⟨T4, X4, e4, st4⟩ := getF X3 hx hZ hown (host := "") (Or.inl (hw _ (List.mem_of_getElem? (i := 16) rfl))) Via.refl e3 Fk0 (g := (mkF m 91 #[.val (.ref o0), .val (.int p1), .val (.long q2), .second, .val (.long q3), .second, .val (.int at_)] [(.ref o0)])) rfl rfl (hb hby d10_91)
  refine Go.step (g' := (mkF m 94 #[.val (.ref o0), .val (.int p1), .val (.long q2), .second, .val (.long q3), .second, .val (.int at_)] [(.ref ka)])) st4 ?_
  refine Go.step (g' := (mkF m 95 #[.val (.ref o0), .val (.int p1), .val (.long q2), .second, .val (.long q3), .second, .val (.int at_)] [(.int p1), (.ref ka)])) (fun _ k => XS.iloadN X4.here hx rfl (hb hby d10_94) rfl  k) ?_
  refine Go.step (g' := (mkF m 96 #[.val (.ref o0), .val (.int p1), .val (.long q2), .second, .val (.long q3), .second, .val (.int at_)] [(.ref xa)])) (fun _ k => getAV X4 hx hZ e4 Ak0 (j := p1) (v := (.ref xa)) hbb hka (gf := (mkF m 95 #[.val (.ref o0), .val (.int p1), .val (.long q2), .second, .val (.long q3), .second, .val (.int at_)] [(.int p1), (.ref ka)])) rfl rfl (hb hby d10_95) k) ?_
  refine Go.step (g' := (mkF m 98 #[.val (.ref o0), .val (.int p1), .val (.long q2), .second, .val (.long q3), .second, .val (.int at_)] [(.int at_), (.ref xa)])) (fun _ k => XS.iload X4.here hx rfl (hb hby d10_96) rfl  k) ?_
  refine Go.step (g' := (mkF m 99 #[.val (.ref o0), .val (.int p1), .val (.long q2), .second, .val (.long q3), .second, .val (.int at_)] [(.long q2), (.int at_), (.ref xa)])) (fun _ k => XS.lloadN X4.here hx rfl (hb hby d10_98) rfl  k) ?_
  obtain ⟨T5, h5, lc5, X5, e5, W5, N5, V5, st5⟩ := putAJ X4 hx hZ e4 Aa (j := at_) hat16 N0 g_xa (gf := (mkF m 99 #[.val (.ref o0), .val (.int p1), .val (.long q2), .second, .val (.long q3), .second, .val (.int at_)] [(.long q2), (.int at_), (.ref xa)])) rfl rfl (hb hby d10_99)
  refine Go.step (g' := (mkF m 100 #[.val (.ref o0), .val (.int p1), .val (.long q2), .second, .val (.long q3), .second, .val (.int at_)] [])) st5 ?_
  have Q6 := ((Keep.refl h0 [o0, ka, va, sa, la, xa, xc]).wr W5 (Or.inl (List.mem_of_getElem? (i := 5) rfl)))
  refine Go.step (g' := (mkF m 101 #[.val (.ref o0), .val (.int p1), .val (.long q2), .second, .val (.long q3), .second, .val (.int at_)] [(.ref o0)])) (fun _ k => XS.aloadN X5.here hx rfl (hb hby d10_100) rfl rfl  k) ?_
  obtain ⟨T7, X7, e7, st7⟩ := getF X5 hx hZ hown (host := "") (Or.inl (hw _ (List.mem_of_getElem? (i := 18) rfl))) Via.refl e5 (Fv0.other W5 (Or.inl n_o0_xa)) (g := (mkF m 101 #[.val (.ref o0), .val (.int p1), .val (.long q2), .second, .val (.long q3), .second, .val (.int at_)] [(.ref o0)])) rfl rfl (hb hby d10_101)
  refine Go.step (g' := (mkF m 104 #[.val (.ref o0), .val (.int p1), .val (.long q2), .second, .val (.long q3), .second, .val (.int at_)] [(.ref va)])) st7 ?_
  refine Go.step (g' := (mkF m 105 #[.val (.ref o0), .val (.int p1), .val (.long q2), .second, .val (.long q3), .second, .val (.int at_)] [(.int p1), (.ref va)])) (fun _ k => XS.iloadN X7.here hx rfl (hb hby d10_104) rfl  k) ?_
  refine Go.step (g' := (mkF m 106 #[.val (.ref o0), .val (.int p1), .val (.long q2), .second, .val (.long q3), .second, .val (.int at_)] [(.ref xc)])) (fun _ k => getAV X7 hx hZ e7 (Av0.other W5 n_va_xa) (j := p1) (v := (.ref xc)) hbb hvc (gf := (mkF m 105 #[.val (.ref o0), .val (.int p1), .val (.long q2), .second, .val (.long q3), .second, .val (.int at_)] [(.int p1), (.ref va)])) rfl rfl (hb hby d10_105) k) ?_
  refine Go.step (g' := (mkF m 108 #[.val (.ref o0), .val (.int p1), .val (.long q2), .second, .val (.long q3), .second, .val (.int at_)] [(.int at_), (.ref xc)])) (fun _ k => XS.iload X7.here hx rfl (hb hby d10_106) rfl  k) ?_
  refine Go.step (g' := (mkF m 110 #[.val (.ref o0), .val (.int p1), .val (.long q2), .second, .val (.long q3), .second, .val (.int at_)] [(.long q3), (.int at_), (.ref xc)])) (fun _ k => XS.lload X7.here hx rfl (hb hby d10_108) rfl  k) ?_
  obtain ⟨T8, h8, lc8, X8, e8, W8, N8, V8, st8⟩ := putAJ X7 hx hZ e7 (Ac.other W5 (Ne.symm n_xa_xc)) (j := at_) hat16 N5 g_xc (gf := (mkF m 110 #[.val (.ref o0), .val (.int p1), .val (.long q2), .second, .val (.long q3), .second, .val (.int at_)] [(.long q3), (.int at_), (.ref xc)])) rfl rfl (hb hby d10_110)
  refine Go.step (g' := (mkF m 111 #[.val (.ref o0), .val (.int p1), .val (.long q2), .second, .val (.long q3), .second, .val (.int at_)] [])) st8 ?_
  have Q9 := (Nat.le_trans (Nat.le_trans Z0 (Keep.of_wr W5).1) (Keep.of_wr W8).1)
  refine Go.step (g' := (mkF m 112 #[.val (.ref o0), .val (.int p1), .val (.long q2), .second, .val (.long q3), .second, .val (.int at_)] [(.ref o0)])) (fun _ k => XS.aloadN X8.here hx rfl (hb hby d10_111) rfl rfl  k) ?_
  obtain ⟨T10, X10, e10, st10⟩ := getF X8 hx hZ hown (host := "") (Or.inl (hw _ (List.mem_of_getElem? (i := 24) rfl))) Via.refl e8 ((Fl0.other W5 (Or.inl n_o0_xa)).other W8 (Or.inl n_o0_xc)) (g := (mkF m 112 #[.val (.ref o0), .val (.int p1), .val (.long q2), .second, .val (.long q3), .second, .val (.int at_)] [(.ref o0)])) rfl rfl (hb hby d10_112)
  refine Go.step (g' := (mkF m 115 #[.val (.ref o0), .val (.int p1), .val (.long q2), .second, .val (.long q3), .second, .val (.int at_)] [(.ref la)])) st10 ?_
  refine Go.step (g' := (mkF m 116 #[.val (.ref o0), .val (.int p1), .val (.long q2), .second, .val (.long q3), .second, .val (.int at_)] [(.int p1), (.ref la)])) (fun _ k => XS.iloadN X10.here hx rfl (hb hby d10_115) rfl  k) ?_
  refine Go.step (g' := (mkF m 118 #[.val (.ref o0), .val (.int p1), .val (.long q2), .second, .val (.long q3), .second, .val (.int at_)] [(.int at_), (.int p1), (.ref la)])) (fun _ k => XS.iload X10.here hx rfl (hb hby d10_116) rfl  k) ?_
  have t135 : ∀ (T_135 : State) (X_135 : Stand p l e ({ frames := 1, cells := 2, slots := 32, locals := 17 } : Room) s m #[(.ref o0), (.int p1), (.long q2), (.long q3)] below meth c T_135 lc8 0 0) (e_135 : T_135.heap = h8) (v135_s0 : Int64) (hv : (at_ = 0 ∧ v135_s0 = q2) ∨ (¬ at_ = 0 ∧ v135_s0 = (f11_0 (lf p1.toNatClampNeg) q2))), Go p e below s 2 32 (QP Z h0 n0 o0 ka va sa la tg M sf w z n p1.toNatClampNeg) T_135 (mkF m 135 #[.val (.ref o0), .val (.int p1), .val (.long q2), .second, .val (.long q3), .second, .val (.int at_)] [(.long v135_s0), (.int p1), (.ref la)]) := by
    intro T_135 X_135 e_135 v135_s0 hv
    obtain ⟨T13, h13, lc13, X13, e13, W13, N13, V13, st13⟩ := putAJ X_135 hx hZ e_135 ((Al0.other W5 n_la_xa).other W8 n_la_xc) (j := p1) hbb N8 g_la (gf := (mkF m 135 #[.val (.ref o0), .val (.int p1), .val (.long q2), .second, .val (.long q3), .second, .val (.int at_)] [(.long v135_s0), (.int p1), (.ref la)])) rfl rfl (hb hby d10_135)
    refine Go.step (g' := (mkF m 136 #[.val (.ref o0), .val (.int p1), .val (.long q2), .second, .val (.long q3), .second, .val (.int at_)] [])) st13 ?_
    have Q14 := (((Fk0.other W5 (Or.inl n_o0_xa)).other W8 (Or.inl n_o0_xc)).other W13 (Or.inl n_o0_la))
    have Q15 := (((Fv0.other W5 (Or.inl n_o0_xa)).other W8 (Or.inl n_o0_xc)).other W13 (Or.inl n_o0_la))
    have Q16 := (((Fs0.other W5 (Or.inl n_o0_xa)).other W8 (Or.inl n_o0_xc)).other W13 (Or.inl n_o0_la))
    have Q17 := (((Fl0.other W5 (Or.inl n_o0_xa)).other W8 (Or.inl n_o0_xc)).other W13 (Or.inl n_o0_la))
    have Q18 := (((Fu0.other W5 (Or.inl n_o0_xa)).other W8 (Or.inl n_o0_xc)).other W13 (Or.inl n_o0_la))
    have Q19 := (((Fw0.other W5 (Or.inl n_o0_xa)).other W8 (Or.inl n_o0_xc)).other W13 (Or.inl n_o0_la))
    have Q20 := (((Fz0.other W5 (Or.inl n_o0_xa)).other W8 (Or.inl n_o0_xc)).other W13 (Or.inl n_o0_la))
    have Q21 := (((Ak0.other W5 n_ka_xa).other W8 n_ka_xc).other W13 n_ka_la)
    have Q22 := (((Av0.other W5 n_va_xa).other W8 n_va_xc).other W13 n_va_la)
    have Q23 := (((As0.other W5 n_sa_xa).other W8 n_sa_xc).other W13 n_sa_la)
    have Q24 := ((Q6.wr W8 (Or.inl (List.mem_of_getElem? (i := 6) rfl))).wr W13 (Or.inl (List.mem_of_getElem? (i := 4) rfl)))
    refine Go.step (g' := (mkF m 137 #[.val (.ref o0), .val (.int p1), .val (.long q2), .second, .val (.long q3), .second, .val (.int at_)] [(.ref o0)])) (fun _ k => XS.aloadN X13.here hx rfl (hb hby d10_136) rfl rfl  k) ?_
    obtain ⟨T25, X25, e25, st25⟩ := getF X13 hx hZ hown (host := "") (Or.inl (hw _ (List.mem_of_getElem? (i := 21) rfl))) Via.refl e13 Q16 (g := (mkF m 137 #[.val (.ref o0), .val (.int p1), .val (.long q2), .second, .val (.long q3), .second, .val (.int at_)] [(.ref o0)])) rfl rfl (hb hby d10_137)
    refine Go.step (g' := (mkF m 140 #[.val (.ref o0), .val (.int p1), .val (.long q2), .second, .val (.long q3), .second, .val (.int at_)] [(.ref sa)])) st25 ?_
    refine Go.step (g' := (mkF m 141 #[.val (.ref o0), .val (.int p1), .val (.long q2), .second, .val (.long q3), .second, .val (.int at_)] [(.int p1), (.ref sa)])) (fun _ k => XS.iloadN X25.here hx rfl (hb hby d10_140) rfl  k) ?_
    refine Go.step (g' := (mkF m 143 #[.val (.ref o0), .val (.int p1), .val (.long q2), .second, .val (.long q3), .second, .val (.int at_)] [(.int at_), (.int p1), (.ref sa)])) (fun _ k => XS.iload X25.here hx rfl (hb hby d10_141) rfl  k) ?_
    refine Go.step (g' := (mkF m 144 #[.val (.ref o0), .val (.int p1), .val (.long q2), .second, .val (.long q3), .second, .val (.int at_)] [(.int (1 : Int32)), (.int at_), (.int p1), (.ref sa)])) (fun _ k => XS.iconst X25.here hx rfl (hb hby d10_143) k) ?_
    refine Go.step (g' := (mkF m 145 #[.val (.ref o0), .val (.int p1), .val (.long q2), .second, .val (.long q3), .second, .val (.int at_)] [(.int (at_ + (1 : Int32))), (.int p1), (.ref sa)])) (fun _ k => XS.iadd X25.here hx rfl (hb hby d10_144) rfl k) ?_
    obtain ⟨T26, h26, lc26, X26, e26, W26, N26, V26, st26⟩ := putAI X25 hx hZ e25 Q23 (j := p1) hbb N13 g_sa (gf := (mkF m 145 #[.val (.ref o0), .val (.int p1), .val (.long q2), .second, .val (.long q3), .second, .val (.int at_)] [(.int (at_ + (1 : Int32))), (.int p1), (.ref sa)])) rfl rfl (hb hby d10_145)
    refine Go.step (g' := (mkF m 146 #[.val (.ref o0), .val (.int p1), .val (.long q2), .second, .val (.long q3), .second, .val (.int at_)] [])) st26 ?_
    have Q27 := (((V5.other W8 n_xa_xc).other W13 (Ne.symm n_la_xa)).other W26 (Ne.symm n_sa_xa))
    have Q28 := ((V8.other W13 (Ne.symm n_la_xc)).other W26 (Ne.symm n_sa_xc))
    have Q29 := (Nat.le_trans (Nat.le_trans Q9 (Keep.of_wr W13).1) (Keep.of_wr W26).1)
    refine Go.step (g' := (mkF m 147 #[.val (.ref o0), .val (.int p1), .val (.long q2), .second, .val (.long q3), .second, .val (.int at_)] [(.ref o0)])) (fun _ k => XS.aloadN X26.here hx rfl (hb hby d10_146) rfl rfl  k) ?_
    refine Go.step (g' := (mkF m 148 #[.val (.ref o0), .val (.int p1), .val (.long q2), .second, .val (.long q3), .second, .val (.int at_)] [(.ref o0), (.ref o0)])) (fun _ k => XS.dup X26.here hx rfl (hb hby d10_147) rfl rfl k) ?_
    obtain ⟨T30, X30, e30, st30⟩ := getF X26 hx hZ hown (host := "") (Or.inl (hw _ (List.mem_of_getElem? (i := 62) rfl))) Via.refl e26 (Q18.other W26 (Or.inl n_o0_sa)) (g := (mkF m 148 #[.val (.ref o0), .val (.int p1), .val (.long q2), .second, .val (.long q3), .second, .val (.int at_)] [(.ref o0), (.ref o0)])) rfl rfl (hb hby d10_148)
    refine Go.step (g' := (mkF m 151 #[.val (.ref o0), .val (.int p1), .val (.long q2), .second, .val (.long q3), .second, .val (.int at_)] [(.long u), (.ref o0)])) st30 ?_
    refine Go.step (g' := (mkF m 152 #[.val (.ref o0), .val (.int p1), .val (.long q2), .second, .val (.long q3), .second, .val (.int at_)] [(.long (1 : Int64)), (.long u), (.ref o0)])) (fun _ k => XS.lconst X30.here hx rfl (hb hby d10_151) k) ?_
    refine Go.step (g' := (mkF m 153 #[.val (.ref o0), .val (.int p1), .val (.long q2), .second, .val (.long q3), .second, .val (.int at_)] [(.int p1), (.long (1 : Int64)), (.long u), (.ref o0)])) (fun _ k => XS.iloadN X30.here hx rfl (hb hby d10_152) rfl  k) ?_
    refine Go.step (g' := (mkF m 154 #[.val (.ref o0), .val (.int p1), .val (.long q2), .second, .val (.long q3), .second, .val (.int at_)] [(.long ((1 : Int64) <<< (p1 &&& 0x3f).toInt64)), (.long u), (.ref o0)])) (fun _ k => XS.lshl X30.here hx rfl (hb hby d10_153) rfl k) ?_
    refine Go.step (g' := (mkF m 155 #[.val (.ref o0), .val (.int p1), .val (.long q2), .second, .val (.long q3), .second, .val (.int at_)] [(.long (u ||| ((1 : Int64) <<< (p1 &&& 0x3f).toInt64))), (.ref o0)])) (fun _ k => XS.lor X30.here hx rfl (hb hby d10_154) rfl k) ?_
    obtain ⟨T31, h31, X31, e31, W31, st31⟩ := putF X30 hx hZ hown (host := "") (Or.inl (hw _ (List.mem_of_getElem? (i := 62) rfl))) Via.refl e30 (Q18.other W26 (Or.inl n_o0_sa)) ((((E0.wr W5).wr W8).wr W13).wr W26) (Or.inl (hw _ (List.mem_of_getElem? (i := 63) rfl))) (hw _ (List.mem_of_getElem? (i := 6) rfl)) (ty := .long) (by decide) rfl rfl (g := (mkF m 155 #[.val (.ref o0), .val (.int p1), .val (.long q2), .second, .val (.long q3), .second, .val (.int at_)] [(.long (u ||| ((1 : Int64) <<< (p1 &&& 0x3f).toInt64))), (.ref o0)])) rfl rfl (hb hby d10_155)
    obtain ⟨lc31, X31, N31⟩ := own_pack X31 (Fr.snoc X31 N26 g_o0)
    have Fw31 := (Q18.other W26 (Or.inl n_o0_sa)).same W31
    refine Go.step (g' := (mkF m 158 #[.val (.ref o0), .val (.int p1), .val (.long q2), .second, .val (.long q3), .second, .val (.int at_)] [])) st31 ?_
    have Q32 := ((Q14.other W26 (Or.inl n_o0_sa)).other W31 (Or.inr (slot_ne (Or.inr (hw _ (List.mem_of_getElem? (i := 17) rfl))) (Or.inl (hw _ (List.mem_of_getElem? (i := 63) rfl))) (by decide) (t := (.array (.array .long))) (t' := .long) (by decide) (by decide))))
    have Q33 := ((Q15.other W26 (Or.inl n_o0_sa)).other W31 (Or.inr (slot_ne (Or.inr (hw _ (List.mem_of_getElem? (i := 19) rfl))) (Or.inl (hw _ (List.mem_of_getElem? (i := 63) rfl))) (by decide) (t := (.array (.array .long))) (t' := .long) (by decide) (by decide))))
    have Q34 := ((Q16.other W26 (Or.inl n_o0_sa)).other W31 (Or.inr (slot_ne (Or.inr (hw _ (List.mem_of_getElem? (i := 22) rfl))) (Or.inl (hw _ (List.mem_of_getElem? (i := 63) rfl))) (by decide) (t := (.array .int)) (t' := .long) (by decide) (by decide))))
    have Q35 := ((Q17.other W26 (Or.inl n_o0_sa)).other W31 (Or.inr (slot_ne (Or.inr (hw _ (List.mem_of_getElem? (i := 25) rfl))) (Or.inl (hw _ (List.mem_of_getElem? (i := 63) rfl))) (by decide) (t := (.array .long)) (t' := .long) (by decide) (by decide))))
    have Q36 := ((Q19.other W26 (Or.inl n_o0_sa)).other W31 (Or.inr (slot_ne (Or.inl (hw _ (List.mem_of_getElem? (i := 43) rfl))) (Or.inl (hw _ (List.mem_of_getElem? (i := 63) rfl))) (by decide) (t := .long) (t' := .long) (by decide) (by decide))))
    have Q37 := ((Q20.other W26 (Or.inl n_o0_sa)).other W31 (Or.inr (slot_ne (Or.inl (hw _ (List.mem_of_getElem? (i := 36) rfl))) (Or.inl (hw _ (List.mem_of_getElem? (i := 63) rfl))) (by decide) (t := .int) (t' := .long) (by decide) (by decide))))
    have Q38 := ((V13.other W26 (Ne.symm n_sa_la)).other W31 (Ne.symm n_o0_la))
    have Q39 := ((Q24.wr W26 (Or.inl (List.mem_of_getElem? (i := 3) rfl))).wr W31 (Or.inl (List.mem_of_getElem? (i := 0) rfl)))
    exact Go.ret0 X31 hx hlk Bd.returns (hb hby d10_158) (by decide) (by decide) (by rw [e31]; exact (own_putEnd (tg' := tg) (g := g) (gv := gv) J0 G0 ⟨E0.lt, Ak0.lt, Av0.lt, As0.lt, Al0.lt⟩ hbb Q39 (own_ws7 G0 t_xa t_xc) (fun x hx => rfl) J0.2.2.2.2 (fun j hj => rfl) (fun j hj => rfl) hka hvc t_xa t_xc (Q27.other W31 (Ne.symm n_o0_xa)) (Q28.other W31 (Ne.symm n_o0_xc)) hat_ hn (hat_ ▸ hg) (hat_ ▸ hl) hk0 hkM (own_minE hv) ⟨(((((E0.wr W5).wr W8).wr W13).wr W26).wr W31), Q32, Q33, Q34, Q35, Fw31, Q36, Q37, ((Q21.other W26 n_ka_sa).other W31 (Ne.symm n_o0_ka)), ((Q22.other W26 n_va_sa).other W31 (Ne.symm n_o0_va)), (V26.other W31 (Ne.symm n_o0_sa)), Q38⟩ N31))
  by_cases hc118 : at_ = (0 : Int32)
  · skip
    refine Go.step (g' := (mkF m 121 #[.val (.ref o0), .val (.int p1), .val (.long q2), .second, .val (.long q3), .second, .val (.int at_)] [(.int p1), (.ref la)])) (fun _ k => XS.ifNo X10.here hx rfl (hb hby d10_118) rfl ((if0 _ _).trans (teq hc118).2) k) ?_
    refine Go.step (g' := (mkF m 122 #[.val (.ref o0), .val (.int p1), .val (.long q2), .second, .val (.long q3), .second, .val (.int at_)] [(.long q2), (.int p1), (.ref la)])) (fun _ k => XS.lloadN X10.here hx rfl (hb hby d10_121) rfl  k) ?_
    refine Go.step (g' := (mkF m 135 #[.val (.ref o0), .val (.int p1), .val (.long q2), .second, .val (.long q3), .second, .val (.int at_)] [(.long q2), (.int p1), (.ref la)])) (fun _ k => XS.goto X10.here hx rfl (pc0 := 122) (pc' := 135) rfl (hb hby d10_122) (by decide) (by decide) k) ?_
    skip
    exact t135 T10 X10 e10 q2 (by first | exact Or.inl ⟨hc118, rfl⟩ | exact Or.inr ⟨hc118, rfl⟩)
  · skip
    refine Go.step (g' := (mkF m 125 #[.val (.ref o0), .val (.int p1), .val (.long q2), .second, .val (.long q3), .second, .val (.int at_)] [(.int p1), (.ref la)])) (fun _ k => XS.ifYes X10.here hx rfl (pc0 := 118) (pc' := 125) rfl (hb hby d10_118) rfl ((if0 _ _).trans (feq hc118).2) (by decide) (by decide) k) ?_
    refine Go.step (g' := (mkF m 126 #[.val (.ref o0), .val (.int p1), .val (.long q2), .second, .val (.long q3), .second, .val (.int at_)] [(.ref o0), (.int p1), (.ref la)])) (fun _ k => XS.aloadN X10.here hx rfl (hb hby d10_125) rfl rfl  k) ?_
    obtain ⟨T11, X11, e11, st11⟩ := getF X10 hx hZ hown (host := "") (Or.inl (hw _ (List.mem_of_getElem? (i := 24) rfl))) Via.refl e10 ((Fl0.other W5 (Or.inl n_o0_xa)).other W8 (Or.inl n_o0_xc)) (g := (mkF m 126 #[.val (.ref o0), .val (.int p1), .val (.long q2), .second, .val (.long q3), .second, .val (.int at_)] [(.ref o0), (.int p1), (.ref la)])) rfl rfl (hb hby d10_126)
    refine Go.step (g' := (mkF m 129 #[.val (.ref o0), .val (.int p1), .val (.long q2), .second, .val (.long q3), .second, .val (.int at_)] [(.ref la), (.int p1), (.ref la)])) st11 ?_
    refine Go.step (g' := (mkF m 130 #[.val (.ref o0), .val (.int p1), .val (.long q2), .second, .val (.long q3), .second, .val (.int at_)] [(.int p1), (.ref la), (.int p1), (.ref la)])) (fun _ k => XS.iloadN X11.here hx rfl (hb hby d10_129) rfl  k) ?_
    refine Go.step (g' := (mkF m 131 #[.val (.ref o0), .val (.int p1), .val (.long q2), .second, .val (.long q3), .second, .val (.int at_)] [(.long (lf p1.toNatClampNeg)), (.int p1), (.ref la)])) (fun _ k => getAJ X11 hx hZ e11 ((Al0.other W5 n_la_xa).other W8 n_la_xc) (j := p1) hbb (gf := (mkF m 130 #[.val (.ref o0), .val (.int p1), .val (.long q2), .second, .val (.long q3), .second, .val (.int at_)] [(.int p1), (.ref la), (.int p1), (.ref la)])) rfl rfl (hb hby d10_130) k) ?_
    refine Go.step (g' := (mkF m 132 #[.val (.ref o0), .val (.int p1), .val (.long q2), .second, .val (.long q3), .second, .val (.int at_)] [(.long q2), (.long (lf p1.toNatClampNeg)), (.int p1), (.ref la)])) (fun _ k => XS.lloadN X11.here hx rfl (hb hby d10_131) rfl  k) ?_
    obtain ⟨_, _, ⟨T12, L12, k12, n12⟩, -, X12, ⟨Lc12, hQ12, l12, y12, z12⟩, st12⟩ := Jvm.LawKit.callS X11 hx (y := (⟨"java/lang/Math", "min", "(JJ)J"⟩ : MethodName)) hown (mvT hZ (hw _ (List.mem_of_getElem? (i := 64) rfl))) (mvT hZ (hw _ (List.mem_of_getElem? (i := 65) rfl))) (mvT hZ (hw _ (List.mem_of_getElem? (i := 3) rfl))) (mvT hZ (hw _ (List.mem_of_getElem? (i := 66) rfl))) (by decide) (backOf (W := 2) (rm11 l Z a0 hw [] (lf p1.toNatClampNeg) q2 h8 ) hZ (hw _ (List.mem_of_getElem? (i := 66) rfl)) (hw _ (List.mem_of_getElem? (i := 3) rfl)) (by decide) (by decide)) (g := (mkF m 132 #[.val (.ref o0), .val (.int p1), .val (.long q2), .second, .val (.long q3), .second, .val (.int at_)] [(.long q2), (.long (lf p1.toNatClampNeg)), (.int p1), (.ref la)])) rfl (by rw [hml]; rfl) (argsL := [(.long (lf p1.toNatClampNeg)), (.long q2)]) (rest := [(.int p1), (.ref la)]) (lenOf pd_3 rfl) rfl (by show 2 * 0 + _ ≤ _; exact Nat.le_of_eq rfl) (hb hby d10_132) (fun _ _ => ⟨rfl, e11, (by decide : 0 + 0 ≤ _), (by decide : 0 + 0 ≤ _)⟩)
    dsimp only [Pt.U, Pt.locs, Pt.cells, Pt.slots] at X12 l12 y12 z12 st12 hQ12
    subst l12 y12 z12
    obtain ⟨rfl, rfl, e12⟩ := hQ12
    try rw [List.append_nil] at X12
    refine Go.step (g' := (mkF m 135 #[.val (.ref o0), .val (.int p1), .val (.long q2), .second, .val (.long q3), .second, .val (.int at_)] [(.long (f11_0 (lf p1.toNatClampNeg) q2)), (.int p1), (.ref la)])) st12 ?_
    skip
    exact t135 T12 X12 e12 (f11_0 (lf p1.toNatClampNeg) q2) (by first | exact Or.inl ⟨hc118, rfl⟩ | exact Or.inr ⟨hc118, rfl⟩)
set_option maxRecDepth 65536 in
theorem rm10 (l : Launch) (Z : State) (a0 : Array Value) (hw : ∀ d ∈ tables_1, d.before a0 Z = true) (ws : List Jvm.Cond) (o0 : Addr) (p1 : Int32) (q2 : Int64) (q3 : Int64) (ka : Addr) (va : Addr) (sa : Addr) (la : Addr) (tg : Addr → Nat) (kf : Nat → Value) (vf : Nat → Value) (sf : Nat → Int32) (lf : Nat → Int64) (u : Int64) (w : Int64) (z : Int32) (M : Int64) (n : Nat) (h0 : Heap) (n0 : Nat) (Z0 : n0 ≤ h0.size) (R0 : RF Z h0 o0 ka va sa la kf vf sf lf u w z) (G0 : TG tg o0 ka va sa la) (J0 : JJ Z h0 n0 tg M kf vf sf lf u n) (hbb : ¬ (p1 < 0 ∨ 64 ≤ p1.toNatClampNeg)) (hn : n < 16) (hk0 : ¬ q2 < 0) (hkM : ¬ M < q2) :
    MetFree l (⟨"com/example/redelivery/redelivery/RadixHeap", "put", "(IJJ)V"⟩ : MethodName) (head1 (Jvm.Cond.code (⟨"com/example/redelivery/redelivery/RadixHeap", "put", "(IJJ)V"⟩ : MethodName) prog_23_method_10_code 7 none :: ws) ({ frames := 1, cells := 2, slots := 32, locals := 17 } : Room)) (fun a U => a = #[(.ref o0), (.int p1), (.long q2), (.long q3)] ∧ Z.Warmed39 U.vm ∧ U.heap = h0) (fun _ _ _ _ _ => True) (fun _ U o U' => ∃ v L, o = .returned v ∧ (QP Z h0 n0 o0 ka va sa la tg M sf w z n p1.toNatClampNeg) v U'.heap L ∧ FrameEnd U o U' L ({ frames := 1, cells := 2, slots := 32, locals := 17 } : Room).cells ({ frames := 1, cells := 2, slots := 32, locals := 17 } : Room).slots) := by
  rcases J0.1 _ (own_lt hbb) with ⟨hkn, hz⟩ | ⟨xa, xc, g, gv, hka, hvc, t_xa, t_xc, Aa, Ac, hg, hl⟩
  · exact rm10a l Z a0 hw ws o0 p1 q2 q3 ka va sa la tg kf vf sf lf u w z M n h0 n0 Z0 R0 G0 J0 hbb hn hk0 hkM hkn hz
  · exact rm10b l Z a0 hw ws o0 p1 q2 q3 ka va sa la tg kf vf sf lf u w z M n xa xc g gv h0 n0 Z0 R0 G0 J0 hbb hn hk0 hkM hka hvc t_xa t_xc Aa Ac hg hl
theorem d6_0 : decode prog_23_method_4_code 0 = .ok (.lload_n 1, 1) := by decide +kernel
theorem d6_1 : decode prog_23_method_4_code 1 = .ok (.aload_n 0, 1) := by decide +kernel
theorem d6_2 : decode prog_23_method_4_code 2 = .ok (.getfield 31, 3) := by decide +kernel
theorem d6_5 : decode prog_23_method_4_code 5 = .ok (.lcmp, 1) := by decide +kernel
theorem d6_6 : decode prog_23_method_4_code 6 = .ok (.ifCond .ge 21, 3) := by decide +kernel
theorem d6_27 : decode prog_23_method_4_code 27 = .ok (.aload_n 0, 1) := by decide +kernel
theorem d6_28 : decode prog_23_method_4_code 28 = .ok (.aload_n 0, 1) := by decide +kernel
theorem d6_29 : decode prog_23_method_4_code 29 = .ok (.lload_n 1, 1) := by decide +kernel
theorem d6_30 : decode prog_23_method_4_code 30 = .ok (.invokevirtual 44, 3) := by decide +kernel
theorem d6_33 : decode prog_23_method_4_code 33 = .ok (.lload_n 1, 1) := by decide +kernel
theorem d6_34 : decode prog_23_method_4_code 34 = .ok (.lload_n 3, 1) := by decide +kernel
theorem d6_35 : decode prog_23_method_4_code 35 = .ok (.invokevirtual 48, 3) := by decide +kernel
theorem d6_38 : decode prog_23_method_4_code 38 = .ok (.aload_n 0, 1) := by decide +kernel
theorem d6_39 : decode prog_23_method_4_code 39 = .ok (.dup, 1) := by decide +kernel
theorem d6_40 : decode prog_23_method_4_code 40 = .ok (.getfield 27, 3) := by decide +kernel
theorem d6_43 : decode prog_23_method_4_code 43 = .ok (.iconst 1, 1) := by decide +kernel
theorem d6_44 : decode prog_23_method_4_code 44 = .ok (.iadd, 1) := by decide +kernel
theorem d6_45 : decode prog_23_method_4_code 45 = .ok (.putfield 27, 3) := by decide +kernel
theorem d6_48 : decode prog_23_method_4_code 48 = .ok (.return_, 1) := by decide +kernel
theorem pn_6 : plainName "com/example/redelivery/redelivery/RadixHeap" = true := by first | (simp [plainName, overriddenIn]; done) | decide +kernel
theorem ef_6 (m : MethodId) (o0 : Addr) (q1 : Int64) (q2 : Int64) : entryFrame m #[(.ref o0), (.long q1), (.long q2)] 5 = mkF m 0 #[.val (.ref o0), .val (.long q1), .second, .val (.long q2), .second] [] := by first | (simp [entryFrame, mkF, argsToLocals, Value.category]; done) | rfl
def QD (Z : State) (o : Addr) (z : Int32) (B M : Int64) (n0 : Nat) (v : Option Value) (h : Heap) (L : List Loc) : Prop := v = none ∧ Fr n0 L ∧ RH Z h n0 o z B M
set_option maxRecDepth 65536 in
set_option maxHeartbeats 40000000 in
theorem rm6 (l : Launch) (Z : State) (a0 : Array Value) (hw : ∀ d ∈ tables_1, d.before a0 Z = true) (ws : List Jvm.Cond) (o0 : Addr) (q1 : Int64) (q2 : Int64) (z : Int32) (B : Int64) (M : Int64) (h0 : Heap) (n0 : Nat) (Z0 : n0 ≤ h0.size) (RR : RH Z h0 n0 o0 z B M) (hz8 : z.toInt ≤ 8) (hB : ¬ q1 < B) (hM : ¬ M < q1) :
    MetFree l (⟨"com/example/redelivery/redelivery/RadixHeap", "add", "(JJ)V"⟩ : MethodName) (head1 (Jvm.Cond.code (⟨"com/example/redelivery/redelivery/RadixHeap", "add", "(JJ)V"⟩ : MethodName) prog_23_method_4_code 5 none :: ws) ({ frames := 3, cells := 2, slots := 32, locals := 44 } : Room)) (fun a U => a = #[(.ref o0), (.long q1), (.long q2)] ∧ Z.Warmed39 U.vm ∧ U.heap = h0) (fun _ _ _ _ _ => True) (fun _ U o U' => ∃ v L, o = .returned v ∧ (QD Z o0 (z + 1) B M n0) v U'.heap L ∧ FrameEnd U o U' L ({ frames := 3, cells := 2, slots := 32, locals := 44 } : Room).cells ({ frames := 3, cells := 2, slots := 32, locals := 44 } : Room).slots) := by
  refine MetFree.of_bodySF (plainFor_of_name pn_6) hisR ?_
  intro p e s m args below meth c s₁ Bd hml0 hP hK
  obtain ⟨rfl, hZ, hh⟩ := hP
  have hx := Bd.exec
  have hby := Bd.bytes
  have hlk : meth.locks = false := BodyLoose.notSynchronized Bd
  have hml : c.maxLocals = 5 := hml0
  have hown : s.vm.findClass "com/example/redelivery/redelivery/RadixHeap" = some m.cls := findClass_of_methodNamed Bd.named
  have hnm := (name_of_methodNamed Bd.named Bd.method).1
  have X0 : Stand p l e ({ frames := 3, cells := 2, slots := 32, locals := 44 } : Room) s m #[(.ref o0), (.long q1), (.long q2)] below meth c s₁ ([] : List Loc) 0 0 := Stand.of_body Bd
  have e0 : s₁.heap = h0 := by rw [← hh, Bd.state]; rfl
  show Go p e below s 2 32 (QD Z o0 (z + 1) B M n0) s₁ (entryFrame m #[(.ref o0), (.long q1), (.long q2)] 5)
  rw [ef_6 m o0 q1 q2]
  have N0 := Fr.nil n0
  obtain ⟨ka, va, sa, la, tg, kf, vf, sf, lf, u, w, R0, G0, J0, hw0, hwB, hz0⟩ := RR
  obtain ⟨E0, Fk0, Fv0, Fs0, Fl0, Fu0, Fw0, Fz0, Ak0, Av0, As0, Al0⟩ := R0
  have n_o0_ka : o0 ≠ ka := own_tn G0.1 G0.2.1 (by decide)
  have n_o0_va : o0 ≠ va := own_tn G0.1 G0.2.2.1 (by decide)
  have n_o0_sa : o0 ≠ sa := own_tn G0.1 G0.2.2.2.1 (by decide)
  have n_o0_la : o0 ≠ la := own_tn G0.1 G0.2.2.2.2 (by decide)
  have n_ka_va : ka ≠ va := own_tn G0.2.1 G0.2.2.1 (by decide)
  have n_ka_sa : ka ≠ sa := own_tn G0.2.1 G0.2.2.2.1 (by decide)
  have n_ka_la : ka ≠ la := own_tn G0.2.1 G0.2.2.2.2 (by decide)
  have n_va_sa : va ≠ sa := own_tn G0.2.2.1 G0.2.2.2.1 (by decide)
  have n_va_la : va ≠ la := own_tn G0.2.2.1 G0.2.2.2.2 (by decide)
  have n_sa_la : sa ≠ la := own_tn G0.2.2.2.1 G0.2.2.2.2 (by decide)
  have g_o0 : n0 ≤ o0 := J0.2.2.2.2 _ (by rw [G0.1]; decide)
  have g_ka : n0 ≤ ka := J0.2.2.2.2 _ (by rw [G0.2.1]; decide)
  have g_va : n0 ≤ va := J0.2.2.2.2 _ (by rw [G0.2.2.1]; decide)
  have g_sa : n0 ≤ sa := J0.2.2.2.2 _ (by rw [G0.2.2.2.1]; decide)
  have g_la : n0 ≤ la := J0.2.2.2.2 _ (by rw [G0.2.2.2.2]; decide)
  refine Go.step (g' := (mkF m 1 #[.val (.ref o0), .val (.long q1), .second, .val (.long q2), .second] [(.long q1)])) (fun _ k => XS.lloadN X0.here hx rfl (hb hby d6_0) rfl  k) ?_
  refine Go.step (g' := (mkF m 2 #[.val (.ref o0), .val (.long q1), .second, .val (.long q2), .second] [(.ref o0), (.long q1)])) (fun _ k => XS.aloadN X0.here hx rfl (hb hby d6_1) rfl rfl  k) ?_
  obtain ⟨T1, X1, e1, st1⟩ := getF X0 hx hZ hown (host := "") (Or.inl (hw _ (List.mem_of_getElem? (i := 42) rfl))) Via.refl e0 Fw0 (g := (mkF m 2 #[.val (.ref o0), .val (.long q1), .second, .val (.long q2), .second] [(.ref o0), (.long q1)])) rfl rfl (hb hby d6_2)
  refine Go.step (g' := (mkF m 5 #[.val (.ref o0), .val (.long q1), .second, .val (.long q2), .second] [(.long w), (.long q1)])) st1 ?_
  refine Go.step (g' := (mkF m 6 #[.val (.ref o0), .val (.long q1), .second, .val (.long q2), .second] [(.int (lcmpW q1 w))])) (fun _ k => XS.lcmp X1.here hx rfl (hb hby d6_5) rfl k) ?_
  refine Go.step (g' := (mkF m 27 #[.val (.ref o0), .val (.long q1), .second, .val (.long q2), .second] [])) (fun _ k => XS.ifYes X1.here hx rfl (pc0 := 6) (pc' := 27) rfl (hb hby d6_6) rfl ((if0 _ _).trans (flt (own_ge hB hwB : ¬ ((lcmpW q1 w) < (0 : Int32)))).2.1) (by decide) (by decide) k) ?_
  skip
  refine Go.step (g' := (mkF m 28 #[.val (.ref o0), .val (.long q1), .second, .val (.long q2), .second] [(.ref o0)])) (fun _ k => XS.aloadN X1.here hx rfl (hb hby d6_27) rfl rfl  k) ?_
  refine Go.step (g' := (mkF m 29 #[.val (.ref o0), .val (.long q1), .second, .val (.long q2), .second] [(.ref o0), (.ref o0)])) (fun _ k => XS.aloadN X1.here hx rfl (hb hby d6_28) rfl rfl  k) ?_
  refine Go.step (g' := (mkF m 30 #[.val (.ref o0), .val (.long q1), .second, .val (.long q2), .second] [(.long q1), (.ref o0), (.ref o0)])) (fun _ k => XS.lloadN X1.here hx rfl (hb hby d6_29) rfl  k) ?_
  obtain ⟨cq2, qv2, qv2'⟩ := E0.cell
  obtain ⟨_, _, ⟨T2, L2, k2, n2⟩, -, X2, ⟨Lc2, hQ2, l2, y2, z2⟩, st2⟩ := X1.privateBack hx (y := (⟨"com/example/redelivery/redelivery/RadixHeap", "bucketOf", "(J)I"⟩ : MethodName)) hown (mvT hZ (hw _ (List.mem_of_getElem? (i := 44) rfl))) (mvT hZ (hw _ (List.mem_of_getElem? (i := 45) rfl))) (mvT hZ (own_selP (y := (⟨"com/example/redelivery/redelivery/RadixHeap", "bucketOf", "(J)I"⟩ : MethodName)) (by decide) (hw _ (List.mem_of_getElem? (i := 6) rfl)) (hw _ (List.mem_of_getElem? (i := 46) rfl)) (hw _ (List.mem_of_getElem? (i := 45) rfl)))) (Cond.privateMethod_at (mvP hZ (hw _ (List.mem_of_getElem? (i := 46) rfl)) (args := #[]))) (mvT hZ (hw _ (List.mem_of_getElem? (i := 47) rfl))) (by decide) (backOf (W := 1) (rm7 l Z a0 hw [] o0 q1 w h0 Fw0) hZ (hw _ (List.mem_of_getElem? (i := 47) rfl)) (hw _ (List.mem_of_getElem? (i := 7) rfl)) (by decide) (by decide)) (g := (mkF m 30 #[.val (.ref o0), .val (.long q1), .second, .val (.long q2), .second] [(.long q1), (.ref o0), (.ref o0)])) rfl (by rw [hml]; rfl) (Steps.refl _) (a := o0) (by rw [e1]; exact qv2) qv2' (argsL := [(.long q1)]) (rest := [(.ref o0)]) (lenOf pd_2 rfl) rfl (by show 2 * 0 + _ ≤ _; exact Nat.le_of_eq rfl) (hb hby d6_30) (fun _ _ => ⟨rfl, e1, (by decide : 0 + 0 ≤ _), (by decide : 0 + 0 ≤ _)⟩)
  dsimp only [Pt.U, Pt.locs, Pt.cells, Pt.slots] at X2 l2 y2 z2 st2 hQ2
  subst l2 y2 z2
  obtain ⟨rfl, rfl, e2⟩ := hQ2
  try rw [List.append_nil] at X2
  refine Go.step (g' := (mkF m 33 #[.val (.ref o0), .val (.long q1), .second, .val (.long q2), .second] [(.int (f7_0 q1 w)), (.ref o0)])) (fun _ k => st2.trans k) ?_
  generalize hbk : (f7_0 q1 w) = bk
  have hbb := own_bk (own_k0 hB hwB hw0) hw0
  rw [hbk] at hbb
  refine Go.step (g' := (mkF m 34 #[.val (.ref o0), .val (.long q1), .second, .val (.long q2), .second] [(.long q1), (.int bk), (.ref o0)])) (fun _ k => XS.lloadN X2.here hx rfl (hb hby d6_33) rfl  k) ?_
  refine Go.step (g' := (mkF m 35 #[.val (.ref o0), .val (.long q1), .second, .val (.long q2), .second] [(.long q2), (.long q1), (.int bk), (.ref o0)])) (fun _ k => XS.lloadN X2.here hx rfl (hb hby d6_34) rfl  k) ?_
  obtain ⟨cq3, qv3, qv3'⟩ := E0.cell
  obtain ⟨_, _, ⟨T3, L3, k3, n3⟩, -, X3, ⟨Lc3, hQ3, l3, y3, z3⟩, st3⟩ := X2.privateBack hx (y := (⟨"com/example/redelivery/redelivery/RadixHeap", "put", "(IJJ)V"⟩ : MethodName)) hown (mvT hZ (hw _ (List.mem_of_getElem? (i := 57) rfl))) (mvT hZ (hw _ (List.mem_of_getElem? (i := 58) rfl))) (mvT hZ (own_selP (y := (⟨"com/example/redelivery/redelivery/RadixHeap", "put", "(IJJ)V"⟩ : MethodName)) (by decide) (hw _ (List.mem_of_getElem? (i := 6) rfl)) (hw _ (List.mem_of_getElem? (i := 59) rfl)) (hw _ (List.mem_of_getElem? (i := 58) rfl)))) (Cond.privateMethod_at (mvP hZ (hw _ (List.mem_of_getElem? (i := 59) rfl)) (args := #[]))) (mvT hZ (hw _ (List.mem_of_getElem? (i := 60) rfl))) (by decide) (backOf (W := 0) (rm10 l Z a0 hw [] o0 bk q1 q2 ka va sa la tg kf vf sf lf u w z M z.toNatClampNeg h0 n0 Z0 ⟨E0, Fk0, Fv0, Fs0, Fl0, Fu0, Fw0, Fz0, Ak0, Av0, As0, Al0⟩ G0 J0 hbb (own_z8 hz0 hz8) (own_k0 hB hwB hw0) hM) hZ (hw _ (List.mem_of_getElem? (i := 60) rfl)) (hw _ (List.mem_of_getElem? (i := 7) rfl)) (by decide) (by decide)) (g := (mkF m 35 #[.val (.ref o0), .val (.long q1), .second, .val (.long q2), .second] [(.long q2), (.long q1), (.int bk), (.ref o0)])) rfl (by rw [hml]; rfl) (Steps.refl _) (a := o0) (by rw [e2]; exact qv3) qv3' (argsL := [(.int bk), (.long q1), (.long q2)]) (rest := []) (lenOf pd_4 rfl) rfl (by show 2 * 0 + _ ≤ _; exact Nat.le_of_eq rfl) (hb hby d6_35) (fun _ _ => ⟨rfl, e2, (by decide : 0 + 2 ≤ _), (by decide : 0 + 32 ≤ _)⟩)
  dsimp only [Pt.U, Pt.locs, Pt.cells, Pt.slots] at X3 l3 y3 z3 st3 hQ3
  subst l3 y3 z3
  obtain ⟨rfl, N3q, tg3, kf3, vf3, sf3, lf3, u3, R3, G3, J3, ht3, hd3, hm3, hp3⟩ := hQ3
  obtain ⟨lc3, X3, N3⟩ := own_pack X3 (Fr.app N0 N3q)
  obtain ⟨E3, Fk3, Fv3, Fs3, Fl3, Fu3, Fw3, Fz3, Ak3, Av3, As3, Al3⟩ := R3
  refine Go.step (g' := (mkF m 38 #[.val (.ref o0), .val (.long q1), .second, .val (.long q2), .second] [])) (fun _ k => st3.trans k) ?_
  refine Go.step (g' := (mkF m 39 #[.val (.ref o0), .val (.long q1), .second, .val (.long q2), .second] [(.ref o0)])) (fun _ k => XS.aloadN X3.here hx rfl (hb hby d6_38) rfl rfl  k) ?_
  refine Go.step (g' := (mkF m 40 #[.val (.ref o0), .val (.long q1), .second, .val (.long q2), .second] [(.ref o0), (.ref o0)])) (fun _ k => XS.dup X3.here hx rfl (hb hby d6_39) rfl rfl k) ?_
  obtain ⟨T4, X4, e4, st4⟩ := getF X3 hx hZ hown (host := "") (Or.inl (hw _ (List.mem_of_getElem? (i := 35) rfl))) Via.refl rfl Fz3 (g := (mkF m 40 #[.val (.ref o0), .val (.long q1), .second, .val (.long q2), .second] [(.ref o0), (.ref o0)])) rfl rfl (hb hby d6_40)
  refine Go.step (g' := (mkF m 43 #[.val (.ref o0), .val (.long q1), .second, .val (.long q2), .second] [(.int z), (.ref o0)])) st4 ?_
  refine Go.step (g' := (mkF m 44 #[.val (.ref o0), .val (.long q1), .second, .val (.long q2), .second] [(.int (1 : Int32)), (.int z), (.ref o0)])) (fun _ k => XS.iconst X4.here hx rfl (hb hby d6_43) k) ?_
  refine Go.step (g' := (mkF m 45 #[.val (.ref o0), .val (.long q1), .second, .val (.long q2), .second] [(.int (z + (1 : Int32))), (.ref o0)])) (fun _ k => XS.iadd X4.here hx rfl (hb hby d6_44) rfl k) ?_
  obtain ⟨T5, h5, X5, e5, W5, st5⟩ := putF X4 hx hZ hown (host := "") (Or.inl (hw _ (List.mem_of_getElem? (i := 35) rfl))) Via.refl e4 Fz3 E3 (Or.inl (hw _ (List.mem_of_getElem? (i := 36) rfl))) (hw _ (List.mem_of_getElem? (i := 6) rfl)) (ty := .int) (by decide) rfl rfl (g := (mkF m 45 #[.val (.ref o0), .val (.long q1), .second, .val (.long q2), .second] [(.int (z + (1 : Int32))), (.ref o0)])) rfl rfl (hb hby d6_45)
  obtain ⟨lc5, X5, N5⟩ := own_pack X5 (Fr.snoc X5 N3 g_o0)
  have Fw5 := Fz3.same W5
  refine Go.step (g' := (mkF m 48 #[.val (.ref o0), .val (.long q1), .second, .val (.long q2), .second] [])) st5 ?_
  have Q6 := (Fk3.other W5 (Or.inr (slot_ne (Or.inr (hw _ (List.mem_of_getElem? (i := 17) rfl))) (Or.inl (hw _ (List.mem_of_getElem? (i := 36) rfl))) (by decide) (t := (.array (.array .long))) (t' := .int) (by decide) (by decide))))
  have Q7 := (Fv3.other W5 (Or.inr (slot_ne (Or.inr (hw _ (List.mem_of_getElem? (i := 19) rfl))) (Or.inl (hw _ (List.mem_of_getElem? (i := 36) rfl))) (by decide) (t := (.array (.array .long))) (t' := .int) (by decide) (by decide))))
  have Q8 := (Fs3.other W5 (Or.inr (slot_ne (Or.inr (hw _ (List.mem_of_getElem? (i := 22) rfl))) (Or.inl (hw _ (List.mem_of_getElem? (i := 36) rfl))) (by decide) (t := (.array .int)) (t' := .int) (by decide) (by decide))))
  have Q9 := (Fl3.other W5 (Or.inr (slot_ne (Or.inr (hw _ (List.mem_of_getElem? (i := 25) rfl))) (Or.inl (hw _ (List.mem_of_getElem? (i := 36) rfl))) (by decide) (t := (.array .long)) (t' := .int) (by decide) (by decide))))
  have Q10 := (Fu3.other W5 (Or.inr (slot_ne (Or.inl (hw _ (List.mem_of_getElem? (i := 63) rfl))) (Or.inl (hw _ (List.mem_of_getElem? (i := 36) rfl))) (by decide) (t := .long) (t' := .int) (by decide) (by decide))))
  have Q11 := (Fw3.other W5 (Or.inr (slot_ne (Or.inl (hw _ (List.mem_of_getElem? (i := 43) rfl))) (Or.inl (hw _ (List.mem_of_getElem? (i := 36) rfl))) (by decide) (t := .long) (t' := .int) (by decide) (by decide))))
  have Q12 := (Nat.le_trans (Nat.le_trans g_o0 (Nat.le_of_lt E3.lt)) (Keep.of_wr W5).1)
  have Q13 := ((Keep.refl T3.heap [o0]).wr W5 (Or.inl (List.mem_of_getElem? (i := 0) rfl)))
  exact Go.ret0 X5 hx hlk Bd.returns (hb hby d6_48) (by decide) (by decide) (by rw [e5]; exact ⟨rfl, N5, own_addEnd ⟨(E3.wr W5), Q6, Q7, Q8, Q9, Q10, Q11, Fw5, (Ak3.other W5 (Ne.symm n_o0_ka)), (Av3.other W5 (Ne.symm n_o0_va)), (As3.other W5 (Ne.symm n_o0_sa)), (Al3.other W5 (Ne.symm n_o0_la))⟩ G3 J3 Q13 (own_ws1 G3) hw0 hwB hz0 hz8⟩)
theorem d16_0 : decode prog_23_method_8_code 0 = .ok (.aload_n 0, 1) := by decide +kernel
theorem d16_1 : decode prog_23_method_8_code 1 = .ok (.getfield 13, 3) := by decide +kernel
theorem d16_4 : decode prog_23_method_8_code 4 = .ok (.iload_n 1, 1) := by decide +kernel
theorem d16_5 : decode prog_23_method_8_code 5 = .ok (.aaload, 1) := by decide +kernel
theorem d16_6 : decode prog_23_method_8_code 6 = .ok (.astore_n 2, 1) := by decide +kernel
theorem d16_7 : decode prog_23_method_8_code 7 = .ok (.aload_n 0, 1) := by decide +kernel
theorem d16_8 : decode prog_23_method_8_code 8 = .ok (.getfield 17, 3) := by decide +kernel
theorem d16_11 : decode prog_23_method_8_code 11 = .ok (.iload_n 1, 1) := by decide +kernel
theorem d16_12 : decode prog_23_method_8_code 12 = .ok (.aaload, 1) := by decide +kernel
theorem d16_13 : decode prog_23_method_8_code 13 = .ok (.astore_n 3, 1) := by decide +kernel
theorem d16_14 : decode prog_23_method_8_code 14 = .ok (.aload_n 0, 1) := by decide +kernel
theorem d16_15 : decode prog_23_method_8_code 15 = .ok (.getfield 20, 3) := by decide +kernel
theorem d16_18 : decode prog_23_method_8_code 18 = .ok (.iload_n 1, 1) := by decide +kernel
theorem d16_19 : decode prog_23_method_8_code 19 = .ok (.iaload, 1) := by decide +kernel
theorem d16_20 : decode prog_23_method_8_code 20 = .ok (.istore 4, 2) := by decide +kernel
theorem d16_22 : decode prog_23_method_8_code 22 = .ok (.aload_n 0, 1) := by decide +kernel
theorem d16_23 : decode prog_23_method_8_code 23 = .ok (.aload_n 0, 1) := by decide +kernel
theorem d16_24 : decode prog_23_method_8_code 24 = .ok (.getfield 24, 3) := by decide +kernel
theorem d16_27 : decode prog_23_method_8_code 27 = .ok (.iload_n 1, 1) := by decide +kernel
theorem d16_28 : decode prog_23_method_8_code 28 = .ok (.laload, 1) := by decide +kernel
theorem d16_29 : decode prog_23_method_8_code 29 = .ok (.putfield 31, 3) := by decide +kernel
theorem d16_32 : decode prog_23_method_8_code 32 = .ok (.aload_n 0, 1) := by decide +kernel
theorem d16_33 : decode prog_23_method_8_code 33 = .ok (.getfield 13, 3) := by decide +kernel
theorem d16_36 : decode prog_23_method_8_code 36 = .ok (.iload_n 1, 1) := by decide +kernel
theorem d16_37 : decode prog_23_method_8_code 37 = .ok (.aconst_null, 1) := by decide +kernel
theorem d16_38 : decode prog_23_method_8_code 38 = .ok (.aastore, 1) := by decide +kernel
theorem d16_39 : decode prog_23_method_8_code 39 = .ok (.aload_n 0, 1) := by decide +kernel
theorem d16_40 : decode prog_23_method_8_code 40 = .ok (.getfield 17, 3) := by decide +kernel
theorem d16_43 : decode prog_23_method_8_code 43 = .ok (.iload_n 1, 1) := by decide +kernel
theorem d16_44 : decode prog_23_method_8_code 44 = .ok (.aconst_null, 1) := by decide +kernel
theorem d16_45 : decode prog_23_method_8_code 45 = .ok (.aastore, 1) := by decide +kernel
theorem d16_46 : decode prog_23_method_8_code 46 = .ok (.aload_n 0, 1) := by decide +kernel
theorem d16_47 : decode prog_23_method_8_code 47 = .ok (.getfield 20, 3) := by decide +kernel
theorem d16_50 : decode prog_23_method_8_code 50 = .ok (.iload_n 1, 1) := by decide +kernel
theorem d16_51 : decode prog_23_method_8_code 51 = .ok (.iconst 0, 1) := by decide +kernel
theorem d16_52 : decode prog_23_method_8_code 52 = .ok (.iastore, 1) := by decide +kernel
theorem d16_53 : decode prog_23_method_8_code 53 = .ok (.aload_n 0, 1) := by decide +kernel
theorem d16_54 : decode prog_23_method_8_code 54 = .ok (.dup, 1) := by decide +kernel
theorem d16_55 : decode prog_23_method_8_code 55 = .ok (.getfield 55, 3) := by decide +kernel
theorem d16_58 : decode prog_23_method_8_code 58 = .ok (.lconst 1, 1) := by decide +kernel
theorem d16_59 : decode prog_23_method_8_code 59 = .ok (.iload_n 1, 1) := by decide +kernel
theorem d16_60 : decode prog_23_method_8_code 60 = .ok (.lshl, 1) := by decide +kernel
theorem d16_61 : decode prog_23_method_8_code 61 = .ok (.ldc2_w 72, 3) := by decide +kernel
theorem d16_64 : decode prog_23_method_8_code 64 = .ok (.lxor, 1) := by decide +kernel
theorem d16_65 : decode prog_23_method_8_code 65 = .ok (.land, 1) := by decide +kernel
theorem d16_66 : decode prog_23_method_8_code 66 = .ok (.putfield 55, 3) := by decide +kernel
theorem d16_69 : decode prog_23_method_8_code 69 = .ok (.iconst 0, 1) := by decide +kernel
theorem d16_70 : decode prog_23_method_8_code 70 = .ok (.istore 5, 2) := by decide +kernel
theorem d16_72 : decode prog_23_method_8_code 72 = .ok (.iload 5, 2) := by decide +kernel
theorem d16_74 : decode prog_23_method_8_code 74 = .ok (.iload 4, 2) := by decide +kernel
theorem d16_76 : decode prog_23_method_8_code 76 = .ok (.if_icmp .ge 29, 3) := by decide +kernel
theorem d16_79 : decode prog_23_method_8_code 79 = .ok (.aload_n 0, 1) := by decide +kernel
theorem d16_80 : decode prog_23_method_8_code 80 = .ok (.aload_n 0, 1) := by decide +kernel
theorem d16_81 : decode prog_23_method_8_code 81 = .ok (.aload_n 2, 1) := by decide +kernel
theorem d16_82 : decode prog_23_method_8_code 82 = .ok (.iload 5, 2) := by decide +kernel
theorem d16_84 : decode prog_23_method_8_code 84 = .ok (.laload, 1) := by decide +kernel
theorem d16_85 : decode prog_23_method_8_code 85 = .ok (.invokevirtual 44, 3) := by decide +kernel
theorem d16_88 : decode prog_23_method_8_code 88 = .ok (.aload_n 2, 1) := by decide +kernel
theorem d16_89 : decode prog_23_method_8_code 89 = .ok (.iload 5, 2) := by decide +kernel
theorem d16_91 : decode prog_23_method_8_code 91 = .ok (.laload, 1) := by decide +kernel
theorem d16_92 : decode prog_23_method_8_code 92 = .ok (.aload_n 3, 1) := by decide +kernel
theorem d16_93 : decode prog_23_method_8_code 93 = .ok (.iload 5, 2) := by decide +kernel
theorem d16_95 : decode prog_23_method_8_code 95 = .ok (.laload, 1) := by decide +kernel
theorem d16_96 : decode prog_23_method_8_code 96 = .ok (.invokevirtual 48, 3) := by decide +kernel
theorem d16_99 : decode prog_23_method_8_code 99 = .ok (.iinc 5 1, 3) := by decide +kernel
theorem d16_102 : decode prog_23_method_8_code 102 = .ok (.goto (-30), 3) := by decide +kernel
theorem d16_105 : decode prog_23_method_8_code 105 = .ok (.return_, 1) := by decide +kernel
theorem pn_16 : plainName "com/example/redelivery/redelivery/RadixHeap" = true := by first | (simp [plainName, overriddenIn]; done) | decide +kernel
theorem ef_16 (m : MethodId) (o0 : Addr) (p1 : Int32) : entryFrame m #[(.ref o0), (.int p1)] 6 = mkF m 0 #[.val (.ref o0), .val (.int p1), .unset, .unset, .unset, .unset] [] := by first | (simp [entryFrame, mkF, argsToLocals, Value.category]; done) | rfl
set_option maxRecDepth 65536 in
set_option maxHeartbeats 40000000 in
theorem rm16a (l : Launch) (Z : State) (a0 : Array Value) (hw : ∀ d ∈ tables_1, d.before a0 Z = true) (ws : List Jvm.Cond) (o0 : Addr) (p1 : Int32) (ka : Addr) (va : Addr) (sa : Addr) (la : Addr) (tg : Addr → Nat) (kf : Nat → Value) (vf : Nat → Value) (sf : Nat → Int32) (lf : Nat → Int64) (u : Int64) (w : Int64) (z : Int32) (M : Int64) (n : Nat) (h0 : Heap) (n0 : Nat) (Z0 : n0 ≤ h0.size) (R0 : RF Z h0 o0 ka va sa la kf vf sf lf u w z) (G0 : TG tg o0 ka va sa la) (J0 : JJ Z h0 n0 tg M kf vf sf lf u n) (hbb : ¬ (p1 < 0 ∨ 64 ≤ p1.toNatClampNeg)) (hn : n ≤ 3) (hs : sf p1.toNatClampNeg ≠ 0) (hbn : p1.toNatClampNeg ≠ 0) :
    MetFree l (⟨"com/example/redelivery/redelivery/RadixHeap", "spill", "(I)V"⟩ : MethodName) (head1 (Jvm.Cond.code (⟨"com/example/redelivery/redelivery/RadixHeap", "spill", "(I)V"⟩ : MethodName) prog_23_method_8_code 6 none :: ws) ({ frames := 3, cells := 6, slots := 96, locals := 44 } : Room)) (fun a U => a = #[(.ref o0), (.int p1)] ∧ Z.Warmed39 U.vm ∧ U.heap = h0) (fun _ _ _ _ _ => True) (fun _ U o U' => ∃ v L, o = .returned v ∧ (QS Z n0 o0 ka va sa la M z n) v U'.heap L ∧ FrameEnd U o U' L ({ frames := 3, cells := 6, slots := 96, locals := 44 } : Room).cells ({ frames := 3, cells := 6, slots := 96, locals := 44 } : Room).slots) := by
  refine MetFree.of_bodySF (plainFor_of_name pn_16) hisR ?_
  intro p e s m args below meth c s₁ Bd hml0 hP hK
  obtain ⟨rfl, hZ, hh⟩ := hP
  have hx := Bd.exec
  have hby := Bd.bytes
  have hlk : meth.locks = false := BodyLoose.notSynchronized Bd
  have hml : c.maxLocals = 6 := hml0
  have hown : s.vm.findClass "com/example/redelivery/redelivery/RadixHeap" = some m.cls := findClass_of_methodNamed Bd.named
  have hnm := (name_of_methodNamed Bd.named Bd.method).1
  have X0 : Stand p l e ({ frames := 3, cells := 6, slots := 96, locals := 44 } : Room) s m #[(.ref o0), (.int p1)] below meth c s₁ ([] : List Loc) 0 0 := Stand.of_body Bd
  have e0 : s₁.heap = h0 := by rw [← hh, Bd.state]; rfl
  show Go p e below s 6 96 (QS Z n0 o0 ka va sa la M z n) s₁ (entryFrame m #[(.ref o0), (.int p1)] 6)
  rw [ef_16 m o0 p1]
  have N0 := Fr.nil n0
  obtain ⟨xa, xc, g, gv, hka, hvc, t_xa, t_xc, Aa, Ac, hg, hl⟩ := J0.full (own_lt hbb) hs
  have hl := hl.resolve_left hbn
  obtain ⟨E0, Fk0, Fv0, Fs0, Fl0, Fu0, Fw0, Fz0, Ak0, Av0, As0, Al0⟩ := R0
  have n_o0_ka : o0 ≠ ka := own_tn G0.1 G0.2.1 (by decide)
  have n_o0_va : o0 ≠ va := own_tn G0.1 G0.2.2.1 (by decide)
  have n_o0_sa : o0 ≠ sa := own_tn G0.1 G0.2.2.2.1 (by decide)
  have n_o0_la : o0 ≠ la := own_tn G0.1 G0.2.2.2.2 (by decide)
  have n_o0_xa : o0 ≠ xa := own_tn G0.1 t_xa (by omega)
  have n_o0_xc : o0 ≠ xc := own_tn G0.1 t_xc (by omega)
  have n_ka_va : ka ≠ va := own_tn G0.2.1 G0.2.2.1 (by decide)
  have n_ka_sa : ka ≠ sa := own_tn G0.2.1 G0.2.2.2.1 (by decide)
  have n_ka_la : ka ≠ la := own_tn G0.2.1 G0.2.2.2.2 (by decide)
  have n_ka_xa : ka ≠ xa := own_tn G0.2.1 t_xa (by omega)
  have n_ka_xc : ka ≠ xc := own_tn G0.2.1 t_xc (by omega)
  have n_va_sa : va ≠ sa := own_tn G0.2.2.1 G0.2.2.2.1 (by decide)
  have n_va_la : va ≠ la := own_tn G0.2.2.1 G0.2.2.2.2 (by decide)
  have n_va_xa : va ≠ xa := own_tn G0.2.2.1 t_xa (by omega)
  have n_va_xc : va ≠ xc := own_tn G0.2.2.1 t_xc (by omega)
  have n_sa_la : sa ≠ la := own_tn G0.2.2.2.1 G0.2.2.2.2 (by decide)
  have n_sa_xa : sa ≠ xa := own_tn G0.2.2.2.1 t_xa (by omega)
  have n_sa_xc : sa ≠ xc := own_tn G0.2.2.2.1 t_xc (by omega)
  have n_la_xa : la ≠ xa := own_tn G0.2.2.2.2 t_xa (by omega)
  have n_la_xc : la ≠ xc := own_tn G0.2.2.2.2 t_xc (by omega)
  have n_xa_xc : xa ≠ xc := own_tn t_xa t_xc (by omega)
  have g_o0 : n0 ≤ o0 := J0.2.2.2.2 _ (by rw [G0.1]; decide)
  have g_ka : n0 ≤ ka := J0.2.2.2.2 _ (by rw [G0.2.1]; decide)
  have g_va : n0 ≤ va := J0.2.2.2.2 _ (by rw [G0.2.2.1]; decide)
  have g_sa : n0 ≤ sa := J0.2.2.2.2 _ (by rw [G0.2.2.2.1]; decide)
  have g_la : n0 ≤ la := J0.2.2.2.2 _ (by rw [G0.2.2.2.2]; decide)
  have g_xa : n0 ≤ xa := J0.2.2.2.2 _ (by rw [t_xa]; omega)
  have g_xc : n0 ≤ xc := J0.2.2.2.2 _ (by rw [t_xc]; omega)
  refine Go.step (g' := (mkF m 1 #[.val (.ref o0), .val (.int p1), .unset, .unset, .unset, .unset] [(.ref o0)])) (fun _ k => XS.aloadN X0.here hx rfl (hb hby d16_0) rfl rfl  k) ?_
  obtain ⟨T1, X1, e1, st1⟩ := getF X0 hx hZ hown (host := "") (Or.inl (hw _ (List.mem_of_getElem? (i := 16) rfl))) Via.refl e0 Fk0 (g := (mkF m 1 #[.val (.ref o0), .val (.int p1), .unset, .unset, .unset, .unset] [(.ref o0)])) rfl rfl (hb hby d16_1)
  refine Go.step (g' := (mkF m 4 #[.val (.ref o0), .val (.int p1), .unset, .unset, .unset, .unset] [(.ref ka)])) st1 ?_
  refine Go.step (g' := (mkF m 5 #[.val (.ref o0), .val (.int p1), .unset, .unset, .unset, .unset] [(.int p1), (.ref ka)])) (fun _ k => XS.iloadN X1.here hx rfl (hb hby d16_4) rfl  k) ?_
  refine Go.step (g' := (mkF m 6 #[.val (.ref o0), .val (.int p1), .unset, .unset, .unset, .unset] [(.ref xa)])) (fun _ k => getAV X1 hx hZ e1 Ak0 (j := p1) (v := (.ref xa)) hbb hka (gf := (mkF m 5 #[.val (.ref o0), .val (.int p1), .unset, .unset, .unset, .unset] [(.int p1), (.ref ka)])) rfl rfl (hb hby d16_5) k) ?_
  refine Go.step (g' := (mkF m 7 #[.val (.ref o0), .val (.int p1), .val (.ref xa), .unset, .unset, .unset] [])) (fun _ k => XS.astoreN X1.here hx rfl (hb hby d16_6) rfl rfl (l' := #[.val (.ref o0), .val (.int p1), .val (.ref xa), .unset, .unset, .unset]) rfl k) ?_
  refine Go.step (g' := (mkF m 8 #[.val (.ref o0), .val (.int p1), .val (.ref xa), .unset, .unset, .unset] [(.ref o0)])) (fun _ k => XS.aloadN X1.here hx rfl (hb hby d16_7) rfl rfl  k) ?_
  obtain ⟨T2, X2, e2, st2⟩ := getF X1 hx hZ hown (host := "") (Or.inl (hw _ (List.mem_of_getElem? (i := 18) rfl))) Via.refl e1 Fv0 (g := (mkF m 8 #[.val (.ref o0), .val (.int p1), .val (.ref xa), .unset, .unset, .unset] [(.ref o0)])) rfl rfl (hb hby d16_8)
  refine Go.step (g' := (mkF m 11 #[.val (.ref o0), .val (.int p1), .val (.ref xa), .unset, .unset, .unset] [(.ref va)])) st2 ?_
  refine Go.step (g' := (mkF m 12 #[.val (.ref o0), .val (.int p1), .val (.ref xa), .unset, .unset, .unset] [(.int p1), (.ref va)])) (fun _ k => XS.iloadN X2.here hx rfl (hb hby d16_11) rfl  k) ?_
  refine Go.step (g' := (mkF m 13 #[.val (.ref o0), .val (.int p1), .val (.ref xa), .unset, .unset, .unset] [(.ref xc)])) (fun _ k => getAV X2 hx hZ e2 Av0 (j := p1) (v := (.ref xc)) hbb hvc (gf := (mkF m 12 #[.val (.ref o0), .val (.int p1), .val (.ref xa), .unset, .unset, .unset] [(.int p1), (.ref va)])) rfl rfl (hb hby d16_12) k) ?_
  refine Go.step (g' := (mkF m 14 #[.val (.ref o0), .val (.int p1), .val (.ref xa), .val (.ref xc), .unset, .unset] [])) (fun _ k => XS.astoreN X2.here hx rfl (hb hby d16_13) rfl rfl (l' := #[.val (.ref o0), .val (.int p1), .val (.ref xa), .val (.ref xc), .unset, .unset]) rfl k) ?_
  refine Go.step (g' := (mkF m 15 #[.val (.ref o0), .val (.int p1), .val (.ref xa), .val (.ref xc), .unset, .unset] [(.ref o0)])) (fun _ k => XS.aloadN X2.here hx rfl (hb hby d16_14) rfl rfl  k) ?_
  obtain ⟨T3, X3, e3, st3⟩ := getF X2 hx hZ hown (host := "") (Or.inl (hw _ (List.mem_of_getElem? (i := 21) rfl))) Via.refl e2 Fs0 (g := (mkF m 15 #[.val (.ref o0), .val (.int p1), .val (.ref xa), .val (.ref xc), .unset, .unset] [(.ref o0)])) rfl rfl (hb hby d16_15)
  refine Go.step (g' := (mkF m 18 #[.val (.ref o0), .val (.int p1), .val (.ref xa), .val (.ref xc), .unset, .unset] [(.ref sa)])) st3 ?_
  refine Go.step (g' := (mkF m 19 #[.val (.ref o0), .val (.int p1), .val (.ref xa), .val (.ref xc), .unset, .unset] [(.int p1), (.ref sa)])) (fun _ k => XS.iloadN X3.here hx rfl (hb hby d16_18) rfl  k) ?_
  refine Go.step (g' := (mkF m 20 #[.val (.ref o0), .val (.int p1), .val (.ref xa), .val (.ref xc), .unset, .unset] [(.int (sf p1.toNatClampNeg))])) (fun _ k => getAI X3 hx hZ e3 As0 (j := p1) hbb (gf := (mkF m 19 #[.val (.ref o0), .val (.int p1), .val (.ref xa), .val (.ref xc), .unset, .unset] [(.int p1), (.ref sa)])) rfl rfl (hb hby d16_19) k) ?_
  refine Go.step (g' := (mkF m 22 #[.val (.ref o0), .val (.int p1), .val (.ref xa), .val (.ref xc), .val (.int (sf p1.toNatClampNeg)), .unset] [])) (fun _ k => XS.istore X3.here hx rfl (hb hby d16_20) rfl (l' := #[.val (.ref o0), .val (.int p1), .val (.ref xa), .val (.ref xc), .val (.int (sf p1.toNatClampNeg)), .unset]) rfl k) ?_
  generalize hcnt : (sf p1.toNatClampNeg) = cnt
  have hcn := own_cntB J0 hbb hcnt
  have hcpos := own_cntP J0 hbb hcnt hs
  have hlast := own_cntL (k := (3 : Int32)) hcn hn (by decide)
  rw [hcnt] at hg hl
  refine Go.step (g' := (mkF m 23 #[.val (.ref o0), .val (.int p1), .val (.ref xa), .val (.ref xc), .val (.int cnt), .unset] [(.ref o0)])) (fun _ k => XS.aloadN X3.here hx rfl (hb hby d16_22) rfl rfl  k) ?_
  refine Go.step (g' := (mkF m 24 #[.val (.ref o0), .val (.int p1), .val (.ref xa), .val (.ref xc), .val (.int cnt), .unset] [(.ref o0), (.ref o0)])) (fun _ k => XS.aloadN X3.here hx rfl (hb hby d16_23) rfl rfl  k) ?_
  obtain ⟨T4, X4, e4, st4⟩ := getF X3 hx hZ hown (host := "") (Or.inl (hw _ (List.mem_of_getElem? (i := 24) rfl))) Via.refl e3 Fl0 (g := (mkF m 24 #[.val (.ref o0), .val (.int p1), .val (.ref xa), .val (.ref xc), .val (.int cnt), .unset] [(.ref o0), (.ref o0)])) rfl rfl (hb hby d16_24)
  refine Go.step (g' := (mkF m 27 #[.val (.ref o0), .val (.int p1), .val (.ref xa), .val (.ref xc), .val (.int cnt), .unset] [(.ref la), (.ref o0)])) st4 ?_
  refine Go.step (g' := (mkF m 28 #[.val (.ref o0), .val (.int p1), .val (.ref xa), .val (.ref xc), .val (.int cnt), .unset] [(.int p1), (.ref la), (.ref o0)])) (fun _ k => XS.iloadN X4.here hx rfl (hb hby d16_27) rfl  k) ?_
  refine Go.step (g' := (mkF m 29 #[.val (.ref o0), .val (.int p1), .val (.ref xa), .val (.ref xc), .val (.int cnt), .unset] [(.long (lf p1.toNatClampNeg)), (.ref o0)])) (fun _ k => getAJ X4 hx hZ e4 Al0 (j := p1) hbb (gf := (mkF m 28 #[.val (.ref o0), .val (.int p1), .val (.ref xa), .val (.ref xc), .val (.int cnt), .unset] [(.int p1), (.ref la), (.ref o0)])) rfl rfl (hb hby d16_28) k) ?_
  generalize hlw : (lf p1.toNatClampNeg) = lw
  obtain ⟨hlw0, hlwM, hl'⟩ := own_lw hg hl hlw
  obtain ⟨T5, h5, X5, e5, W5, st5⟩ := putF X4 hx hZ hown (host := "") (Or.inl (hw _ (List.mem_of_getElem? (i := 42) rfl))) Via.refl e4 Fw0 E0 (Or.inl (hw _ (List.mem_of_getElem? (i := 43) rfl))) (hw _ (List.mem_of_getElem? (i := 6) rfl)) (ty := .long) (by decide) rfl rfl (g := (mkF m 29 #[.val (.ref o0), .val (.int p1), .val (.ref xa), .val (.ref xc), .val (.int cnt), .unset] [(.long lw), (.ref o0)])) rfl rfl (hb hby d16_29)
  obtain ⟨lc5, X5, N5⟩ := own_pack X5 (Fr.snoc X5 N0 g_o0)
  have Fw5 := Fw0.same W5
  refine Go.step (g' := (mkF m 32 #[.val (.ref o0), .val (.int p1), .val (.ref xa), .val (.ref xc), .val (.int cnt), .unset] [])) st5 ?_
  have Q6 := (Fk0.other W5 (Or.inr (slot_ne (Or.inr (hw _ (List.mem_of_getElem? (i := 17) rfl))) (Or.inl (hw _ (List.mem_of_getElem? (i := 43) rfl))) (by decide) (t := (.array (.array .long))) (t' := .long) (by decide) (by decide))))
  have Q7 := (Fv0.other W5 (Or.inr (slot_ne (Or.inr (hw _ (List.mem_of_getElem? (i := 19) rfl))) (Or.inl (hw _ (List.mem_of_getElem? (i := 43) rfl))) (by decide) (t := (.array (.array .long))) (t' := .long) (by decide) (by decide))))
  have Q8 := (Fs0.other W5 (Or.inr (slot_ne (Or.inr (hw _ (List.mem_of_getElem? (i := 22) rfl))) (Or.inl (hw _ (List.mem_of_getElem? (i := 43) rfl))) (by decide) (t := (.array .int)) (t' := .long) (by decide) (by decide))))
  have Q9 := (Fl0.other W5 (Or.inr (slot_ne (Or.inr (hw _ (List.mem_of_getElem? (i := 25) rfl))) (Or.inl (hw _ (List.mem_of_getElem? (i := 43) rfl))) (by decide) (t := (.array .long)) (t' := .long) (by decide) (by decide))))
  have Q10 := (Fu0.other W5 (Or.inr (slot_ne (Or.inl (hw _ (List.mem_of_getElem? (i := 63) rfl))) (Or.inl (hw _ (List.mem_of_getElem? (i := 43) rfl))) (by decide) (t := .long) (t' := .long) (by decide) (by decide))))
  have Q11 := (Fz0.other W5 (Or.inr (slot_ne (Or.inl (hw _ (List.mem_of_getElem? (i := 36) rfl))) (Or.inl (hw _ (List.mem_of_getElem? (i := 43) rfl))) (by decide) (t := .int) (t' := .long) (by decide) (by decide))))
  have Q12 := ((Keep.refl h0 [o0, ka, va, sa]).wr W5 (Or.inl (List.mem_of_getElem? (i := 0) rfl)))
  refine Go.step (g' := (mkF m 33 #[.val (.ref o0), .val (.int p1), .val (.ref xa), .val (.ref xc), .val (.int cnt), .unset] [(.ref o0)])) (fun _ k => XS.aloadN X5.here hx rfl (hb hby d16_32) rfl rfl  k) ?_
  obtain ⟨T13, X13, e13, st13⟩ := getF X5 hx hZ hown (host := "") (Or.inl (hw _ (List.mem_of_getElem? (i := 16) rfl))) Via.refl e5 Q6 (g := (mkF m 33 #[.val (.ref o0), .val (.int p1), .val (.ref xa), .val (.ref xc), .val (.int cnt), .unset] [(.ref o0)])) rfl rfl (hb hby d16_33)
  refine Go.step (g' := (mkF m 36 #[.val (.ref o0), .val (.int p1), .val (.ref xa), .val (.ref xc), .val (.int cnt), .unset] [(.ref ka)])) st13 ?_
  refine Go.step (g' := (mkF m 37 #[.val (.ref o0), .val (.int p1), .val (.ref xa), .val (.ref xc), .val (.int cnt), .unset] [(.int p1), (.ref ka)])) (fun _ k => XS.iloadN X13.here hx rfl (hb hby d16_36) rfl  k) ?_
  refine Go.step (g' := (mkF m 38 #[.val (.ref o0), .val (.int p1), .val (.ref xa), .val (.ref xc), .val (.int cnt), .unset] [.null, (.int p1), (.ref ka)])) (fun _ k => XS.aconstNull X13.here hx rfl (hb hby d16_37) k) ?_
  obtain ⟨T14, h14, lc14, X14, e14, W14, N14, V14, st14⟩ := putAV X13 hx hZ e13 (Ak0.other W5 (Ne.symm n_o0_ka)) (j := p1) (v := .null) hbb N5 g_ka (Or.inl rfl) (gf := (mkF m 38 #[.val (.ref o0), .val (.int p1), .val (.ref xa), .val (.ref xc), .val (.int cnt), .unset] [.null, (.int p1), (.ref ka)])) rfl rfl (hb hby d16_38)
  refine Go.step (g' := (mkF m 39 #[.val (.ref o0), .val (.int p1), .val (.ref xa), .val (.ref xc), .val (.int cnt), .unset] [])) st14 ?_
  have Q15 := ((Av0.other W5 (Ne.symm n_o0_va)).other W14 (Ne.symm n_ka_va))
  have Q16 := ((As0.other W5 (Ne.symm n_o0_sa)).other W14 (Ne.symm n_ka_sa))
  have Q17 := ((Al0.other W5 (Ne.symm n_o0_la)).other W14 (Ne.symm n_ka_la))
  have Q18 := ((Aa.other W5 (Ne.symm n_o0_xa)).other W14 (Ne.symm n_ka_xa))
  have Q19 := ((Ac.other W5 (Ne.symm n_o0_xc)).other W14 (Ne.symm n_ka_xc))
  have Q20 := (Nat.le_trans (Nat.le_trans Z0 (Keep.of_wr W5).1) (Keep.of_wr W14).1)
  refine Go.step (g' := (mkF m 40 #[.val (.ref o0), .val (.int p1), .val (.ref xa), .val (.ref xc), .val (.int cnt), .unset] [(.ref o0)])) (fun _ k => XS.aloadN X14.here hx rfl (hb hby d16_39) rfl rfl  k) ?_
  obtain ⟨T21, X21, e21, st21⟩ := getF X14 hx hZ hown (host := "") (Or.inl (hw _ (List.mem_of_getElem? (i := 18) rfl))) Via.refl e14 (Q7.other W14 (Or.inl n_o0_ka)) (g := (mkF m 40 #[.val (.ref o0), .val (.int p1), .val (.ref xa), .val (.ref xc), .val (.int cnt), .unset] [(.ref o0)])) rfl rfl (hb hby d16_40)
  refine Go.step (g' := (mkF m 43 #[.val (.ref o0), .val (.int p1), .val (.ref xa), .val (.ref xc), .val (.int cnt), .unset] [(.ref va)])) st21 ?_
  refine Go.step (g' := (mkF m 44 #[.val (.ref o0), .val (.int p1), .val (.ref xa), .val (.ref xc), .val (.int cnt), .unset] [(.int p1), (.ref va)])) (fun _ k => XS.iloadN X21.here hx rfl (hb hby d16_43) rfl  k) ?_
  refine Go.step (g' := (mkF m 45 #[.val (.ref o0), .val (.int p1), .val (.ref xa), .val (.ref xc), .val (.int cnt), .unset] [.null, (.int p1), (.ref va)])) (fun _ k => XS.aconstNull X21.here hx rfl (hb hby d16_44) k) ?_
  obtain ⟨T22, h22, lc22, X22, e22, W22, N22, V22, st22⟩ := putAV X21 hx hZ e21 Q15 (j := p1) (v := .null) hbb N14 g_va (Or.inl rfl) (gf := (mkF m 45 #[.val (.ref o0), .val (.int p1), .val (.ref xa), .val (.ref xc), .val (.int cnt), .unset] [.null, (.int p1), (.ref va)])) rfl rfl (hb hby d16_45)
  refine Go.step (g' := (mkF m 46 #[.val (.ref o0), .val (.int p1), .val (.ref xa), .val (.ref xc), .val (.int cnt), .unset] [])) st22 ?_
  have Q23 := ((Q6.other W14 (Or.inl n_o0_ka)).other W22 (Or.inl n_o0_va))
  have Q24 := ((Q7.other W14 (Or.inl n_o0_ka)).other W22 (Or.inl n_o0_va))
  have Q25 := ((Q8.other W14 (Or.inl n_o0_ka)).other W22 (Or.inl n_o0_va))
  have Q26 := ((Q9.other W14 (Or.inl n_o0_ka)).other W22 (Or.inl n_o0_va))
  have Q27 := ((Q10.other W14 (Or.inl n_o0_ka)).other W22 (Or.inl n_o0_va))
  have Q28 := ((Q11.other W14 (Or.inl n_o0_ka)).other W22 (Or.inl n_o0_va))
  have Q29 := ((Fw5.other W14 (Or.inl n_o0_ka)).other W22 (Or.inl n_o0_va))
  have Q30 := ((Q12.wr W14 (Or.inl (List.mem_of_getElem? (i := 1) rfl))).wr W22 (Or.inl (List.mem_of_getElem? (i := 2) rfl)))
  refine Go.step (g' := (mkF m 47 #[.val (.ref o0), .val (.int p1), .val (.ref xa), .val (.ref xc), .val (.int cnt), .unset] [(.ref o0)])) (fun _ k => XS.aloadN X22.here hx rfl (hb hby d16_46) rfl rfl  k) ?_
  obtain ⟨T31, X31, e31, st31⟩ := getF X22 hx hZ hown (host := "") (Or.inl (hw _ (List.mem_of_getElem? (i := 21) rfl))) Via.refl e22 Q25 (g := (mkF m 47 #[.val (.ref o0), .val (.int p1), .val (.ref xa), .val (.ref xc), .val (.int cnt), .unset] [(.ref o0)])) rfl rfl (hb hby d16_47)
  refine Go.step (g' := (mkF m 50 #[.val (.ref o0), .val (.int p1), .val (.ref xa), .val (.ref xc), .val (.int cnt), .unset] [(.ref sa)])) st31 ?_
  refine Go.step (g' := (mkF m 51 #[.val (.ref o0), .val (.int p1), .val (.ref xa), .val (.ref xc), .val (.int cnt), .unset] [(.int p1), (.ref sa)])) (fun _ k => XS.iloadN X31.here hx rfl (hb hby d16_50) rfl  k) ?_
  refine Go.step (g' := (mkF m 52 #[.val (.ref o0), .val (.int p1), .val (.ref xa), .val (.ref xc), .val (.int cnt), .unset] [(.int (0 : Int32)), (.int p1), (.ref sa)])) (fun _ k => XS.iconst X31.here hx rfl (hb hby d16_51) k) ?_
  obtain ⟨T32, h32, lc32, X32, e32, W32, N32, V32, st32⟩ := putAI X31 hx hZ e31 (Q16.other W22 (Ne.symm n_va_sa)) (j := p1) hbb N22 g_sa (gf := (mkF m 52 #[.val (.ref o0), .val (.int p1), .val (.ref xa), .val (.ref xc), .val (.int cnt), .unset] [(.int (0 : Int32)), (.int p1), (.ref sa)])) rfl rfl (hb hby d16_52)
  refine Go.step (g' := (mkF m 53 #[.val (.ref o0), .val (.int p1), .val (.ref xa), .val (.ref xc), .val (.int cnt), .unset] [])) st32 ?_
  have Q33 := ((Q17.other W22 (Ne.symm n_va_la)).other W32 (Ne.symm n_sa_la))
  have Q34 := ((Q18.other W22 (Ne.symm n_va_xa)).other W32 (Ne.symm n_sa_xa))
  have Q35 := ((Q19.other W22 (Ne.symm n_va_xc)).other W32 (Ne.symm n_sa_xc))
  have Q36 := (Nat.le_trans (Nat.le_trans Q20 (Keep.of_wr W22).1) (Keep.of_wr W32).1)
  refine Go.step (g' := (mkF m 54 #[.val (.ref o0), .val (.int p1), .val (.ref xa), .val (.ref xc), .val (.int cnt), .unset] [(.ref o0)])) (fun _ k => XS.aloadN X32.here hx rfl (hb hby d16_53) rfl rfl  k) ?_
  refine Go.step (g' := (mkF m 55 #[.val (.ref o0), .val (.int p1), .val (.ref xa), .val (.ref xc), .val (.int cnt), .unset] [(.ref o0), (.ref o0)])) (fun _ k => XS.dup X32.here hx rfl (hb hby d16_54) rfl rfl k) ?_
  obtain ⟨T37, X37, e37, st37⟩ := getF X32 hx hZ hown (host := "") (Or.inl (hw _ (List.mem_of_getElem? (i := 62) rfl))) Via.refl e32 (Q27.other W32 (Or.inl n_o0_sa)) (g := (mkF m 55 #[.val (.ref o0), .val (.int p1), .val (.ref xa), .val (.ref xc), .val (.int cnt), .unset] [(.ref o0), (.ref o0)])) rfl rfl (hb hby d16_55)
  refine Go.step (g' := (mkF m 58 #[.val (.ref o0), .val (.int p1), .val (.ref xa), .val (.ref xc), .val (.int cnt), .unset] [(.long u), (.ref o0)])) st37 ?_
  refine Go.step (g' := (mkF m 59 #[.val (.ref o0), .val (.int p1), .val (.ref xa), .val (.ref xc), .val (.int cnt), .unset] [(.long (1 : Int64)), (.long u), (.ref o0)])) (fun _ k => XS.lconst X37.here hx rfl (hb hby d16_58) k) ?_
  refine Go.step (g' := (mkF m 60 #[.val (.ref o0), .val (.int p1), .val (.ref xa), .val (.ref xc), .val (.int cnt), .unset] [(.int p1), (.long (1 : Int64)), (.long u), (.ref o0)])) (fun _ k => XS.iloadN X37.here hx rfl (hb hby d16_59) rfl  k) ?_
  refine Go.step (g' := (mkF m 61 #[.val (.ref o0), .val (.int p1), .val (.ref xa), .val (.ref xc), .val (.int cnt), .unset] [(.long ((1 : Int64) <<< (p1 &&& 0x3f).toInt64)), (.long u), (.ref o0)])) (fun _ k => XS.lshl X37.here hx rfl (hb hby d16_60) rfl k) ?_
  refine Go.step (g' := (mkF m 64 #[.val (.ref o0), .val (.int p1), .val (.ref xa), .val (.ref xc), .val (.int cnt), .unset] [(.long (-1 : Int64)), (.long ((1 : Int64) <<< (p1 &&& 0x3f).toInt64)), (.long u), (.ref o0)])) (fun _ k => X37.ldc2J hx hown (mvT hZ (hw _ (List.mem_of_getElem? (i := 86) rfl))) rfl (hb hby d16_61) k) ?_
  refine Go.step (g' := (mkF m 65 #[.val (.ref o0), .val (.int p1), .val (.ref xa), .val (.ref xc), .val (.int cnt), .unset] [(.long (((1 : Int64) <<< (p1 &&& 0x3f).toInt64) ^^^ (-1 : Int64))), (.long u), (.ref o0)])) (fun _ k => XS.lxor X37.here hx rfl (hb hby d16_64) rfl k) ?_
  refine Go.step (g' := (mkF m 66 #[.val (.ref o0), .val (.int p1), .val (.ref xa), .val (.ref xc), .val (.int cnt), .unset] [(.long (u &&& (((1 : Int64) <<< (p1 &&& 0x3f).toInt64) ^^^ (-1 : Int64)))), (.ref o0)])) (fun _ k => XS.land X37.here hx rfl (hb hby d16_65) rfl k) ?_
  obtain ⟨T38, h38, X38, e38, W38, st38⟩ := putF X37 hx hZ hown (host := "") (Or.inl (hw _ (List.mem_of_getElem? (i := 62) rfl))) Via.refl e37 (Q27.other W32 (Or.inl n_o0_sa)) ((((E0.wr W5).wr W14).wr W22).wr W32) (Or.inl (hw _ (List.mem_of_getElem? (i := 63) rfl))) (hw _ (List.mem_of_getElem? (i := 6) rfl)) (ty := .long) (by decide) rfl rfl (g := (mkF m 66 #[.val (.ref o0), .val (.int p1), .val (.ref xa), .val (.ref xc), .val (.int cnt), .unset] [(.long (u &&& (((1 : Int64) <<< (p1 &&& 0x3f).toInt64) ^^^ (-1 : Int64)))), (.ref o0)])) rfl rfl (hb hby d16_66)
  obtain ⟨lc38, X38, N38⟩ := own_pack X38 (Fr.snoc X38 N32 g_o0)
  have Fw38 := (Q27.other W32 (Or.inl n_o0_sa)).same W38
  refine Go.step (g' := (mkF m 69 #[.val (.ref o0), .val (.int p1), .val (.ref xa), .val (.ref xc), .val (.int cnt), .unset] [])) st38 ?_
  have Q39 := ((Q23.other W32 (Or.inl n_o0_sa)).other W38 (Or.inr (slot_ne (Or.inr (hw _ (List.mem_of_getElem? (i := 17) rfl))) (Or.inl (hw _ (List.mem_of_getElem? (i := 63) rfl))) (by decide) (t := (.array (.array .long))) (t' := .long) (by decide) (by decide))))
  have Q40 := ((Q24.other W32 (Or.inl n_o0_sa)).other W38 (Or.inr (slot_ne (Or.inr (hw _ (List.mem_of_getElem? (i := 19) rfl))) (Or.inl (hw _ (List.mem_of_getElem? (i := 63) rfl))) (by decide) (t := (.array (.array .long))) (t' := .long) (by decide) (by decide))))
  have Q41 := ((Q25.other W32 (Or.inl n_o0_sa)).other W38 (Or.inr (slot_ne (Or.inr (hw _ (List.mem_of_getElem? (i := 22) rfl))) (Or.inl (hw _ (List.mem_of_getElem? (i := 63) rfl))) (by decide) (t := (.array .int)) (t' := .long) (by decide) (by decide))))
  have Q42 := ((Q26.other W32 (Or.inl n_o0_sa)).other W38 (Or.inr (slot_ne (Or.inr (hw _ (List.mem_of_getElem? (i := 25) rfl))) (Or.inl (hw _ (List.mem_of_getElem? (i := 63) rfl))) (by decide) (t := (.array .long)) (t' := .long) (by decide) (by decide))))
  have Q43 := ((Q28.other W32 (Or.inl n_o0_sa)).other W38 (Or.inr (slot_ne (Or.inl (hw _ (List.mem_of_getElem? (i := 36) rfl))) (Or.inl (hw _ (List.mem_of_getElem? (i := 63) rfl))) (by decide) (t := .int) (t' := .long) (by decide) (by decide))))
  have Q44 := ((Q29.other W32 (Or.inl n_o0_sa)).other W38 (Or.inr (slot_ne (Or.inl (hw _ (List.mem_of_getElem? (i := 43) rfl))) (Or.inl (hw _ (List.mem_of_getElem? (i := 63) rfl))) (by decide) (t := .long) (t' := .long) (by decide) (by decide))))
  have Q45 := (((V14.other W22 n_ka_va).other W32 n_ka_sa).other W38 (Ne.symm n_o0_ka))
  have Q46 := ((Q30.wr W32 (Or.inl (List.mem_of_getElem? (i := 3) rfl))).wr W38 (Or.inl (List.mem_of_getElem? (i := 0) rfl)))
  have J1 : JJ Z h38 n0 (TW tg xa xc 5 5) M (upd kf p1.toNatClampNeg .null) (upd vf p1.toNatClampNeg .null) (upd sf p1.toNatClampNeg (0 : Int32)) lf (u &&& (((1 : Int64) <<< (p1 &&& 0x3f).toInt64) ^^^ (-1 : Int64))) (n - cnt.toNatClampNeg) := own_clear J0 hbb hcnt Q46 (own_ws4 G0) t_xa t_xc
  have G1 : TG (TW tg xa xc 5 5) o0 ka va sa la := own_tg5 G0 t_xa t_xc
  have t5a : (TW tg xa xc 5 5) xa = 5 := own_twA _ _ _ _ _
  have t5c : (TW tg xa xc 5 5) xc = 5 := own_tw5 _ _ _
  refine Go.step (g' := (mkF m 70 #[.val (.ref o0), .val (.int p1), .val (.ref xa), .val (.ref xc), .val (.int cnt), .unset] [(.int (0 : Int32))])) (fun _ k => XS.iconst X38.here hx rfl (hb hby d16_69) k) ?_
  refine Go.step (g' := (mkF m 72 #[.val (.ref o0), .val (.int p1), .val (.ref xa), .val (.ref xc), .val (.int cnt), .val (.int (0 : Int32))] [])) (fun _ k => XS.istore X38.here hx rfl (hb hby d16_70) rfl (l' := #[.val (.ref o0), .val (.int p1), .val (.ref xa), .val (.ref xc), .val (.int cnt), .val (.int (0 : Int32))]) rfl k) ?_
  skip
  refine Go.step (g' := (mkF m 74 #[.val (.ref o0), .val (.int p1), .val (.ref xa), .val (.ref xc), .val (.int cnt), .val (.int (0 : Int32))] [(.int (0 : Int32))])) (fun _ k => XS.iload X38.here hx rfl (hb hby d16_72) rfl  k) ?_
  refine Go.step (g' := (mkF m 76 #[.val (.ref o0), .val (.int p1), .val (.ref xa), .val (.ref xc), .val (.int cnt), .val (.int (0 : Int32))] [(.int cnt), (.int (0 : Int32))])) (fun _ k => XS.iload X38.here hx rfl (hb hby d16_74) rfl  k) ?_
  refine Go.step (g' := (mkF m 79 #[.val (.ref o0), .val (.int p1), .val (.ref xa), .val (.ref xc), .val (.int cnt), .val (.int (0 : Int32))] [])) (fun _ k => XS.icmpNo X38.here hx rfl (hb hby d16_76) rfl (tlt (hcpos : (0 : Int32) < cnt)).2.1 k) ?_
  skip
  refine Go.step (g' := (mkF m 80 #[.val (.ref o0), .val (.int p1), .val (.ref xa), .val (.ref xc), .val (.int cnt), .val (.int (0 : Int32))] [(.ref o0)])) (fun _ k => XS.aloadN X38.here hx rfl (hb hby d16_79) rfl rfl  k) ?_
  refine Go.step (g' := (mkF m 81 #[.val (.ref o0), .val (.int p1), .val (.ref xa), .val (.ref xc), .val (.int cnt), .val (.int (0 : Int32))] [(.ref o0), (.ref o0)])) (fun _ k => XS.aloadN X38.here hx rfl (hb hby d16_80) rfl rfl  k) ?_
  refine Go.step (g' := (mkF m 82 #[.val (.ref o0), .val (.int p1), .val (.ref xa), .val (.ref xc), .val (.int cnt), .val (.int (0 : Int32))] [(.ref xa), (.ref o0), (.ref o0)])) (fun _ k => XS.aloadN X38.here hx rfl (hb hby d16_81) rfl rfl  k) ?_
  refine Go.step (g' := (mkF m 84 #[.val (.ref o0), .val (.int p1), .val (.ref xa), .val (.ref xc), .val (.int cnt), .val (.int (0 : Int32))] [(.int (0 : Int32)), (.ref xa), (.ref o0), (.ref o0)])) (fun _ k => XS.iload X38.here hx rfl (hb hby d16_82) rfl  k) ?_
  refine Go.step (g' := (mkF m 85 #[.val (.ref o0), .val (.int p1), .val (.ref xa), .val (.ref xc), .val (.int cnt), .val (.int (0 : Int32))] [(.long (g (0 : Int32).toNatClampNeg)), (.ref o0), (.ref o0)])) (fun _ k => getAJ X38 hx hZ e38 (Q34.other W38 (Ne.symm n_o0_xa)) (j := (0 : Int32)) (by decide) (gf := (mkF m 84 #[.val (.ref o0), .val (.int p1), .val (.ref xa), .val (.ref xc), .val (.int cnt), .val (.int (0 : Int32))] [(.int (0 : Int32)), (.ref xa), (.ref o0), (.ref o0)])) rfl rfl (hb hby d16_84) k) ?_
  rw [show (g (0 : Int32).toNatClampNeg) = (g 0) from rfl]
  obtain ⟨cq47, qv47, qv47'⟩ := (((((E0.wr W5).wr W14).wr W22).wr W32).wr W38).cell
  obtain ⟨_, _, ⟨T47, L47, k47, n47⟩, -, X47, ⟨Lc47, hQ47, l47, y47, z47⟩, st47⟩ := X38.privateBack hx (y := (⟨"com/example/redelivery/redelivery/RadixHeap", "bucketOf", "(J)I"⟩ : MethodName)) hown (mvT hZ (hw _ (List.mem_of_getElem? (i := 44) rfl))) (mvT hZ (hw _ (List.mem_of_getElem? (i := 45) rfl))) (mvT hZ (own_selP (y := (⟨"com/example/redelivery/redelivery/RadixHeap", "bucketOf", "(J)I"⟩ : MethodName)) (by decide) (hw _ (List.mem_of_getElem? (i := 6) rfl)) (hw _ (List.mem_of_getElem? (i := 46) rfl)) (hw _ (List.mem_of_getElem? (i := 45) rfl)))) (Cond.privateMethod_at (mvP hZ (hw _ (List.mem_of_getElem? (i := 46) rfl)) (args := #[]))) (mvT hZ (hw _ (List.mem_of_getElem? (i := 47) rfl))) (by decide) (backOf (W := 1) (rm7 l Z a0 hw [] o0 (g 0) lw h38 Q44) hZ (hw _ (List.mem_of_getElem? (i := 47) rfl)) (hw _ (List.mem_of_getElem? (i := 7) rfl)) (by decide) (by decide)) (g := (mkF m 85 #[.val (.ref o0), .val (.int p1), .val (.ref xa), .val (.ref xc), .val (.int cnt), .val (.int (0 : Int32))] [(.long (g 0)), (.ref o0), (.ref o0)])) rfl (by rw [hml]; rfl) (Steps.refl _) (a := o0) (by rw [e38]; exact qv47) qv47' (argsL := [(.long (g 0))]) (rest := [(.ref o0)]) (lenOf pd_2 rfl) rfl (by show 2 * 0 + _ ≤ _; exact Nat.le_of_eq rfl) (hb hby d16_85) (fun _ _ => ⟨rfl, e38, (by decide : 0 + 0 ≤ _), (by decide : 0 + 0 ≤ _)⟩)
  dsimp only [Pt.U, Pt.locs, Pt.cells, Pt.slots] at X47 l47 y47 z47 st47 hQ47
  subst l47 y47 z47
  obtain ⟨rfl, rfl, e47⟩ := hQ47
  try rw [List.append_nil] at X47
  refine Go.step (g' := (mkF m 88 #[.val (.ref o0), .val (.int p1), .val (.ref xa), .val (.ref xc), .val (.int cnt), .val (.int (0 : Int32))] [(.int (f7_0 (g 0) lw)), (.ref o0)])) (fun _ k => st47.trans k) ?_
  refine Go.step (g' := (mkF m 89 #[.val (.ref o0), .val (.int p1), .val (.ref xa), .val (.ref xc), .val (.int cnt), .val (.int (0 : Int32))] [(.ref xa), (.int (f7_0 (g 0) lw)), (.ref o0)])) (fun _ k => XS.aloadN X47.here hx rfl (hb hby d16_88) rfl rfl  k) ?_
  refine Go.step (g' := (mkF m 91 #[.val (.ref o0), .val (.int p1), .val (.ref xa), .val (.ref xc), .val (.int cnt), .val (.int (0 : Int32))] [(.int (0 : Int32)), (.ref xa), (.int (f7_0 (g 0) lw)), (.ref o0)])) (fun _ k => XS.iload X47.here hx rfl (hb hby d16_89) rfl  k) ?_
  refine Go.step (g' := (mkF m 92 #[.val (.ref o0), .val (.int p1), .val (.ref xa), .val (.ref xc), .val (.int cnt), .val (.int (0 : Int32))] [(.long (g (0 : Int32).toNatClampNeg)), (.int (f7_0 (g 0) lw)), (.ref o0)])) (fun _ k => getAJ X47 hx hZ e47 (Q34.other W38 (Ne.symm n_o0_xa)) (j := (0 : Int32)) (by decide) (gf := (mkF m 91 #[.val (.ref o0), .val (.int p1), .val (.ref xa), .val (.ref xc), .val (.int cnt), .val (.int (0 : Int32))] [(.int (0 : Int32)), (.ref xa), (.int (f7_0 (g 0) lw)), (.ref o0)])) rfl rfl (hb hby d16_91) k) ?_
  rw [show (g (0 : Int32).toNatClampNeg) = (g 0) from rfl]
  refine Go.step (g' := (mkF m 93 #[.val (.ref o0), .val (.int p1), .val (.ref xa), .val (.ref xc), .val (.int cnt), .val (.int (0 : Int32))] [(.ref xc), (.long (g 0)), (.int (f7_0 (g 0) lw)), (.ref o0)])) (fun _ k => XS.aloadN X47.here hx rfl (hb hby d16_92) rfl rfl  k) ?_
  refine Go.step (g' := (mkF m 95 #[.val (.ref o0), .val (.int p1), .val (.ref xa), .val (.ref xc), .val (.int cnt), .val (.int (0 : Int32))] [(.int (0 : Int32)), (.ref xc), (.long (g 0)), (.int (f7_0 (g 0) lw)), (.ref o0)])) (fun _ k => XS.iload X47.here hx rfl (hb hby d16_93) rfl  k) ?_
  refine Go.step (g' := (mkF m 96 #[.val (.ref o0), .val (.int p1), .val (.ref xa), .val (.ref xc), .val (.int cnt), .val (.int (0 : Int32))] [(.long (gv (0 : Int32).toNatClampNeg)), (.long (g 0)), (.int (f7_0 (g 0) lw)), (.ref o0)])) (fun _ k => getAJ X47 hx hZ e47 (Q35.other W38 (Ne.symm n_o0_xc)) (j := (0 : Int32)) (by decide) (gf := (mkF m 95 #[.val (.ref o0), .val (.int p1), .val (.ref xa), .val (.ref xc), .val (.int cnt), .val (.int (0 : Int32))] [(.int (0 : Int32)), (.ref xc), (.long (g 0)), (.int (f7_0 (g 0) lw)), (.ref o0)])) rfl rfl (hb hby d16_95) k) ?_
  rw [show (gv (0 : Int32).toNatClampNeg) = (gv 0) from rfl]
  obtain ⟨cq48, qv48, qv48'⟩ := (((((E0.wr W5).wr W14).wr W22).wr W32).wr W38).cell
  obtain ⟨_, _, ⟨T48, L48, k48, n48⟩, -, X48, ⟨Lc48, hQ48, l48, y48, z48⟩, st48⟩ := X47.privateBack hx (y := (⟨"com/example/redelivery/redelivery/RadixHeap", "put", "(IJJ)V"⟩ : MethodName)) hown (mvT hZ (hw _ (List.mem_of_getElem? (i := 57) rfl))) (mvT hZ (hw _ (List.mem_of_getElem? (i := 58) rfl))) (mvT hZ (own_selP (y := (⟨"com/example/redelivery/redelivery/RadixHeap", "put", "(IJJ)V"⟩ : MethodName)) (by decide) (hw _ (List.mem_of_getElem? (i := 6) rfl)) (hw _ (List.mem_of_getElem? (i := 59) rfl)) (hw _ (List.mem_of_getElem? (i := 58) rfl)))) (Cond.privateMethod_at (mvP hZ (hw _ (List.mem_of_getElem? (i := 59) rfl)) (args := #[]))) (mvT hZ (hw _ (List.mem_of_getElem? (i := 60) rfl))) (by decide) (backOf (W := 0) (rm10 l Z a0 hw [] o0 (f7_0 (g 0) lw) (g 0) (gv 0) ka va sa la (TW tg xa xc 5 5) (upd kf p1.toNatClampNeg .null) (upd vf p1.toNatClampNeg .null) (upd sf p1.toNatClampNeg (0 : Int32)) lf (u &&& (((1 : Int64) <<< (p1 &&& 0x3f).toInt64) ^^^ (-1 : Int64))) lw z M (n - cnt.toNatClampNeg) h38 n0 (Nat.le_trans Q36 (Keep.of_wr W38).1) ⟨(((((E0.wr W5).wr W14).wr W22).wr W32).wr W38), Q39, Q40, Q41, Q42, Fw38, Q44, Q43, Q45, ((V22.other W32 n_va_sa).other W38 (Ne.symm n_o0_va)), (V32.other W38 (Ne.symm n_o0_sa)), (Q33.other W38 (Ne.symm n_o0_la))⟩ G1 J1 (own_bk (hg _ (own_lti (k := 0) (a := (0 : Int32)) hcpos (by decide))).1 hlw0) (by omega) (hg _ (own_lti (k := 0) (a := (0 : Int32)) hcpos (by decide))).1 (hg _ (own_lti (k := 0) (a := (0 : Int32)) hcpos (by decide))).2) hZ (hw _ (List.mem_of_getElem? (i := 60) rfl)) (hw _ (List.mem_of_getElem? (i := 7) rfl)) (by decide) (by decide)) (g := (mkF m 96 #[.val (.ref o0), .val (.int p1), .val (.ref xa), .val (.ref xc), .val (.int cnt), .val (.int (0 : Int32))] [(.long (gv 0)), (.long (g 0)), (.int (f7_0 (g 0) lw)), (.ref o0)])) rfl (by rw [hml]; rfl) (Steps.refl _) (a := o0) (by rw [e47]; exact qv48) qv48' (argsL := [(.int (f7_0 (g 0) lw)), (.long (g 0)), (.long (gv 0))]) (rest := []) (lenOf pd_4 rfl) rfl (by show 2 * 0 + _ ≤ _; exact Nat.le_of_eq rfl) (hb hby d16_96) (fun _ _ => ⟨rfl, e47, (by decide : 0 + 2 ≤ _), (by decide : 0 + 32 ≤ _)⟩)
  dsimp only [Pt.U, Pt.locs, Pt.cells, Pt.slots] at X48 l48 y48 z48 st48 hQ48
  subst l48 y48 z48
  obtain ⟨rfl, N48q, tg48, kf48, vf48, sf48, lf48, u48, R48, G48, J48, ht48, hd48, hm48, hp48⟩ := hQ48
  obtain ⟨lc48, X48, N48⟩ := own_pack X48 (Fr.app N38 N48q)
  obtain ⟨E48, Fk48, Fv48, Fs48, Fl48, Fu48, Fw48, Fz48, Ak48, Av48, As48, Al48⟩ := R48
  have Dxa48 := own_keep5 (Q34.other W38 (Ne.symm n_o0_xa)) hd48 t5a
  have t5xa48 : tg48 xa = 5 := (ht48 _ (Q34.other W38 (Ne.symm n_o0_xa)).lt).trans t5a
  have Dxc48 := own_keep5 (Q35.other W38 (Ne.symm n_o0_xc)) hd48 t5c
  have t5xc48 : tg48 xc = 5 := (ht48 _ (Q35.other W38 (Ne.symm n_o0_xc)).lt).trans t5c
  have Hs48 : ∀ i, i < 1 → sf48 ((f7_0 (g i) lw)).toNatClampNeg ≠ 0 := own_hsS (fun i hi => absurd hi (Nat.not_lt_zero i)) hm48 hp48
  refine Go.step (g' := (mkF m 99 #[.val (.ref o0), .val (.int p1), .val (.ref xa), .val (.ref xc), .val (.int cnt), .val (.int (0 : Int32))] [])) (fun _ k => st48.trans k) ?_
  refine Go.step (g' := (mkF m 102 #[.val (.ref o0), .val (.int p1), .val (.ref xa), .val (.ref xc), .val (.int cnt), .val (.int ((0 : Int32) + (1 : Int32)))] [])) (fun _ k => XS.iinc X48.here hx rfl (hb hby d16_99) rfl (l' := #[.val (.ref o0), .val (.int p1), .val (.ref xa), .val (.ref xc), .val (.int cnt), .val (.int ((0 : Int32) + (1 : Int32)))]) rfl k) ?_
  rw [show ((0 : Int32) + (1 : Int32)) = (1 : Int32) from by decide]
  refine Go.step (g' := (mkF m 72 #[.val (.ref o0), .val (.int p1), .val (.ref xa), .val (.ref xc), .val (.int cnt), .val (.int (1 : Int32))] [])) (fun _ k => XS.goto X48.here hx rfl (pc0 := 102) (pc' := 72) rfl (hb hby d16_102) (by decide) (by decide) k) ?_
  skip
  refine Go.step (g' := (mkF m 74 #[.val (.ref o0), .val (.int p1), .val (.ref xa), .val (.ref xc), .val (.int cnt), .val (.int (1 : Int32))] [(.int (1 : Int32))])) (fun _ k => XS.iload X48.here hx rfl (hb hby d16_72) rfl  k) ?_
  refine Go.step (g' := (mkF m 76 #[.val (.ref o0), .val (.int p1), .val (.ref xa), .val (.ref xc), .val (.int cnt), .val (.int (1 : Int32))] [(.int cnt), (.int (1 : Int32))])) (fun _ k => XS.iload X48.here hx rfl (hb hby d16_74) rfl  k) ?_
  by_cases hc76_c1 : (1 : Int32) < cnt
  · skip
    refine Go.step (g' := (mkF m 79 #[.val (.ref o0), .val (.int p1), .val (.ref xa), .val (.ref xc), .val (.int cnt), .val (.int (1 : Int32))] [])) (fun _ k => XS.icmpNo X48.here hx rfl (hb hby d16_76) rfl (tlt hc76_c1).2.1 k) ?_
    refine Go.step (g' := (mkF m 80 #[.val (.ref o0), .val (.int p1), .val (.ref xa), .val (.ref xc), .val (.int cnt), .val (.int (1 : Int32))] [(.ref o0)])) (fun _ k => XS.aloadN X48.here hx rfl (hb hby d16_79) rfl rfl  k) ?_
    refine Go.step (g' := (mkF m 81 #[.val (.ref o0), .val (.int p1), .val (.ref xa), .val (.ref xc), .val (.int cnt), .val (.int (1 : Int32))] [(.ref o0), (.ref o0)])) (fun _ k => XS.aloadN X48.here hx rfl (hb hby d16_80) rfl rfl  k) ?_
    refine Go.step (g' := (mkF m 82 #[.val (.ref o0), .val (.int p1), .val (.ref xa), .val (.ref xc), .val (.int cnt), .val (.int (1 : Int32))] [(.ref xa), (.ref o0), (.ref o0)])) (fun _ k => XS.aloadN X48.here hx rfl (hb hby d16_81) rfl rfl  k) ?_
    refine Go.step (g' := (mkF m 84 #[.val (.ref o0), .val (.int p1), .val (.ref xa), .val (.ref xc), .val (.int cnt), .val (.int (1 : Int32))] [(.int (1 : Int32)), (.ref xa), (.ref o0), (.ref o0)])) (fun _ k => XS.iload X48.here hx rfl (hb hby d16_82) rfl  k) ?_
    refine Go.step (g' := (mkF m 85 #[.val (.ref o0), .val (.int p1), .val (.ref xa), .val (.ref xc), .val (.int cnt), .val (.int (1 : Int32))] [(.long (g (1 : Int32).toNatClampNeg)), (.ref o0), (.ref o0)])) (fun _ k => getAJ X48 hx hZ rfl Dxa48 (j := (1 : Int32)) (by decide) (gf := (mkF m 84 #[.val (.ref o0), .val (.int p1), .val (.ref xa), .val (.ref xc), .val (.int cnt), .val (.int (1 : Int32))] [(.int (1 : Int32)), (.ref xa), (.ref o0), (.ref o0)])) rfl rfl (hb hby d16_84) k) ?_
    rw [show (g (1 : Int32).toNatClampNeg) = (g 1) from rfl]
    obtain ⟨cq49, qv49, qv49'⟩ := E48.cell
    obtain ⟨_, _, ⟨T49, L49, k49, n49⟩, -, X49, ⟨Lc49, hQ49, l49, y49, z49⟩, st49⟩ := X48.privateBack hx (y := (⟨"com/example/redelivery/redelivery/RadixHeap", "bucketOf", "(J)I"⟩ : MethodName)) hown (mvT hZ (hw _ (List.mem_of_getElem? (i := 44) rfl))) (mvT hZ (hw _ (List.mem_of_getElem? (i := 45) rfl))) (mvT hZ (own_selP (y := (⟨"com/example/redelivery/redelivery/RadixHeap", "bucketOf", "(J)I"⟩ : MethodName)) (by decide) (hw _ (List.mem_of_getElem? (i := 6) rfl)) (hw _ (List.mem_of_getElem? (i := 46) rfl)) (hw _ (List.mem_of_getElem? (i := 45) rfl)))) (Cond.privateMethod_at (mvP hZ (hw _ (List.mem_of_getElem? (i := 46) rfl)) (args := #[]))) (mvT hZ (hw _ (List.mem_of_getElem? (i := 47) rfl))) (by decide) (backOf (W := 1) (rm7 l Z a0 hw [] o0 (g 1) lw T48.heap Fw48) hZ (hw _ (List.mem_of_getElem? (i := 47) rfl)) (hw _ (List.mem_of_getElem? (i := 7) rfl)) (by decide) (by decide)) (g := (mkF m 85 #[.val (.ref o0), .val (.int p1), .val (.ref xa), .val (.ref xc), .val (.int cnt), .val (.int (1 : Int32))] [(.long (g 1)), (.ref o0), (.ref o0)])) rfl (by rw [hml]; rfl) (Steps.refl _) (a := o0) qv49 qv49' (argsL := [(.long (g 1))]) (rest := [(.ref o0)]) (lenOf pd_2 rfl) rfl (by show 2 * 0 + _ ≤ _; exact Nat.le_of_eq rfl) (hb hby d16_85) (fun _ _ => ⟨rfl, rfl, (by decide : (0 + 2) + 0 ≤ _), (by decide : (0 + 32) + 0 ≤ _)⟩)
    dsimp only [Pt.U, Pt.locs, Pt.cells, Pt.slots] at X49 l49 y49 z49 st49 hQ49
    subst l49 y49 z49
    obtain ⟨rfl, rfl, e49⟩ := hQ49
    try rw [List.append_nil] at X49
    refine Go.step (g' := (mkF m 88 #[.val (.ref o0), .val (.int p1), .val (.ref xa), .val (.ref xc), .val (.int cnt), .val (.int (1 : Int32))] [(.int (f7_0 (g 1) lw)), (.ref o0)])) (fun _ k => st49.trans k) ?_
    refine Go.step (g' := (mkF m 89 #[.val (.ref o0), .val (.int p1), .val (.ref xa), .val (.ref xc), .val (.int cnt), .val (.int (1 : Int32))] [(.ref xa), (.int (f7_0 (g 1) lw)), (.ref o0)])) (fun _ k => XS.aloadN X49.here hx rfl (hb hby d16_88) rfl rfl  k) ?_
    refine Go.step (g' := (mkF m 91 #[.val (.ref o0), .val (.int p1), .val (.ref xa), .val (.ref xc), .val (.int cnt), .val (.int (1 : Int32))] [(.int (1 : Int32)), (.ref xa), (.int (f7_0 (g 1) lw)), (.ref o0)])) (fun _ k => XS.iload X49.here hx rfl (hb hby d16_89) rfl  k) ?_
    refine Go.step (g' := (mkF m 92 #[.val (.ref o0), .val (.int p1), .val (.ref xa), .val (.ref xc), .val (.int cnt), .val (.int (1 : Int32))] [(.long (g (1 : Int32).toNatClampNeg)), (.int (f7_0 (g 1) lw)), (.ref o0)])) (fun _ k => getAJ X49 hx hZ e49 Dxa48 (j := (1 : Int32)) (by decide) (gf := (mkF m 91 #[.val (.ref o0), .val (.int p1), .val (.ref xa), .val (.ref xc), .val (.int cnt), .val (.int (1 : Int32))] [(.int (1 : Int32)), (.ref xa), (.int (f7_0 (g 1) lw)), (.ref o0)])) rfl rfl (hb hby d16_91) k) ?_
    rw [show (g (1 : Int32).toNatClampNeg) = (g 1) from rfl]
    refine Go.step (g' := (mkF m 93 #[.val (.ref o0), .val (.int p1), .val (.ref xa), .val (.ref xc), .val (.int cnt), .val (.int (1 : Int32))] [(.ref xc), (.long (g 1)), (.int (f7_0 (g 1) lw)), (.ref o0)])) (fun _ k => XS.aloadN X49.here hx rfl (hb hby d16_92) rfl rfl  k) ?_
    refine Go.step (g' := (mkF m 95 #[.val (.ref o0), .val (.int p1), .val (.ref xa), .val (.ref xc), .val (.int cnt), .val (.int (1 : Int32))] [(.int (1 : Int32)), (.ref xc), (.long (g 1)), (.int (f7_0 (g 1) lw)), (.ref o0)])) (fun _ k => XS.iload X49.here hx rfl (hb hby d16_93) rfl  k) ?_
    refine Go.step (g' := (mkF m 96 #[.val (.ref o0), .val (.int p1), .val (.ref xa), .val (.ref xc), .val (.int cnt), .val (.int (1 : Int32))] [(.long (gv (1 : Int32).toNatClampNeg)), (.long (g 1)), (.int (f7_0 (g 1) lw)), (.ref o0)])) (fun _ k => getAJ X49 hx hZ e49 Dxc48 (j := (1 : Int32)) (by decide) (gf := (mkF m 95 #[.val (.ref o0), .val (.int p1), .val (.ref xa), .val (.ref xc), .val (.int cnt), .val (.int (1 : Int32))] [(.int (1 : Int32)), (.ref xc), (.long (g 1)), (.int (f7_0 (g 1) lw)), (.ref o0)])) rfl rfl (hb hby d16_95) k) ?_
    rw [show (gv (1 : Int32).toNatClampNeg) = (gv 1) from rfl]
    obtain ⟨cq50, qv50, qv50'⟩ := E48.cell
    obtain ⟨_, _, ⟨T50, L50, k50, n50⟩, -, X50, ⟨Lc50, hQ50, l50, y50, z50⟩, st50⟩ := X49.privateBack hx (y := (⟨"com/example/redelivery/redelivery/RadixHeap", "put", "(IJJ)V"⟩ : MethodName)) hown (mvT hZ (hw _ (List.mem_of_getElem? (i := 57) rfl))) (mvT hZ (hw _ (List.mem_of_getElem? (i := 58) rfl))) (mvT hZ (own_selP (y := (⟨"com/example/redelivery/redelivery/RadixHeap", "put", "(IJJ)V"⟩ : MethodName)) (by decide) (hw _ (List.mem_of_getElem? (i := 6) rfl)) (hw _ (List.mem_of_getElem? (i := 59) rfl)) (hw _ (List.mem_of_getElem? (i := 58) rfl)))) (Cond.privateMethod_at (mvP hZ (hw _ (List.mem_of_getElem? (i := 59) rfl)) (args := #[]))) (mvT hZ (hw _ (List.mem_of_getElem? (i := 60) rfl))) (by decide) (backOf (W := 0) (rm10 l Z a0 hw [] o0 (f7_0 (g 1) lw) (g 1) (gv 1) ka va sa la tg48 kf48 vf48 sf48 lf48 u48 lw z M ((n - cnt.toNatClampNeg) + 1) T48.heap n0 (Nat.le_trans g_o0 (Nat.le_of_lt E48.lt)) ⟨E48, Fk48, Fv48, Fs48, Fl48, Fu48, Fw48, Fz48, Ak48, Av48, As48, Al48⟩ G48 J48 (own_bk (hg _ (own_lti (k := 1) (a := (1 : Int32)) hc76_c1 (by decide))).1 hlw0) (by omega) (hg _ (own_lti (k := 1) (a := (1 : Int32)) hc76_c1 (by decide))).1 (hg _ (own_lti (k := 1) (a := (1 : Int32)) hc76_c1 (by decide))).2) hZ (hw _ (List.mem_of_getElem? (i := 60) rfl)) (hw _ (List.mem_of_getElem? (i := 7) rfl)) (by decide) (by decide)) (g := (mkF m 96 #[.val (.ref o0), .val (.int p1), .val (.ref xa), .val (.ref xc), .val (.int cnt), .val (.int (1 : Int32))] [(.long (gv 1)), (.long (g 1)), (.int (f7_0 (g 1) lw)), (.ref o0)])) rfl (by rw [hml]; rfl) (Steps.refl _) (a := o0) (by rw [e49]; exact qv50) qv50' (argsL := [(.int (f7_0 (g 1) lw)), (.long (g 1)), (.long (gv 1))]) (rest := []) (lenOf pd_4 rfl) rfl (by show 2 * 0 + _ ≤ _; exact Nat.le_of_eq rfl) (hb hby d16_96) (fun _ _ => ⟨rfl, e49, (by decide : (0 + 2) + 2 ≤ _), (by decide : (0 + 32) + 32 ≤ _)⟩)
    dsimp only [Pt.U, Pt.locs, Pt.cells, Pt.slots] at X50 l50 y50 z50 st50 hQ50
    subst l50 y50 z50
    obtain ⟨rfl, N50q, tg50, kf50, vf50, sf50, lf50, u50, R50, G50, J50, ht50, hd50, hm50, hp50⟩ := hQ50
    obtain ⟨lc50, X50, N50⟩ := own_pack X50 (Fr.app N48 N50q)
    obtain ⟨E50, Fk50, Fv50, Fs50, Fl50, Fu50, Fw50, Fz50, Ak50, Av50, As50, Al50⟩ := R50
    have Dxa50 := own_keep5 Dxa48 hd50 t5xa48
    have t5xa50 : tg50 xa = 5 := (ht50 _ Dxa48.lt).trans t5xa48
    have Dxc50 := own_keep5 Dxc48 hd50 t5xc48
    have t5xc50 : tg50 xc = 5 := (ht50 _ Dxc48.lt).trans t5xc48
    have Hs50 : ∀ i, i < 2 → sf50 ((f7_0 (g i) lw)).toNatClampNeg ≠ 0 := own_hsS Hs48 hm50 hp50
    refine Go.step (g' := (mkF m 99 #[.val (.ref o0), .val (.int p1), .val (.ref xa), .val (.ref xc), .val (.int cnt), .val (.int (1 : Int32))] [])) (fun _ k => st50.trans k) ?_
    refine Go.step (g' := (mkF m 102 #[.val (.ref o0), .val (.int p1), .val (.ref xa), .val (.ref xc), .val (.int cnt), .val (.int ((1 : Int32) + (1 : Int32)))] [])) (fun _ k => XS.iinc X50.here hx rfl (hb hby d16_99) rfl (l' := #[.val (.ref o0), .val (.int p1), .val (.ref xa), .val (.ref xc), .val (.int cnt), .val (.int ((1 : Int32) + (1 : Int32)))]) rfl k) ?_
    rw [show ((1 : Int32) + (1 : Int32)) = (2 : Int32) from by decide]
    refine Go.step (g' := (mkF m 72 #[.val (.ref o0), .val (.int p1), .val (.ref xa), .val (.ref xc), .val (.int cnt), .val (.int (2 : Int32))] [])) (fun _ k => XS.goto X50.here hx rfl (pc0 := 102) (pc' := 72) rfl (hb hby d16_102) (by decide) (by decide) k) ?_
    skip
    refine Go.step (g' := (mkF m 74 #[.val (.ref o0), .val (.int p1), .val (.ref xa), .val (.ref xc), .val (.int cnt), .val (.int (2 : Int32))] [(.int (2 : Int32))])) (fun _ k => XS.iload X50.here hx rfl (hb hby d16_72) rfl  k) ?_
    refine Go.step (g' := (mkF m 76 #[.val (.ref o0), .val (.int p1), .val (.ref xa), .val (.ref xc), .val (.int cnt), .val (.int (2 : Int32))] [(.int cnt), (.int (2 : Int32))])) (fun _ k => XS.iload X50.here hx rfl (hb hby d16_74) rfl  k) ?_
    by_cases hc76_c2 : (2 : Int32) < cnt
    · skip
      refine Go.step (g' := (mkF m 79 #[.val (.ref o0), .val (.int p1), .val (.ref xa), .val (.ref xc), .val (.int cnt), .val (.int (2 : Int32))] [])) (fun _ k => XS.icmpNo X50.here hx rfl (hb hby d16_76) rfl (tlt hc76_c2).2.1 k) ?_
      refine Go.step (g' := (mkF m 80 #[.val (.ref o0), .val (.int p1), .val (.ref xa), .val (.ref xc), .val (.int cnt), .val (.int (2 : Int32))] [(.ref o0)])) (fun _ k => XS.aloadN X50.here hx rfl (hb hby d16_79) rfl rfl  k) ?_
      refine Go.step (g' := (mkF m 81 #[.val (.ref o0), .val (.int p1), .val (.ref xa), .val (.ref xc), .val (.int cnt), .val (.int (2 : Int32))] [(.ref o0), (.ref o0)])) (fun _ k => XS.aloadN X50.here hx rfl (hb hby d16_80) rfl rfl  k) ?_
      refine Go.step (g' := (mkF m 82 #[.val (.ref o0), .val (.int p1), .val (.ref xa), .val (.ref xc), .val (.int cnt), .val (.int (2 : Int32))] [(.ref xa), (.ref o0), (.ref o0)])) (fun _ k => XS.aloadN X50.here hx rfl (hb hby d16_81) rfl rfl  k) ?_
      refine Go.step (g' := (mkF m 84 #[.val (.ref o0), .val (.int p1), .val (.ref xa), .val (.ref xc), .val (.int cnt), .val (.int (2 : Int32))] [(.int (2 : Int32)), (.ref xa), (.ref o0), (.ref o0)])) (fun _ k => XS.iload X50.here hx rfl (hb hby d16_82) rfl  k) ?_
      refine Go.step (g' := (mkF m 85 #[.val (.ref o0), .val (.int p1), .val (.ref xa), .val (.ref xc), .val (.int cnt), .val (.int (2 : Int32))] [(.long (g (2 : Int32).toNatClampNeg)), (.ref o0), (.ref o0)])) (fun _ k => getAJ X50 hx hZ rfl Dxa50 (j := (2 : Int32)) (by decide) (gf := (mkF m 84 #[.val (.ref o0), .val (.int p1), .val (.ref xa), .val (.ref xc), .val (.int cnt), .val (.int (2 : Int32))] [(.int (2 : Int32)), (.ref xa), (.ref o0), (.ref o0)])) rfl rfl (hb hby d16_84) k) ?_
      rw [show (g (2 : Int32).toNatClampNeg) = (g 2) from rfl]
      obtain ⟨cq51, qv51, qv51'⟩ := E50.cell
      obtain ⟨_, _, ⟨T51, L51, k51, n51⟩, -, X51, ⟨Lc51, hQ51, l51, y51, z51⟩, st51⟩ := X50.privateBack hx (y := (⟨"com/example/redelivery/redelivery/RadixHeap", "bucketOf", "(J)I"⟩ : MethodName)) hown (mvT hZ (hw _ (List.mem_of_getElem? (i := 44) rfl))) (mvT hZ (hw _ (List.mem_of_getElem? (i := 45) rfl))) (mvT hZ (own_selP (y := (⟨"com/example/redelivery/redelivery/RadixHeap", "bucketOf", "(J)I"⟩ : MethodName)) (by decide) (hw _ (List.mem_of_getElem? (i := 6) rfl)) (hw _ (List.mem_of_getElem? (i := 46) rfl)) (hw _ (List.mem_of_getElem? (i := 45) rfl)))) (Cond.privateMethod_at (mvP hZ (hw _ (List.mem_of_getElem? (i := 46) rfl)) (args := #[]))) (mvT hZ (hw _ (List.mem_of_getElem? (i := 47) rfl))) (by decide) (backOf (W := 1) (rm7 l Z a0 hw [] o0 (g 2) lw T50.heap Fw50) hZ (hw _ (List.mem_of_getElem? (i := 47) rfl)) (hw _ (List.mem_of_getElem? (i := 7) rfl)) (by decide) (by decide)) (g := (mkF m 85 #[.val (.ref o0), .val (.int p1), .val (.ref xa), .val (.ref xc), .val (.int cnt), .val (.int (2 : Int32))] [(.long (g 2)), (.ref o0), (.ref o0)])) rfl (by rw [hml]; rfl) (Steps.refl _) (a := o0) qv51 qv51' (argsL := [(.long (g 2))]) (rest := [(.ref o0)]) (lenOf pd_2 rfl) rfl (by show 2 * 0 + _ ≤ _; exact Nat.le_of_eq rfl) (hb hby d16_85) (fun _ _ => ⟨rfl, rfl, (by decide : ((0 + 2) + 2) + 0 ≤ _), (by decide : ((0 + 32) + 32) + 0 ≤ _)⟩)
      dsimp only [Pt.U, Pt.locs, Pt.cells, Pt.slots] at X51 l51 y51 z51 st51 hQ51
      subst l51 y51 z51
      obtain ⟨rfl, rfl, e51⟩ := hQ51
      try rw [List.append_nil] at X51
      refine Go.step (g' := (mkF m 88 #[.val (.ref o0), .val (.int p1), .val (.ref xa), .val (.ref xc), .val (.int cnt), .val (.int (2 : Int32))] [(.int (f7_0 (g 2) lw)), (.ref o0)])) (fun _ k => st51.trans k) ?_
      refine Go.step (g' := (mkF m 89 #[.val (.ref o0), .val (.int p1), .val (.ref xa), .val (.ref xc), .val (.int cnt), .val (.int (2 : Int32))] [(.ref xa), (.int (f7_0 (g 2) lw)), (.ref o0)])) (fun _ k => XS.aloadN X51.here hx rfl (hb hby d16_88) rfl rfl  k) ?_
      refine Go.step (g' := (mkF m 91 #[.val (.ref o0), .val (.int p1), .val (.ref xa), .val (.ref xc), .val (.int cnt), .val (.int (2 : Int32))] [(.int (2 : Int32)), (.ref xa), (.int (f7_0 (g 2) lw)), (.ref o0)])) (fun _ k => XS.iload X51.here hx rfl (hb hby d16_89) rfl  k) ?_
      refine Go.step (g' := (mkF m 92 #[.val (.ref o0), .val (.int p1), .val (.ref xa), .val (.ref xc), .val (.int cnt), .val (.int (2 : Int32))] [(.long (g (2 : Int32).toNatClampNeg)), (.int (f7_0 (g 2) lw)), (.ref o0)])) (fun _ k => getAJ X51 hx hZ e51 Dxa50 (j := (2 : Int32)) (by decide) (gf := (mkF m 91 #[.val (.ref o0), .val (.int p1), .val (.ref xa), .val (.ref xc), .val (.int cnt), .val (.int (2 : Int32))] [(.int (2 : Int32)), (.ref xa), (.int (f7_0 (g 2) lw)), (.ref o0)])) rfl rfl (hb hby d16_91) k) ?_
      rw [show (g (2 : Int32).toNatClampNeg) = (g 2) from rfl]
      refine Go.step (g' := (mkF m 93 #[.val (.ref o0), .val (.int p1), .val (.ref xa), .val (.ref xc), .val (.int cnt), .val (.int (2 : Int32))] [(.ref xc), (.long (g 2)), (.int (f7_0 (g 2) lw)), (.ref o0)])) (fun _ k => XS.aloadN X51.here hx rfl (hb hby d16_92) rfl rfl  k) ?_
      refine Go.step (g' := (mkF m 95 #[.val (.ref o0), .val (.int p1), .val (.ref xa), .val (.ref xc), .val (.int cnt), .val (.int (2 : Int32))] [(.int (2 : Int32)), (.ref xc), (.long (g 2)), (.int (f7_0 (g 2) lw)), (.ref o0)])) (fun _ k => XS.iload X51.here hx rfl (hb hby d16_93) rfl  k) ?_
      refine Go.step (g' := (mkF m 96 #[.val (.ref o0), .val (.int p1), .val (.ref xa), .val (.ref xc), .val (.int cnt), .val (.int (2 : Int32))] [(.long (gv (2 : Int32).toNatClampNeg)), (.long (g 2)), (.int (f7_0 (g 2) lw)), (.ref o0)])) (fun _ k => getAJ X51 hx hZ e51 Dxc50 (j := (2 : Int32)) (by decide) (gf := (mkF m 95 #[.val (.ref o0), .val (.int p1), .val (.ref xa), .val (.ref xc), .val (.int cnt), .val (.int (2 : Int32))] [(.int (2 : Int32)), (.ref xc), (.long (g 2)), (.int (f7_0 (g 2) lw)), (.ref o0)])) rfl rfl (hb hby d16_95) k) ?_
      rw [show (gv (2 : Int32).toNatClampNeg) = (gv 2) from rfl]
      obtain ⟨cq52, qv52, qv52'⟩ := E50.cell
      obtain ⟨_, _, ⟨T52, L52, k52, n52⟩, -, X52, ⟨Lc52, hQ52, l52, y52, z52⟩, st52⟩ := X51.privateBack hx (y := (⟨"com/example/redelivery/redelivery/RadixHeap", "put", "(IJJ)V"⟩ : MethodName)) hown (mvT hZ (hw _ (List.mem_of_getElem? (i := 57) rfl))) (mvT hZ (hw _ (List.mem_of_getElem? (i := 58) rfl))) (mvT hZ (own_selP (y := (⟨"com/example/redelivery/redelivery/RadixHeap", "put", "(IJJ)V"⟩ : MethodName)) (by decide) (hw _ (List.mem_of_getElem? (i := 6) rfl)) (hw _ (List.mem_of_getElem? (i := 59) rfl)) (hw _ (List.mem_of_getElem? (i := 58) rfl)))) (Cond.privateMethod_at (mvP hZ (hw _ (List.mem_of_getElem? (i := 59) rfl)) (args := #[]))) (mvT hZ (hw _ (List.mem_of_getElem? (i := 60) rfl))) (by decide) (backOf (W := 0) (rm10 l Z a0 hw [] o0 (f7_0 (g 2) lw) (g 2) (gv 2) ka va sa la tg50 kf50 vf50 sf50 lf50 u50 lw z M (((n - cnt.toNatClampNeg) + 1) + 1) T50.heap n0 (Nat.le_trans g_o0 (Nat.le_of_lt E50.lt)) ⟨E50, Fk50, Fv50, Fs50, Fl50, Fu50, Fw50, Fz50, Ak50, Av50, As50, Al50⟩ G50 J50 (own_bk (hg _ (own_lti (k := 2) (a := (2 : Int32)) hc76_c2 (by decide))).1 hlw0) (by omega) (hg _ (own_lti (k := 2) (a := (2 : Int32)) hc76_c2 (by decide))).1 (hg _ (own_lti (k := 2) (a := (2 : Int32)) hc76_c2 (by decide))).2) hZ (hw _ (List.mem_of_getElem? (i := 60) rfl)) (hw _ (List.mem_of_getElem? (i := 7) rfl)) (by decide) (by decide)) (g := (mkF m 96 #[.val (.ref o0), .val (.int p1), .val (.ref xa), .val (.ref xc), .val (.int cnt), .val (.int (2 : Int32))] [(.long (gv 2)), (.long (g 2)), (.int (f7_0 (g 2) lw)), (.ref o0)])) rfl (by rw [hml]; rfl) (Steps.refl _) (a := o0) (by rw [e51]; exact qv52) qv52' (argsL := [(.int (f7_0 (g 2) lw)), (.long (g 2)), (.long (gv 2))]) (rest := []) (lenOf pd_4 rfl) rfl (by show 2 * 0 + _ ≤ _; exact Nat.le_of_eq rfl) (hb hby d16_96) (fun _ _ => ⟨rfl, e51, (by decide : ((0 + 2) + 2) + 2 ≤ _), (by decide : ((0 + 32) + 32) + 32 ≤ _)⟩)
      dsimp only [Pt.U, Pt.locs, Pt.cells, Pt.slots] at X52 l52 y52 z52 st52 hQ52
      subst l52 y52 z52
      obtain ⟨rfl, N52q, tg52, kf52, vf52, sf52, lf52, u52, R52, G52, J52, ht52, hd52, hm52, hp52⟩ := hQ52
      obtain ⟨lc52, X52, N52⟩ := own_pack X52 (Fr.app N50 N52q)
      obtain ⟨E52, Fk52, Fv52, Fs52, Fl52, Fu52, Fw52, Fz52, Ak52, Av52, As52, Al52⟩ := R52
      have Dxa52 := own_keep5 Dxa50 hd52 t5xa50
      have t5xa52 : tg52 xa = 5 := (ht52 _ Dxa50.lt).trans t5xa50
      have Dxc52 := own_keep5 Dxc50 hd52 t5xc50
      have t5xc52 : tg52 xc = 5 := (ht52 _ Dxc50.lt).trans t5xc50
      have Hs52 : ∀ i, i < 3 → sf52 ((f7_0 (g i) lw)).toNatClampNeg ≠ 0 := own_hsS Hs50 hm52 hp52
      refine Go.step (g' := (mkF m 99 #[.val (.ref o0), .val (.int p1), .val (.ref xa), .val (.ref xc), .val (.int cnt), .val (.int (2 : Int32))] [])) (fun _ k => st52.trans k) ?_
      refine Go.step (g' := (mkF m 102 #[.val (.ref o0), .val (.int p1), .val (.ref xa), .val (.ref xc), .val (.int cnt), .val (.int ((2 : Int32) + (1 : Int32)))] [])) (fun _ k => XS.iinc X52.here hx rfl (hb hby d16_99) rfl (l' := #[.val (.ref o0), .val (.int p1), .val (.ref xa), .val (.ref xc), .val (.int cnt), .val (.int ((2 : Int32) + (1 : Int32)))]) rfl k) ?_
      rw [show ((2 : Int32) + (1 : Int32)) = (3 : Int32) from by decide]
      refine Go.step (g' := (mkF m 72 #[.val (.ref o0), .val (.int p1), .val (.ref xa), .val (.ref xc), .val (.int cnt), .val (.int (3 : Int32))] [])) (fun _ k => XS.goto X52.here hx rfl (pc0 := 102) (pc' := 72) rfl (hb hby d16_102) (by decide) (by decide) k) ?_
      skip
      refine Go.step (g' := (mkF m 74 #[.val (.ref o0), .val (.int p1), .val (.ref xa), .val (.ref xc), .val (.int cnt), .val (.int (3 : Int32))] [(.int (3 : Int32))])) (fun _ k => XS.iload X52.here hx rfl (hb hby d16_72) rfl  k) ?_
      refine Go.step (g' := (mkF m 76 #[.val (.ref o0), .val (.int p1), .val (.ref xa), .val (.ref xc), .val (.int cnt), .val (.int (3 : Int32))] [(.int cnt), (.int (3 : Int32))])) (fun _ k => XS.iload X52.here hx rfl (hb hby d16_74) rfl  k) ?_
      refine Go.step (g' := (mkF m 105 #[.val (.ref o0), .val (.int p1), .val (.ref xa), .val (.ref xc), .val (.int cnt), .val (.int (3 : Int32))] [])) (fun _ k => XS.icmpYes X52.here hx rfl (pc0 := 76) (pc' := 105) rfl (hb hby d16_76) rfl (flt (hlast : ¬ ((3 : Int32) < cnt))).2.1 (by decide) (by decide) k) ?_
      skip
      exact Go.ret0 X52 hx hlk Bd.returns (hb hby d16_105) (by decide) (by decide) (by exact (own_spEnd (c := 3) (own_cn hc76_c2 hlast (by decide) (by decide)) hcn N52 ⟨E52, Fk52, Fv52, Fs52, Fl52, Fu52, Fw52, Fz52, Ak52, Av52, As52, Al52⟩ G52 J52 rfl Hs52 hl' hlw0 hlwM))
    · skip
      refine Go.step (g' := (mkF m 105 #[.val (.ref o0), .val (.int p1), .val (.ref xa), .val (.ref xc), .val (.int cnt), .val (.int (2 : Int32))] [])) (fun _ k => XS.icmpYes X50.here hx rfl (pc0 := 76) (pc' := 105) rfl (hb hby d16_76) rfl (flt hc76_c2).2.1 (by decide) (by decide) k) ?_
      exact Go.ret0 X50 hx hlk Bd.returns (hb hby d16_105) (by decide) (by decide) (by exact (own_spEnd (c := 2) (own_cn hc76_c1 hc76_c2 (by decide) (by decide)) hcn N50 ⟨E50, Fk50, Fv50, Fs50, Fl50, Fu50, Fw50, Fz50, Ak50, Av50, As50, Al50⟩ G50 J50 rfl Hs50 hl' hlw0 hlwM))
  · skip
    refine Go.step (g' := (mkF m 105 #[.val (.ref o0), .val (.int p1), .val (.ref xa), .val (.ref xc), .val (.int cnt), .val (.int (1 : Int32))] [])) (fun _ k => XS.icmpYes X48.here hx rfl (pc0 := 76) (pc' := 105) rfl (hb hby d16_76) rfl (flt hc76_c1).2.1 (by decide) (by decide) k) ?_
    exact Go.ret0 X48 hx hlk Bd.returns (hb hby d16_105) (by decide) (by decide) (by exact (own_spEnd (c := 1) (own_cn hcpos hc76_c1 (by decide) (by decide)) hcn N48 ⟨E48, Fk48, Fv48, Fs48, Fl48, Fu48, Fw48, Fz48, Ak48, Av48, As48, Al48⟩ G48 J48 rfl Hs48 hl' hlw0 hlwM))

set_option maxRecDepth 65536 in
set_option maxHeartbeats 40000000 in
theorem rm16b (l : Launch) (Z : State) (a0 : Array Value) (hw : ∀ d ∈ tables_1, d.before a0 Z = true) (ws : List Jvm.Cond) (o0 : Addr) (p1 : Int32) (ka : Addr) (va : Addr) (sa : Addr) (la : Addr) (tg : Addr → Nat) (kf : Nat → Value) (vf : Nat → Value) (sf : Nat → Int32) (lf : Nat → Int64) (u : Int64) (w : Int64) (z : Int32) (M : Int64) (n : Nat) (h0 : Heap) (n0 : Nat) (Z0 : n0 ≤ h0.size) (R0 : RF Z h0 o0 ka va sa la kf vf sf lf u w z) (G0 : TG tg o0 ka va sa la) (J0 : JJ Z h0 n0 tg M kf vf sf lf u n) (hbb : ¬ (p1 < 0 ∨ 64 ≤ p1.toNatClampNeg)) (hn : n ≤ 4) (hs : sf p1.toNatClampNeg ≠ 0) (hbn : p1.toNatClampNeg ≠ 0) :
    MetFree l (⟨"com/example/redelivery/redelivery/RadixHeap", "spill", "(I)V"⟩ : MethodName) (head1 (Jvm.Cond.code (⟨"com/example/redelivery/redelivery/RadixHeap", "spill", "(I)V"⟩ : MethodName) prog_23_method_8_code 6 none :: ws) ({ frames := 3, cells := 8, slots := 128, locals := 44 } : Room)) (fun a U => a = #[(.ref o0), (.int p1)] ∧ Z.Warmed39 U.vm ∧ U.heap = h0) (fun _ _ _ _ _ => True) (fun _ U o U' => ∃ v L, o = .returned v ∧ (QS Z n0 o0 ka va sa la M z n) v U'.heap L ∧ FrameEnd U o U' L ({ frames := 3, cells := 8, slots := 128, locals := 44 } : Room).cells ({ frames := 3, cells := 8, slots := 128, locals := 44 } : Room).slots) := by
  refine MetFree.of_bodySF (plainFor_of_name pn_16) hisR ?_
  intro p e s m args below meth c s₁ Bd hml0 hP hK
  obtain ⟨rfl, hZ, hh⟩ := hP
  have hx := Bd.exec
  have hby := Bd.bytes
  have hlk : meth.locks = false := BodyLoose.notSynchronized Bd
  have hml : c.maxLocals = 6 := hml0
  have hown : s.vm.findClass "com/example/redelivery/redelivery/RadixHeap" = some m.cls := findClass_of_methodNamed Bd.named
  have hnm := (name_of_methodNamed Bd.named Bd.method).1
  have X0 : Stand p l e ({ frames := 3, cells := 8, slots := 128, locals := 44 } : Room) s m #[(.ref o0), (.int p1)] below meth c s₁ ([] : List Loc) 0 0 := Stand.of_body Bd
  have e0 : s₁.heap = h0 := by rw [← hh, Bd.state]; rfl
  show Go p e below s 8 128 (QS Z n0 o0 ka va sa la M z n) s₁ (entryFrame m #[(.ref o0), (.int p1)] 6)
  rw [ef_16 m o0 p1]
  have N0 := Fr.nil n0
  obtain ⟨xa, xc, g, gv, hka, hvc, t_xa, t_xc, Aa, Ac, hg, hl⟩ := J0.full (own_lt hbb) hs
  have hl := hl.resolve_left hbn
  obtain ⟨E0, Fk0, Fv0, Fs0, Fl0, Fu0, Fw0, Fz0, Ak0, Av0, As0, Al0⟩ := R0
  have n_o0_ka : o0 ≠ ka := own_tn G0.1 G0.2.1 (by decide)
  have n_o0_va : o0 ≠ va := own_tn G0.1 G0.2.2.1 (by decide)
  have n_o0_sa : o0 ≠ sa := own_tn G0.1 G0.2.2.2.1 (by decide)
  have n_o0_la : o0 ≠ la := own_tn G0.1 G0.2.2.2.2 (by decide)
  have n_o0_xa : o0 ≠ xa := own_tn G0.1 t_xa (by omega)
  have n_o0_xc : o0 ≠ xc := own_tn G0.1 t_xc (by omega)
  have n_ka_va : ka ≠ va := own_tn G0.2.1 G0.2.2.1 (by decide)
  have n_ka_sa : ka ≠ sa := own_tn G0.2.1 G0.2.2.2.1 (by decide)
  have n_ka_la : ka ≠ la := own_tn G0.2.1 G0.2.2.2.2 (by decide)
  have n_ka_xa : ka ≠ xa := own_tn G0.2.1 t_xa (by omega)
  have n_ka_xc : ka ≠ xc := own_tn G0.2.1 t_xc (by omega)
  have n_va_sa : va ≠ sa := own_tn G0.2.2.1 G0.2.2.2.1 (by decide)
  have n_va_la : va ≠ la := own_tn G0.2.2.1 G0.2.2.2.2 (by decide)
  have n_va_xa : va ≠ xa := own_tn G0.2.2.1 t_xa (by omega)
  have n_va_xc : va ≠ xc := own_tn G0.2.2.1 t_xc (by omega)
  have n_sa_la : sa ≠ la := own_tn G0.2.2.2.1 G0.2.2.2.2 (by decide)
  have n_sa_xa : sa ≠ xa := own_tn G0.2.2.2.1 t_xa (by omega)
  have n_sa_xc : sa ≠ xc := own_tn G0.2.2.2.1 t_xc (by omega)
  have n_la_xa : la ≠ xa := own_tn G0.2.2.2.2 t_xa (by omega)
  have n_la_xc : la ≠ xc := own_tn G0.2.2.2.2 t_xc (by omega)
  have n_xa_xc : xa ≠ xc := own_tn t_xa t_xc (by omega)
  have g_o0 : n0 ≤ o0 := J0.2.2.2.2 _ (by rw [G0.1]; decide)
  have g_ka : n0 ≤ ka := J0.2.2.2.2 _ (by rw [G0.2.1]; decide)
  have g_va : n0 ≤ va := J0.2.2.2.2 _ (by rw [G0.2.2.1]; decide)
  have g_sa : n0 ≤ sa := J0.2.2.2.2 _ (by rw [G0.2.2.2.1]; decide)
  have g_la : n0 ≤ la := J0.2.2.2.2 _ (by rw [G0.2.2.2.2]; decide)
  have g_xa : n0 ≤ xa := J0.2.2.2.2 _ (by rw [t_xa]; omega)
  have g_xc : n0 ≤ xc := J0.2.2.2.2 _ (by rw [t_xc]; omega)
  refine Go.step (g' := (mkF m 1 #[.val (.ref o0), .val (.int p1), .unset, .unset, .unset, .unset] [(.ref o0)])) (fun _ k => XS.aloadN X0.here hx rfl (hb hby d16_0) rfl rfl  k) ?_
  obtain ⟨T1, X1, e1, st1⟩ := getF X0 hx hZ hown (host := "") (Or.inl (hw _ (List.mem_of_getElem? (i := 16) rfl))) Via.refl e0 Fk0 (g := (mkF m 1 #[.val (.ref o0), .val (.int p1), .unset, .unset, .unset, .unset] [(.ref o0)])) rfl rfl (hb hby d16_1)
  refine Go.step (g' := (mkF m 4 #[.val (.ref o0), .val (.int p1), .unset, .unset, .unset, .unset] [(.ref ka)])) st1 ?_
  refine Go.step (g' := (mkF m 5 #[.val (.ref o0), .val (.int p1), .unset, .unset, .unset, .unset] [(.int p1), (.ref ka)])) (fun _ k => XS.iloadN X1.here hx rfl (hb hby d16_4) rfl  k) ?_
  refine Go.step (g' := (mkF m 6 #[.val (.ref o0), .val (.int p1), .unset, .unset, .unset, .unset] [(.ref xa)])) (fun _ k => getAV X1 hx hZ e1 Ak0 (j := p1) (v := (.ref xa)) hbb hka (gf := (mkF m 5 #[.val (.ref o0), .val (.int p1), .unset, .unset, .unset, .unset] [(.int p1), (.ref ka)])) rfl rfl (hb hby d16_5) k) ?_
  refine Go.step (g' := (mkF m 7 #[.val (.ref o0), .val (.int p1), .val (.ref xa), .unset, .unset, .unset] [])) (fun _ k => XS.astoreN X1.here hx rfl (hb hby d16_6) rfl rfl (l' := #[.val (.ref o0), .val (.int p1), .val (.ref xa), .unset, .unset, .unset]) rfl k) ?_
  refine Go.step (g' := (mkF m 8 #[.val (.ref o0), .val (.int p1), .val (.ref xa), .unset, .unset, .unset] [(.ref o0)])) (fun _ k => XS.aloadN X1.here hx rfl (hb hby d16_7) rfl rfl  k) ?_
  obtain ⟨T2, X2, e2, st2⟩ := getF X1 hx hZ hown (host := "") (Or.inl (hw _ (List.mem_of_getElem? (i := 18) rfl))) Via.refl e1 Fv0 (g := (mkF m 8 #[.val (.ref o0), .val (.int p1), .val (.ref xa), .unset, .unset, .unset] [(.ref o0)])) rfl rfl (hb hby d16_8)
  refine Go.step (g' := (mkF m 11 #[.val (.ref o0), .val (.int p1), .val (.ref xa), .unset, .unset, .unset] [(.ref va)])) st2 ?_
  refine Go.step (g' := (mkF m 12 #[.val (.ref o0), .val (.int p1), .val (.ref xa), .unset, .unset, .unset] [(.int p1), (.ref va)])) (fun _ k => XS.iloadN X2.here hx rfl (hb hby d16_11) rfl  k) ?_
  refine Go.step (g' := (mkF m 13 #[.val (.ref o0), .val (.int p1), .val (.ref xa), .unset, .unset, .unset] [(.ref xc)])) (fun _ k => getAV X2 hx hZ e2 Av0 (j := p1) (v := (.ref xc)) hbb hvc (gf := (mkF m 12 #[.val (.ref o0), .val (.int p1), .val (.ref xa), .unset, .unset, .unset] [(.int p1), (.ref va)])) rfl rfl (hb hby d16_12) k) ?_
  refine Go.step (g' := (mkF m 14 #[.val (.ref o0), .val (.int p1), .val (.ref xa), .val (.ref xc), .unset, .unset] [])) (fun _ k => XS.astoreN X2.here hx rfl (hb hby d16_13) rfl rfl (l' := #[.val (.ref o0), .val (.int p1), .val (.ref xa), .val (.ref xc), .unset, .unset]) rfl k) ?_
  refine Go.step (g' := (mkF m 15 #[.val (.ref o0), .val (.int p1), .val (.ref xa), .val (.ref xc), .unset, .unset] [(.ref o0)])) (fun _ k => XS.aloadN X2.here hx rfl (hb hby d16_14) rfl rfl  k) ?_
  obtain ⟨T3, X3, e3, st3⟩ := getF X2 hx hZ hown (host := "") (Or.inl (hw _ (List.mem_of_getElem? (i := 21) rfl))) Via.refl e2 Fs0 (g := (mkF m 15 #[.val (.ref o0), .val (.int p1), .val (.ref xa), .val (.ref xc), .unset, .unset] [(.ref o0)])) rfl rfl (hb hby d16_15)
  refine Go.step (g' := (mkF m 18 #[.val (.ref o0), .val (.int p1), .val (.ref xa), .val (.ref xc), .unset, .unset] [(.ref sa)])) st3 ?_
  refine Go.step (g' := (mkF m 19 #[.val (.ref o0), .val (.int p1), .val (.ref xa), .val (.ref xc), .unset, .unset] [(.int p1), (.ref sa)])) (fun _ k => XS.iloadN X3.here hx rfl (hb hby d16_18) rfl  k) ?_
  refine Go.step (g' := (mkF m 20 #[.val (.ref o0), .val (.int p1), .val (.ref xa), .val (.ref xc), .unset, .unset] [(.int (sf p1.toNatClampNeg))])) (fun _ k => getAI X3 hx hZ e3 As0 (j := p1) hbb (gf := (mkF m 19 #[.val (.ref o0), .val (.int p1), .val (.ref xa), .val (.ref xc), .unset, .unset] [(.int p1), (.ref sa)])) rfl rfl (hb hby d16_19) k) ?_
  refine Go.step (g' := (mkF m 22 #[.val (.ref o0), .val (.int p1), .val (.ref xa), .val (.ref xc), .val (.int (sf p1.toNatClampNeg)), .unset] [])) (fun _ k => XS.istore X3.here hx rfl (hb hby d16_20) rfl (l' := #[.val (.ref o0), .val (.int p1), .val (.ref xa), .val (.ref xc), .val (.int (sf p1.toNatClampNeg)), .unset]) rfl k) ?_
  generalize hcnt : (sf p1.toNatClampNeg) = cnt
  have hcn := own_cntB J0 hbb hcnt
  have hcpos := own_cntP J0 hbb hcnt hs
  have hlast := own_cntL (k := (4 : Int32)) hcn hn (by decide)
  rw [hcnt] at hg hl
  refine Go.step (g' := (mkF m 23 #[.val (.ref o0), .val (.int p1), .val (.ref xa), .val (.ref xc), .val (.int cnt), .unset] [(.ref o0)])) (fun _ k => XS.aloadN X3.here hx rfl (hb hby d16_22) rfl rfl  k) ?_
  refine Go.step (g' := (mkF m 24 #[.val (.ref o0), .val (.int p1), .val (.ref xa), .val (.ref xc), .val (.int cnt), .unset] [(.ref o0), (.ref o0)])) (fun _ k => XS.aloadN X3.here hx rfl (hb hby d16_23) rfl rfl  k) ?_
  obtain ⟨T4, X4, e4, st4⟩ := getF X3 hx hZ hown (host := "") (Or.inl (hw _ (List.mem_of_getElem? (i := 24) rfl))) Via.refl e3 Fl0 (g := (mkF m 24 #[.val (.ref o0), .val (.int p1), .val (.ref xa), .val (.ref xc), .val (.int cnt), .unset] [(.ref o0), (.ref o0)])) rfl rfl (hb hby d16_24)
  refine Go.step (g' := (mkF m 27 #[.val (.ref o0), .val (.int p1), .val (.ref xa), .val (.ref xc), .val (.int cnt), .unset] [(.ref la), (.ref o0)])) st4 ?_
  refine Go.step (g' := (mkF m 28 #[.val (.ref o0), .val (.int p1), .val (.ref xa), .val (.ref xc), .val (.int cnt), .unset] [(.int p1), (.ref la), (.ref o0)])) (fun _ k => XS.iloadN X4.here hx rfl (hb hby d16_27) rfl  k) ?_
  refine Go.step (g' := (mkF m 29 #[.val (.ref o0), .val (.int p1), .val (.ref xa), .val (.ref xc), .val (.int cnt), .unset] [(.long (lf p1.toNatClampNeg)), (.ref o0)])) (fun _ k => getAJ X4 hx hZ e4 Al0 (j := p1) hbb (gf := (mkF m 28 #[.val (.ref o0), .val (.int p1), .val (.ref xa), .val (.ref xc), .val (.int cnt), .unset] [(.int p1), (.ref la), (.ref o0)])) rfl rfl (hb hby d16_28) k) ?_
  generalize hlw : (lf p1.toNatClampNeg) = lw
  obtain ⟨hlw0, hlwM, hl'⟩ := own_lw hg hl hlw
  obtain ⟨T5, h5, X5, e5, W5, st5⟩ := putF X4 hx hZ hown (host := "") (Or.inl (hw _ (List.mem_of_getElem? (i := 42) rfl))) Via.refl e4 Fw0 E0 (Or.inl (hw _ (List.mem_of_getElem? (i := 43) rfl))) (hw _ (List.mem_of_getElem? (i := 6) rfl)) (ty := .long) (by decide) rfl rfl (g := (mkF m 29 #[.val (.ref o0), .val (.int p1), .val (.ref xa), .val (.ref xc), .val (.int cnt), .unset] [(.long lw), (.ref o0)])) rfl rfl (hb hby d16_29)
  obtain ⟨lc5, X5, N5⟩ := own_pack X5 (Fr.snoc X5 N0 g_o0)
  have Fw5 := Fw0.same W5
  refine Go.step (g' := (mkF m 32 #[.val (.ref o0), .val (.int p1), .val (.ref xa), .val (.ref xc), .val (.int cnt), .unset] [])) st5 ?_
  have Q6 := (Fk0.other W5 (Or.inr (slot_ne (Or.inr (hw _ (List.mem_of_getElem? (i := 17) rfl))) (Or.inl (hw _ (List.mem_of_getElem? (i := 43) rfl))) (by decide) (t := (.array (.array .long))) (t' := .long) (by decide) (by decide))))
  have Q7 := (Fv0.other W5 (Or.inr (slot_ne (Or.inr (hw _ (List.mem_of_getElem? (i := 19) rfl))) (Or.inl (hw _ (List.mem_of_getElem? (i := 43) rfl))) (by decide) (t := (.array (.array .long))) (t' := .long) (by decide) (by decide))))
  have Q8 := (Fs0.other W5 (Or.inr (slot_ne (Or.inr (hw _ (List.mem_of_getElem? (i := 22) rfl))) (Or.inl (hw _ (List.mem_of_getElem? (i := 43) rfl))) (by decide) (t := (.array .int)) (t' := .long) (by decide) (by decide))))
  have Q9 := (Fl0.other W5 (Or.inr (slot_ne (Or.inr (hw _ (List.mem_of_getElem? (i := 25) rfl))) (Or.inl (hw _ (List.mem_of_getElem? (i := 43) rfl))) (by decide) (t := (.array .long)) (t' := .long) (by decide) (by decide))))
  have Q10 := (Fu0.other W5 (Or.inr (slot_ne (Or.inl (hw _ (List.mem_of_getElem? (i := 63) rfl))) (Or.inl (hw _ (List.mem_of_getElem? (i := 43) rfl))) (by decide) (t := .long) (t' := .long) (by decide) (by decide))))
  have Q11 := (Fz0.other W5 (Or.inr (slot_ne (Or.inl (hw _ (List.mem_of_getElem? (i := 36) rfl))) (Or.inl (hw _ (List.mem_of_getElem? (i := 43) rfl))) (by decide) (t := .int) (t' := .long) (by decide) (by decide))))
  have Q12 := ((Keep.refl h0 [o0, ka, va, sa]).wr W5 (Or.inl (List.mem_of_getElem? (i := 0) rfl)))
  refine Go.step (g' := (mkF m 33 #[.val (.ref o0), .val (.int p1), .val (.ref xa), .val (.ref xc), .val (.int cnt), .unset] [(.ref o0)])) (fun _ k => XS.aloadN X5.here hx rfl (hb hby d16_32) rfl rfl  k) ?_
  obtain ⟨T13, X13, e13, st13⟩ := getF X5 hx hZ hown (host := "") (Or.inl (hw _ (List.mem_of_getElem? (i := 16) rfl))) Via.refl e5 Q6 (g := (mkF m 33 #[.val (.ref o0), .val (.int p1), .val (.ref xa), .val (.ref xc), .val (.int cnt), .unset] [(.ref o0)])) rfl rfl (hb hby d16_33)
  refine Go.step (g' := (mkF m 36 #[.val (.ref o0), .val (.int p1), .val (.ref xa), .val (.ref xc), .val (.int cnt), .unset] [(.ref ka)])) st13 ?_
  refine Go.step (g' := (mkF m 37 #[.val (.ref o0), .val (.int p1), .val (.ref xa), .val (.ref xc), .val (.int cnt), .unset] [(.int p1), (.ref ka)])) (fun _ k => XS.iloadN X13.here hx rfl (hb hby d16_36) rfl  k) ?_
  refine Go.step (g' := (mkF m 38 #[.val (.ref o0), .val (.int p1), .val (.ref xa), .val (.ref xc), .val (.int cnt), .unset] [.null, (.int p1), (.ref ka)])) (fun _ k => XS.aconstNull X13.here hx rfl (hb hby d16_37) k) ?_
  obtain ⟨T14, h14, lc14, X14, e14, W14, N14, V14, st14⟩ := putAV X13 hx hZ e13 (Ak0.other W5 (Ne.symm n_o0_ka)) (j := p1) (v := .null) hbb N5 g_ka (Or.inl rfl) (gf := (mkF m 38 #[.val (.ref o0), .val (.int p1), .val (.ref xa), .val (.ref xc), .val (.int cnt), .unset] [.null, (.int p1), (.ref ka)])) rfl rfl (hb hby d16_38)
  refine Go.step (g' := (mkF m 39 #[.val (.ref o0), .val (.int p1), .val (.ref xa), .val (.ref xc), .val (.int cnt), .unset] [])) st14 ?_
  have Q15 := ((Av0.other W5 (Ne.symm n_o0_va)).other W14 (Ne.symm n_ka_va))
  have Q16 := ((As0.other W5 (Ne.symm n_o0_sa)).other W14 (Ne.symm n_ka_sa))
  have Q17 := ((Al0.other W5 (Ne.symm n_o0_la)).other W14 (Ne.symm n_ka_la))
  have Q18 := ((Aa.other W5 (Ne.symm n_o0_xa)).other W14 (Ne.symm n_ka_xa))
  have Q19 := ((Ac.other W5 (Ne.symm n_o0_xc)).other W14 (Ne.symm n_ka_xc))
  have Q20 := (Nat.le_trans (Nat.le_trans Z0 (Keep.of_wr W5).1) (Keep.of_wr W14).1)
  refine Go.step (g' := (mkF m 40 #[.val (.ref o0), .val (.int p1), .val (.ref xa), .val (.ref xc), .val (.int cnt), .unset] [(.ref o0)])) (fun _ k => XS.aloadN X14.here hx rfl (hb hby d16_39) rfl rfl  k) ?_
  obtain ⟨T21, X21, e21, st21⟩ := getF X14 hx hZ hown (host := "") (Or.inl (hw _ (List.mem_of_getElem? (i := 18) rfl))) Via.refl e14 (Q7.other W14 (Or.inl n_o0_ka)) (g := (mkF m 40 #[.val (.ref o0), .val (.int p1), .val (.ref xa), .val (.ref xc), .val (.int cnt), .unset] [(.ref o0)])) rfl rfl (hb hby d16_40)
  refine Go.step (g' := (mkF m 43 #[.val (.ref o0), .val (.int p1), .val (.ref xa), .val (.ref xc), .val (.int cnt), .unset] [(.ref va)])) st21 ?_
  refine Go.step (g' := (mkF m 44 #[.val (.ref o0), .val (.int p1), .val (.ref xa), .val (.ref xc), .val (.int cnt), .unset] [(.int p1), (.ref va)])) (fun _ k => XS.iloadN X21.here hx rfl (hb hby d16_43) rfl  k) ?_
  refine Go.step (g' := (mkF m 45 #[.val (.ref o0), .val (.int p1), .val (.ref xa), .val (.ref xc), .val (.int cnt), .unset] [.null, (.int p1), (.ref va)])) (fun _ k => XS.aconstNull X21.here hx rfl (hb hby d16_44) k) ?_
  obtain ⟨T22, h22, lc22, X22, e22, W22, N22, V22, st22⟩ := putAV X21 hx hZ e21 Q15 (j := p1) (v := .null) hbb N14 g_va (Or.inl rfl) (gf := (mkF m 45 #[.val (.ref o0), .val (.int p1), .val (.ref xa), .val (.ref xc), .val (.int cnt), .unset] [.null, (.int p1), (.ref va)])) rfl rfl (hb hby d16_45)
  refine Go.step (g' := (mkF m 46 #[.val (.ref o0), .val (.int p1), .val (.ref xa), .val (.ref xc), .val (.int cnt), .unset] [])) st22 ?_
  have Q23 := ((Q6.other W14 (Or.inl n_o0_ka)).other W22 (Or.inl n_o0_va))
  have Q24 := ((Q7.other W14 (Or.inl n_o0_ka)).other W22 (Or.inl n_o0_va))
  have Q25 := ((Q8.other W14 (Or.inl n_o0_ka)).other W22 (Or.inl n_o0_va))
  have Q26 := ((Q9.other W14 (Or.inl n_o0_ka)).other W22 (Or.inl n_o0_va))
  have Q27 := ((Q10.other W14 (Or.inl n_o0_ka)).other W22 (Or.inl n_o0_va))
  have Q28 := ((Q11.other W14 (Or.inl n_o0_ka)).other W22 (Or.inl n_o0_va))
  have Q29 := ((Fw5.other W14 (Or.inl n_o0_ka)).other W22 (Or.inl n_o0_va))
  have Q30 := ((Q12.wr W14 (Or.inl (List.mem_of_getElem? (i := 1) rfl))).wr W22 (Or.inl (List.mem_of_getElem? (i := 2) rfl)))
  refine Go.step (g' := (mkF m 47 #[.val (.ref o0), .val (.int p1), .val (.ref xa), .val (.ref xc), .val (.int cnt), .unset] [(.ref o0)])) (fun _ k => XS.aloadN X22.here hx rfl (hb hby d16_46) rfl rfl  k) ?_
  obtain ⟨T31, X31, e31, st31⟩ := getF X22 hx hZ hown (host := "") (Or.inl (hw _ (List.mem_of_getElem? (i := 21) rfl))) Via.refl e22 Q25 (g := (mkF m 47 #[.val (.ref o0), .val (.int p1), .val (.ref xa), .val (.ref xc), .val (.int cnt), .unset] [(.ref o0)])) rfl rfl (hb hby d16_47)
  refine Go.step (g' := (mkF m 50 #[.val (.ref o0), .val (.int p1), .val (.ref xa), .val (.ref xc), .val (.int cnt), .unset] [(.ref sa)])) st31 ?_
  refine Go.step (g' := (mkF m 51 #[.val (.ref o0), .val (.int p1), .val (.ref xa), .val (.ref xc), .val (.int cnt), .unset] [(.int p1), (.ref sa)])) (fun _ k => XS.iloadN X31.here hx rfl (hb hby d16_50) rfl  k) ?_
  refine Go.step (g' := (mkF m 52 #[.val (.ref o0), .val (.int p1), .val (.ref xa), .val (.ref xc), .val (.int cnt), .unset] [(.int (0 : Int32)), (.int p1), (.ref sa)])) (fun _ k => XS.iconst X31.here hx rfl (hb hby d16_51) k) ?_
  obtain ⟨T32, h32, lc32, X32, e32, W32, N32, V32, st32⟩ := putAI X31 hx hZ e31 (Q16.other W22 (Ne.symm n_va_sa)) (j := p1) hbb N22 g_sa (gf := (mkF m 52 #[.val (.ref o0), .val (.int p1), .val (.ref xa), .val (.ref xc), .val (.int cnt), .unset] [(.int (0 : Int32)), (.int p1), (.ref sa)])) rfl rfl (hb hby d16_52)
  refine Go.step (g' := (mkF m 53 #[.val (.ref o0), .val (.int p1), .val (.ref xa), .val (.ref xc), .val (.int cnt), .unset] [])) st32 ?_
  have Q33 := ((Q17.other W22 (Ne.symm n_va_la)).other W32 (Ne.symm n_sa_la))
  have Q34 := ((Q18.other W22 (Ne.symm n_va_xa)).other W32 (Ne.symm n_sa_xa))
  have Q35 := ((Q19.other W22 (Ne.symm n_va_xc)).other W32 (Ne.symm n_sa_xc))
  have Q36 := (Nat.le_trans (Nat.le_trans Q20 (Keep.of_wr W22).1) (Keep.of_wr W32).1)
  refine Go.step (g' := (mkF m 54 #[.val (.ref o0), .val (.int p1), .val (.ref xa), .val (.ref xc), .val (.int cnt), .unset] [(.ref o0)])) (fun _ k => XS.aloadN X32.here hx rfl (hb hby d16_53) rfl rfl  k) ?_
  refine Go.step (g' := (mkF m 55 #[.val (.ref o0), .val (.int p1), .val (.ref xa), .val (.ref xc), .val (.int cnt), .unset] [(.ref o0), (.ref o0)])) (fun _ k => XS.dup X32.here hx rfl (hb hby d16_54) rfl rfl k) ?_
  obtain ⟨T37, X37, e37, st37⟩ := getF X32 hx hZ hown (host := "") (Or.inl (hw _ (List.mem_of_getElem? (i := 62) rfl))) Via.refl e32 (Q27.other W32 (Or.inl n_o0_sa)) (g := (mkF m 55 #[.val (.ref o0), .val (.int p1), .val (.ref xa), .val (.ref xc), .val (.int cnt), .unset] [(.ref o0), (.ref o0)])) rfl rfl (hb hby d16_55)
  refine Go.step (g' := (mkF m 58 #[.val (.ref o0), .val (.int p1), .val (.ref xa), .val (.ref xc), .val (.int cnt), .unset] [(.long u), (.ref o0)])) st37 ?_
  refine Go.step (g' := (mkF m 59 #[.val (.ref o0), .val (.int p1), .val (.ref xa), .val (.ref xc), .val (.int cnt), .unset] [(.long (1 : Int64)), (.long u), (.ref o0)])) (fun _ k => XS.lconst X37.here hx rfl (hb hby d16_58) k) ?_
  refine Go.step (g' := (mkF m 60 #[.val (.ref o0), .val (.int p1), .val (.ref xa), .val (.ref xc), .val (.int cnt), .unset] [(.int p1), (.long (1 : Int64)), (.long u), (.ref o0)])) (fun _ k => XS.iloadN X37.here hx rfl (hb hby d16_59) rfl  k) ?_
  refine Go.step (g' := (mkF m 61 #[.val (.ref o0), .val (.int p1), .val (.ref xa), .val (.ref xc), .val (.int cnt), .unset] [(.long ((1 : Int64) <<< (p1 &&& 0x3f).toInt64)), (.long u), (.ref o0)])) (fun _ k => XS.lshl X37.here hx rfl (hb hby d16_60) rfl k) ?_
  refine Go.step (g' := (mkF m 64 #[.val (.ref o0), .val (.int p1), .val (.ref xa), .val (.ref xc), .val (.int cnt), .unset] [(.long (-1 : Int64)), (.long ((1 : Int64) <<< (p1 &&& 0x3f).toInt64)), (.long u), (.ref o0)])) (fun _ k => X37.ldc2J hx hown (mvT hZ (hw _ (List.mem_of_getElem? (i := 86) rfl))) rfl (hb hby d16_61) k) ?_
  refine Go.step (g' := (mkF m 65 #[.val (.ref o0), .val (.int p1), .val (.ref xa), .val (.ref xc), .val (.int cnt), .unset] [(.long (((1 : Int64) <<< (p1 &&& 0x3f).toInt64) ^^^ (-1 : Int64))), (.long u), (.ref o0)])) (fun _ k => XS.lxor X37.here hx rfl (hb hby d16_64) rfl k) ?_
  refine Go.step (g' := (mkF m 66 #[.val (.ref o0), .val (.int p1), .val (.ref xa), .val (.ref xc), .val (.int cnt), .unset] [(.long (u &&& (((1 : Int64) <<< (p1 &&& 0x3f).toInt64) ^^^ (-1 : Int64)))), (.ref o0)])) (fun _ k => XS.land X37.here hx rfl (hb hby d16_65) rfl k) ?_
  obtain ⟨T38, h38, X38, e38, W38, st38⟩ := putF X37 hx hZ hown (host := "") (Or.inl (hw _ (List.mem_of_getElem? (i := 62) rfl))) Via.refl e37 (Q27.other W32 (Or.inl n_o0_sa)) ((((E0.wr W5).wr W14).wr W22).wr W32) (Or.inl (hw _ (List.mem_of_getElem? (i := 63) rfl))) (hw _ (List.mem_of_getElem? (i := 6) rfl)) (ty := .long) (by decide) rfl rfl (g := (mkF m 66 #[.val (.ref o0), .val (.int p1), .val (.ref xa), .val (.ref xc), .val (.int cnt), .unset] [(.long (u &&& (((1 : Int64) <<< (p1 &&& 0x3f).toInt64) ^^^ (-1 : Int64)))), (.ref o0)])) rfl rfl (hb hby d16_66)
  obtain ⟨lc38, X38, N38⟩ := own_pack X38 (Fr.snoc X38 N32 g_o0)
  have Fw38 := (Q27.other W32 (Or.inl n_o0_sa)).same W38
  refine Go.step (g' := (mkF m 69 #[.val (.ref o0), .val (.int p1), .val (.ref xa), .val (.ref xc), .val (.int cnt), .unset] [])) st38 ?_
  have Q39 := ((Q23.other W32 (Or.inl n_o0_sa)).other W38 (Or.inr (slot_ne (Or.inr (hw _ (List.mem_of_getElem? (i := 17) rfl))) (Or.inl (hw _ (List.mem_of_getElem? (i := 63) rfl))) (by decide) (t := (.array (.array .long))) (t' := .long) (by decide) (by decide))))
  have Q40 := ((Q24.other W32 (Or.inl n_o0_sa)).other W38 (Or.inr (slot_ne (Or.inr (hw _ (List.mem_of_getElem? (i := 19) rfl))) (Or.inl (hw _ (List.mem_of_getElem? (i := 63) rfl))) (by decide) (t := (.array (.array .long))) (t' := .long) (by decide) (by decide))))
  have Q41 := ((Q25.other W32 (Or.inl n_o0_sa)).other W38 (Or.inr (slot_ne (Or.inr (hw _ (List.mem_of_getElem? (i := 22) rfl))) (Or.inl (hw _ (List.mem_of_getElem? (i := 63) rfl))) (by decide) (t := (.array .int)) (t' := .long) (by decide) (by decide))))
  have Q42 := ((Q26.other W32 (Or.inl n_o0_sa)).other W38 (Or.inr (slot_ne (Or.inr (hw _ (List.mem_of_getElem? (i := 25) rfl))) (Or.inl (hw _ (List.mem_of_getElem? (i := 63) rfl))) (by decide) (t := (.array .long)) (t' := .long) (by decide) (by decide))))
  have Q43 := ((Q28.other W32 (Or.inl n_o0_sa)).other W38 (Or.inr (slot_ne (Or.inl (hw _ (List.mem_of_getElem? (i := 36) rfl))) (Or.inl (hw _ (List.mem_of_getElem? (i := 63) rfl))) (by decide) (t := .int) (t' := .long) (by decide) (by decide))))
  have Q44 := ((Q29.other W32 (Or.inl n_o0_sa)).other W38 (Or.inr (slot_ne (Or.inl (hw _ (List.mem_of_getElem? (i := 43) rfl))) (Or.inl (hw _ (List.mem_of_getElem? (i := 63) rfl))) (by decide) (t := .long) (t' := .long) (by decide) (by decide))))
  have Q45 := (((V14.other W22 n_ka_va).other W32 n_ka_sa).other W38 (Ne.symm n_o0_ka))
  have Q46 := ((Q30.wr W32 (Or.inl (List.mem_of_getElem? (i := 3) rfl))).wr W38 (Or.inl (List.mem_of_getElem? (i := 0) rfl)))
  have J1 : JJ Z h38 n0 (TW tg xa xc 5 5) M (upd kf p1.toNatClampNeg .null) (upd vf p1.toNatClampNeg .null) (upd sf p1.toNatClampNeg (0 : Int32)) lf (u &&& (((1 : Int64) <<< (p1 &&& 0x3f).toInt64) ^^^ (-1 : Int64))) (n - cnt.toNatClampNeg) := own_clear J0 hbb hcnt Q46 (own_ws4 G0) t_xa t_xc
  have G1 : TG (TW tg xa xc 5 5) o0 ka va sa la := own_tg5 G0 t_xa t_xc
  have t5a : (TW tg xa xc 5 5) xa = 5 := own_twA _ _ _ _ _
  have t5c : (TW tg xa xc 5 5) xc = 5 := own_tw5 _ _ _
  refine Go.step (g' := (mkF m 70 #[.val (.ref o0), .val (.int p1), .val (.ref xa), .val (.ref xc), .val (.int cnt), .unset] [(.int (0 : Int32))])) (fun _ k => XS.iconst X38.here hx rfl (hb hby d16_69) k) ?_
  refine Go.step (g' := (mkF m 72 #[.val (.ref o0), .val (.int p1), .val (.ref xa), .val (.ref xc), .val (.int cnt), .val (.int (0 : Int32))] [])) (fun _ k => XS.istore X38.here hx rfl (hb hby d16_70) rfl (l' := #[.val (.ref o0), .val (.int p1), .val (.ref xa), .val (.ref xc), .val (.int cnt), .val (.int (0 : Int32))]) rfl k) ?_
  skip
  refine Go.step (g' := (mkF m 74 #[.val (.ref o0), .val (.int p1), .val (.ref xa), .val (.ref xc), .val (.int cnt), .val (.int (0 : Int32))] [(.int (0 : Int32))])) (fun _ k => XS.iload X38.here hx rfl (hb hby d16_72) rfl  k) ?_
  refine Go.step (g' := (mkF m 76 #[.val (.ref o0), .val (.int p1), .val (.ref xa), .val (.ref xc), .val (.int cnt), .val (.int (0 : Int32))] [(.int cnt), (.int (0 : Int32))])) (fun _ k => XS.iload X38.here hx rfl (hb hby d16_74) rfl  k) ?_
  refine Go.step (g' := (mkF m 79 #[.val (.ref o0), .val (.int p1), .val (.ref xa), .val (.ref xc), .val (.int cnt), .val (.int (0 : Int32))] [])) (fun _ k => XS.icmpNo X38.here hx rfl (hb hby d16_76) rfl (tlt (hcpos : (0 : Int32) < cnt)).2.1 k) ?_
  skip
  refine Go.step (g' := (mkF m 80 #[.val (.ref o0), .val (.int p1), .val (.ref xa), .val (.ref xc), .val (.int cnt), .val (.int (0 : Int32))] [(.ref o0)])) (fun _ k => XS.aloadN X38.here hx rfl (hb hby d16_79) rfl rfl  k) ?_
  refine Go.step (g' := (mkF m 81 #[.val (.ref o0), .val (.int p1), .val (.ref xa), .val (.ref xc), .val (.int cnt), .val (.int (0 : Int32))] [(.ref o0), (.ref o0)])) (fun _ k => XS.aloadN X38.here hx rfl (hb hby d16_80) rfl rfl  k) ?_
  refine Go.step (g' := (mkF m 82 #[.val (.ref o0), .val (.int p1), .val (.ref xa), .val (.ref xc), .val (.int cnt), .val (.int (0 : Int32))] [(.ref xa), (.ref o0), (.ref o0)])) (fun _ k => XS.aloadN X38.here hx rfl (hb hby d16_81) rfl rfl  k) ?_
  refine Go.step (g' := (mkF m 84 #[.val (.ref o0), .val (.int p1), .val (.ref xa), .val (.ref xc), .val (.int cnt), .val (.int (0 : Int32))] [(.int (0 : Int32)), (.ref xa), (.ref o0), (.ref o0)])) (fun _ k => XS.iload X38.here hx rfl (hb hby d16_82) rfl  k) ?_
  refine Go.step (g' := (mkF m 85 #[.val (.ref o0), .val (.int p1), .val (.ref xa), .val (.ref xc), .val (.int cnt), .val (.int (0 : Int32))] [(.long (g (0 : Int32).toNatClampNeg)), (.ref o0), (.ref o0)])) (fun _ k => getAJ X38 hx hZ e38 (Q34.other W38 (Ne.symm n_o0_xa)) (j := (0 : Int32)) (by decide) (gf := (mkF m 84 #[.val (.ref o0), .val (.int p1), .val (.ref xa), .val (.ref xc), .val (.int cnt), .val (.int (0 : Int32))] [(.int (0 : Int32)), (.ref xa), (.ref o0), (.ref o0)])) rfl rfl (hb hby d16_84) k) ?_
  rw [show (g (0 : Int32).toNatClampNeg) = (g 0) from rfl]
  obtain ⟨cq47, qv47, qv47'⟩ := (((((E0.wr W5).wr W14).wr W22).wr W32).wr W38).cell
  obtain ⟨_, _, ⟨T47, L47, k47, n47⟩, -, X47, ⟨Lc47, hQ47, l47, y47, z47⟩, st47⟩ := X38.privateBack hx (y := (⟨"com/example/redelivery/redelivery/RadixHeap", "bucketOf", "(J)I"⟩ : MethodName)) hown (mvT hZ (hw _ (List.mem_of_getElem? (i := 44) rfl))) (mvT hZ (hw _ (List.mem_of_getElem? (i := 45) rfl))) (mvT hZ (own_selP (y := (⟨"com/example/redelivery/redelivery/RadixHeap", "bucketOf", "(J)I"⟩ : MethodName)) (by decide) (hw _ (List.mem_of_getElem? (i := 6) rfl)) (hw _ (List.mem_of_getElem? (i := 46) rfl)) (hw _ (List.mem_of_getElem? (i := 45) rfl)))) (Cond.privateMethod_at (mvP hZ (hw _ (List.mem_of_getElem? (i := 46) rfl)) (args := #[]))) (mvT hZ (hw _ (List.mem_of_getElem? (i := 47) rfl))) (by decide) (backOf (W := 1) (rm7 l Z a0 hw [] o0 (g 0) lw h38 Q44) hZ (hw _ (List.mem_of_getElem? (i := 47) rfl)) (hw _ (List.mem_of_getElem? (i := 7) rfl)) (by decide) (by decide)) (g := (mkF m 85 #[.val (.ref o0), .val (.int p1), .val (.ref xa), .val (.ref xc), .val (.int cnt), .val (.int (0 : Int32))] [(.long (g 0)), (.ref o0), (.ref o0)])) rfl (by rw [hml]; rfl) (Steps.refl _) (a := o0) (by rw [e38]; exact qv47) qv47' (argsL := [(.long (g 0))]) (rest := [(.ref o0)]) (lenOf pd_2 rfl) rfl (by show 2 * 0 + _ ≤ _; exact Nat.le_of_eq rfl) (hb hby d16_85) (fun _ _ => ⟨rfl, e38, (by decide : 0 + 0 ≤ _), (by decide : 0 + 0 ≤ _)⟩)
  dsimp only [Pt.U, Pt.locs, Pt.cells, Pt.slots] at X47 l47 y47 z47 st47 hQ47
  subst l47 y47 z47
  obtain ⟨rfl, rfl, e47⟩ := hQ47
  try rw [List.append_nil] at X47
  refine Go.step (g' := (mkF m 88 #[.val (.ref o0), .val (.int p1), .val (.ref xa), .val (.ref xc), .val (.int cnt), .val (.int (0 : Int32))] [(.int (f7_0 (g 0) lw)), (.ref o0)])) (fun _ k => st47.trans k) ?_
  refine Go.step (g' := (mkF m 89 #[.val (.ref o0), .val (.int p1), .val (.ref xa), .val (.ref xc), .val (.int cnt), .val (.int (0 : Int32))] [(.ref xa), (.int (f7_0 (g 0) lw)), (.ref o0)])) (fun _ k => XS.aloadN X47.here hx rfl (hb hby d16_88) rfl rfl  k) ?_
  refine Go.step (g' := (mkF m 91 #[.val (.ref o0), .val (.int p1), .val (.ref xa), .val (.ref xc), .val (.int cnt), .val (.int (0 : Int32))] [(.int (0 : Int32)), (.ref xa), (.int (f7_0 (g 0) lw)), (.ref o0)])) (fun _ k => XS.iload X47.here hx rfl (hb hby d16_89) rfl  k) ?_
  refine Go.step (g' := (mkF m 92 #[.val (.ref o0), .val (.int p1), .val (.ref xa), .val (.ref xc), .val (.int cnt), .val (.int (0 : Int32))] [(.long (g (0 : Int32).toNatClampNeg)), (.int (f7_0 (g 0) lw)), (.ref o0)])) (fun _ k => getAJ X47 hx hZ e47 (Q34.other W38 (Ne.symm n_o0_xa)) (j := (0 : Int32)) (by decide) (gf := (mkF m 91 #[.val (.ref o0), .val (.int p1), .val (.ref xa), .val (.ref xc), .val (.int cnt), .val (.int (0 : Int32))] [(.int (0 : Int32)), (.ref xa), (.int (f7_0 (g 0) lw)), (.ref o0)])) rfl rfl (hb hby d16_91) k) ?_
  rw [show (g (0 : Int32).toNatClampNeg) = (g 0) from rfl]
  refine Go.step (g' := (mkF m 93 #[.val (.ref o0), .val (.int p1), .val (.ref xa), .val (.ref xc), .val (.int cnt), .val (.int (0 : Int32))] [(.ref xc), (.long (g 0)), (.int (f7_0 (g 0) lw)), (.ref o0)])) (fun _ k => XS.aloadN X47.here hx rfl (hb hby d16_92) rfl rfl  k) ?_
  refine Go.step (g' := (mkF m 95 #[.val (.ref o0), .val (.int p1), .val (.ref xa), .val (.ref xc), .val (.int cnt), .val (.int (0 : Int32))] [(.int (0 : Int32)), (.ref xc), (.long (g 0)), (.int (f7_0 (g 0) lw)), (.ref o0)])) (fun _ k => XS.iload X47.here hx rfl (hb hby d16_93) rfl  k) ?_
  refine Go.step (g' := (mkF m 96 #[.val (.ref o0), .val (.int p1), .val (.ref xa), .val (.ref xc), .val (.int cnt), .val (.int (0 : Int32))] [(.long (gv (0 : Int32).toNatClampNeg)), (.long (g 0)), (.int (f7_0 (g 0) lw)), (.ref o0)])) (fun _ k => getAJ X47 hx hZ e47 (Q35.other W38 (Ne.symm n_o0_xc)) (j := (0 : Int32)) (by decide) (gf := (mkF m 95 #[.val (.ref o0), .val (.int p1), .val (.ref xa), .val (.ref xc), .val (.int cnt), .val (.int (0 : Int32))] [(.int (0 : Int32)), (.ref xc), (.long (g 0)), (.int (f7_0 (g 0) lw)), (.ref o0)])) rfl rfl (hb hby d16_95) k) ?_
  rw [show (gv (0 : Int32).toNatClampNeg) = (gv 0) from rfl]
  obtain ⟨cq48, qv48, qv48'⟩ := (((((E0.wr W5).wr W14).wr W22).wr W32).wr W38).cell
  obtain ⟨_, _, ⟨T48, L48, k48, n48⟩, -, X48, ⟨Lc48, hQ48, l48, y48, z48⟩, st48⟩ := X47.privateBack hx (y := (⟨"com/example/redelivery/redelivery/RadixHeap", "put", "(IJJ)V"⟩ : MethodName)) hown (mvT hZ (hw _ (List.mem_of_getElem? (i := 57) rfl))) (mvT hZ (hw _ (List.mem_of_getElem? (i := 58) rfl))) (mvT hZ (own_selP (y := (⟨"com/example/redelivery/redelivery/RadixHeap", "put", "(IJJ)V"⟩ : MethodName)) (by decide) (hw _ (List.mem_of_getElem? (i := 6) rfl)) (hw _ (List.mem_of_getElem? (i := 59) rfl)) (hw _ (List.mem_of_getElem? (i := 58) rfl)))) (Cond.privateMethod_at (mvP hZ (hw _ (List.mem_of_getElem? (i := 59) rfl)) (args := #[]))) (mvT hZ (hw _ (List.mem_of_getElem? (i := 60) rfl))) (by decide) (backOf (W := 0) (rm10 l Z a0 hw [] o0 (f7_0 (g 0) lw) (g 0) (gv 0) ka va sa la (TW tg xa xc 5 5) (upd kf p1.toNatClampNeg .null) (upd vf p1.toNatClampNeg .null) (upd sf p1.toNatClampNeg (0 : Int32)) lf (u &&& (((1 : Int64) <<< (p1 &&& 0x3f).toInt64) ^^^ (-1 : Int64))) lw z M (n - cnt.toNatClampNeg) h38 n0 (Nat.le_trans Q36 (Keep.of_wr W38).1) ⟨(((((E0.wr W5).wr W14).wr W22).wr W32).wr W38), Q39, Q40, Q41, Q42, Fw38, Q44, Q43, Q45, ((V22.other W32 n_va_sa).other W38 (Ne.symm n_o0_va)), (V32.other W38 (Ne.symm n_o0_sa)), (Q33.other W38 (Ne.symm n_o0_la))⟩ G1 J1 (own_bk (hg _ (own_lti (k := 0) (a := (0 : Int32)) hcpos (by decide))).1 hlw0) (by omega) (hg _ (own_lti (k := 0) (a := (0 : Int32)) hcpos (by decide))).1 (hg _ (own_lti (k := 0) (a := (0 : Int32)) hcpos (by decide))).2) hZ (hw _ (List.mem_of_getElem? (i := 60) rfl)) (hw _ (List.mem_of_getElem? (i := 7) rfl)) (by decide) (by decide)) (g := (mkF m 96 #[.val (.ref o0), .val (.int p1), .val (.ref xa), .val (.ref xc), .val (.int cnt), .val (.int (0 : Int32))] [(.long (gv 0)), (.long (g 0)), (.int (f7_0 (g 0) lw)), (.ref o0)])) rfl (by rw [hml]; rfl) (Steps.refl _) (a := o0) (by rw [e47]; exact qv48) qv48' (argsL := [(.int (f7_0 (g 0) lw)), (.long (g 0)), (.long (gv 0))]) (rest := []) (lenOf pd_4 rfl) rfl (by show 2 * 0 + _ ≤ _; exact Nat.le_of_eq rfl) (hb hby d16_96) (fun _ _ => ⟨rfl, e47, (by decide : 0 + 2 ≤ _), (by decide : 0 + 32 ≤ _)⟩)
  dsimp only [Pt.U, Pt.locs, Pt.cells, Pt.slots] at X48 l48 y48 z48 st48 hQ48
  subst l48 y48 z48
  obtain ⟨rfl, N48q, tg48, kf48, vf48, sf48, lf48, u48, R48, G48, J48, ht48, hd48, hm48, hp48⟩ := hQ48
  obtain ⟨lc48, X48, N48⟩ := own_pack X48 (Fr.app N38 N48q)
  obtain ⟨E48, Fk48, Fv48, Fs48, Fl48, Fu48, Fw48, Fz48, Ak48, Av48, As48, Al48⟩ := R48
  have Dxa48 := own_keep5 (Q34.other W38 (Ne.symm n_o0_xa)) hd48 t5a
  have t5xa48 : tg48 xa = 5 := (ht48 _ (Q34.other W38 (Ne.symm n_o0_xa)).lt).trans t5a
  have Dxc48 := own_keep5 (Q35.other W38 (Ne.symm n_o0_xc)) hd48 t5c
  have t5xc48 : tg48 xc = 5 := (ht48 _ (Q35.other W38 (Ne.symm n_o0_xc)).lt).trans t5c
  have Hs48 : ∀ i, i < 1 → sf48 ((f7_0 (g i) lw)).toNatClampNeg ≠ 0 := own_hsS (fun i hi => absurd hi (Nat.not_lt_zero i)) hm48 hp48
  refine Go.step (g' := (mkF m 99 #[.val (.ref o0), .val (.int p1), .val (.ref xa), .val (.ref xc), .val (.int cnt), .val (.int (0 : Int32))] [])) (fun _ k => st48.trans k) ?_
  refine Go.step (g' := (mkF m 102 #[.val (.ref o0), .val (.int p1), .val (.ref xa), .val (.ref xc), .val (.int cnt), .val (.int ((0 : Int32) + (1 : Int32)))] [])) (fun _ k => XS.iinc X48.here hx rfl (hb hby d16_99) rfl (l' := #[.val (.ref o0), .val (.int p1), .val (.ref xa), .val (.ref xc), .val (.int cnt), .val (.int ((0 : Int32) + (1 : Int32)))]) rfl k) ?_
  rw [show ((0 : Int32) + (1 : Int32)) = (1 : Int32) from by decide]
  refine Go.step (g' := (mkF m 72 #[.val (.ref o0), .val (.int p1), .val (.ref xa), .val (.ref xc), .val (.int cnt), .val (.int (1 : Int32))] [])) (fun _ k => XS.goto X48.here hx rfl (pc0 := 102) (pc' := 72) rfl (hb hby d16_102) (by decide) (by decide) k) ?_
  skip
  refine Go.step (g' := (mkF m 74 #[.val (.ref o0), .val (.int p1), .val (.ref xa), .val (.ref xc), .val (.int cnt), .val (.int (1 : Int32))] [(.int (1 : Int32))])) (fun _ k => XS.iload X48.here hx rfl (hb hby d16_72) rfl  k) ?_
  refine Go.step (g' := (mkF m 76 #[.val (.ref o0), .val (.int p1), .val (.ref xa), .val (.ref xc), .val (.int cnt), .val (.int (1 : Int32))] [(.int cnt), (.int (1 : Int32))])) (fun _ k => XS.iload X48.here hx rfl (hb hby d16_74) rfl  k) ?_
  by_cases hc76_c1 : (1 : Int32) < cnt
  · skip
    refine Go.step (g' := (mkF m 79 #[.val (.ref o0), .val (.int p1), .val (.ref xa), .val (.ref xc), .val (.int cnt), .val (.int (1 : Int32))] [])) (fun _ k => XS.icmpNo X48.here hx rfl (hb hby d16_76) rfl (tlt hc76_c1).2.1 k) ?_
    refine Go.step (g' := (mkF m 80 #[.val (.ref o0), .val (.int p1), .val (.ref xa), .val (.ref xc), .val (.int cnt), .val (.int (1 : Int32))] [(.ref o0)])) (fun _ k => XS.aloadN X48.here hx rfl (hb hby d16_79) rfl rfl  k) ?_
    refine Go.step (g' := (mkF m 81 #[.val (.ref o0), .val (.int p1), .val (.ref xa), .val (.ref xc), .val (.int cnt), .val (.int (1 : Int32))] [(.ref o0), (.ref o0)])) (fun _ k => XS.aloadN X48.here hx rfl (hb hby d16_80) rfl rfl  k) ?_
    refine Go.step (g' := (mkF m 82 #[.val (.ref o0), .val (.int p1), .val (.ref xa), .val (.ref xc), .val (.int cnt), .val (.int (1 : Int32))] [(.ref xa), (.ref o0), (.ref o0)])) (fun _ k => XS.aloadN X48.here hx rfl (hb hby d16_81) rfl rfl  k) ?_
    refine Go.step (g' := (mkF m 84 #[.val (.ref o0), .val (.int p1), .val (.ref xa), .val (.ref xc), .val (.int cnt), .val (.int (1 : Int32))] [(.int (1 : Int32)), (.ref xa), (.ref o0), (.ref o0)])) (fun _ k => XS.iload X48.here hx rfl (hb hby d16_82) rfl  k) ?_
    refine Go.step (g' := (mkF m 85 #[.val (.ref o0), .val (.int p1), .val (.ref xa), .val (.ref xc), .val (.int cnt), .val (.int (1 : Int32))] [(.long (g (1 : Int32).toNatClampNeg)), (.ref o0), (.ref o0)])) (fun _ k => getAJ X48 hx hZ rfl Dxa48 (j := (1 : Int32)) (by decide) (gf := (mkF m 84 #[.val (.ref o0), .val (.int p1), .val (.ref xa), .val (.ref xc), .val (.int cnt), .val (.int (1 : Int32))] [(.int (1 : Int32)), (.ref xa), (.ref o0), (.ref o0)])) rfl rfl (hb hby d16_84) k) ?_
    rw [show (g (1 : Int32).toNatClampNeg) = (g 1) from rfl]
    obtain ⟨cq49, qv49, qv49'⟩ := E48.cell
    obtain ⟨_, _, ⟨T49, L49, k49, n49⟩, -, X49, ⟨Lc49, hQ49, l49, y49, z49⟩, st49⟩ := X48.privateBack hx (y := (⟨"com/example/redelivery/redelivery/RadixHeap", "bucketOf", "(J)I"⟩ : MethodName)) hown (mvT hZ (hw _ (List.mem_of_getElem? (i := 44) rfl))) (mvT hZ (hw _ (List.mem_of_getElem? (i := 45) rfl))) (mvT hZ (own_selP (y := (⟨"com/example/redelivery/redelivery/RadixHeap", "bucketOf", "(J)I"⟩ : MethodName)) (by decide) (hw _ (List.mem_of_getElem? (i := 6) rfl)) (hw _ (List.mem_of_getElem? (i := 46) rfl)) (hw _ (List.mem_of_getElem? (i := 45) rfl)))) (Cond.privateMethod_at (mvP hZ (hw _ (List.mem_of_getElem? (i := 46) rfl)) (args := #[]))) (mvT hZ (hw _ (List.mem_of_getElem? (i := 47) rfl))) (by decide) (backOf (W := 1) (rm7 l Z a0 hw [] o0 (g 1) lw T48.heap Fw48) hZ (hw _ (List.mem_of_getElem? (i := 47) rfl)) (hw _ (List.mem_of_getElem? (i := 7) rfl)) (by decide) (by decide)) (g := (mkF m 85 #[.val (.ref o0), .val (.int p1), .val (.ref xa), .val (.ref xc), .val (.int cnt), .val (.int (1 : Int32))] [(.long (g 1)), (.ref o0), (.ref o0)])) rfl (by rw [hml]; rfl) (Steps.refl _) (a := o0) qv49 qv49' (argsL := [(.long (g 1))]) (rest := [(.ref o0)]) (lenOf pd_2 rfl) rfl (by show 2 * 0 + _ ≤ _; exact Nat.le_of_eq rfl) (hb hby d16_85) (fun _ _ => ⟨rfl, rfl, (by decide : (0 + 2) + 0 ≤ _), (by decide : (0 + 32) + 0 ≤ _)⟩)
    dsimp only [Pt.U, Pt.locs, Pt.cells, Pt.slots] at X49 l49 y49 z49 st49 hQ49
    subst l49 y49 z49
    obtain ⟨rfl, rfl, e49⟩ := hQ49
    try rw [List.append_nil] at X49
    refine Go.step (g' := (mkF m 88 #[.val (.ref o0), .val (.int p1), .val (.ref xa), .val (.ref xc), .val (.int cnt), .val (.int (1 : Int32))] [(.int (f7_0 (g 1) lw)), (.ref o0)])) (fun _ k => st49.trans k) ?_
    refine Go.step (g' := (mkF m 89 #[.val (.ref o0), .val (.int p1), .val (.ref xa), .val (.ref xc), .val (.int cnt), .val (.int (1 : Int32))] [(.ref xa), (.int (f7_0 (g 1) lw)), (.ref o0)])) (fun _ k => XS.aloadN X49.here hx rfl (hb hby d16_88) rfl rfl  k) ?_
    refine Go.step (g' := (mkF m 91 #[.val (.ref o0), .val (.int p1), .val (.ref xa), .val (.ref xc), .val (.int cnt), .val (.int (1 : Int32))] [(.int (1 : Int32)), (.ref xa), (.int (f7_0 (g 1) lw)), (.ref o0)])) (fun _ k => XS.iload X49.here hx rfl (hb hby d16_89) rfl  k) ?_
    refine Go.step (g' := (mkF m 92 #[.val (.ref o0), .val (.int p1), .val (.ref xa), .val (.ref xc), .val (.int cnt), .val (.int (1 : Int32))] [(.long (g (1 : Int32).toNatClampNeg)), (.int (f7_0 (g 1) lw)), (.ref o0)])) (fun _ k => getAJ X49 hx hZ e49 Dxa48 (j := (1 : Int32)) (by decide) (gf := (mkF m 91 #[.val (.ref o0), .val (.int p1), .val (.ref xa), .val (.ref xc), .val (.int cnt), .val (.int (1 : Int32))] [(.int (1 : Int32)), (.ref xa), (.int (f7_0 (g 1) lw)), (.ref o0)])) rfl rfl (hb hby d16_91) k) ?_
    rw [show (g (1 : Int32).toNatClampNeg) = (g 1) from rfl]
    refine Go.step (g' := (mkF m 93 #[.val (.ref o0), .val (.int p1), .val (.ref xa), .val (.ref xc), .val (.int cnt), .val (.int (1 : Int32))] [(.ref xc), (.long (g 1)), (.int (f7_0 (g 1) lw)), (.ref o0)])) (fun _ k => XS.aloadN X49.here hx rfl (hb hby d16_92) rfl rfl  k) ?_
    refine Go.step (g' := (mkF m 95 #[.val (.ref o0), .val (.int p1), .val (.ref xa), .val (.ref xc), .val (.int cnt), .val (.int (1 : Int32))] [(.int (1 : Int32)), (.ref xc), (.long (g 1)), (.int (f7_0 (g 1) lw)), (.ref o0)])) (fun _ k => XS.iload X49.here hx rfl (hb hby d16_93) rfl  k) ?_
    refine Go.step (g' := (mkF m 96 #[.val (.ref o0), .val (.int p1), .val (.ref xa), .val (.ref xc), .val (.int cnt), .val (.int (1 : Int32))] [(.long (gv (1 : Int32).toNatClampNeg)), (.long (g 1)), (.int (f7_0 (g 1) lw)), (.ref o0)])) (fun _ k => getAJ X49 hx hZ e49 Dxc48 (j := (1 : Int32)) (by decide) (gf := (mkF m 95 #[.val (.ref o0), .val (.int p1), .val (.ref xa), .val (.ref xc), .val (.int cnt), .val (.int (1 : Int32))] [(.int (1 : Int32)), (.ref xc), (.long (g 1)), (.int (f7_0 (g 1) lw)), (.ref o0)])) rfl rfl (hb hby d16_95) k) ?_
    rw [show (gv (1 : Int32).toNatClampNeg) = (gv 1) from rfl]
    obtain ⟨cq50, qv50, qv50'⟩ := E48.cell
    obtain ⟨_, _, ⟨T50, L50, k50, n50⟩, -, X50, ⟨Lc50, hQ50, l50, y50, z50⟩, st50⟩ := X49.privateBack hx (y := (⟨"com/example/redelivery/redelivery/RadixHeap", "put", "(IJJ)V"⟩ : MethodName)) hown (mvT hZ (hw _ (List.mem_of_getElem? (i := 57) rfl))) (mvT hZ (hw _ (List.mem_of_getElem? (i := 58) rfl))) (mvT hZ (own_selP (y := (⟨"com/example/redelivery/redelivery/RadixHeap", "put", "(IJJ)V"⟩ : MethodName)) (by decide) (hw _ (List.mem_of_getElem? (i := 6) rfl)) (hw _ (List.mem_of_getElem? (i := 59) rfl)) (hw _ (List.mem_of_getElem? (i := 58) rfl)))) (Cond.privateMethod_at (mvP hZ (hw _ (List.mem_of_getElem? (i := 59) rfl)) (args := #[]))) (mvT hZ (hw _ (List.mem_of_getElem? (i := 60) rfl))) (by decide) (backOf (W := 0) (rm10 l Z a0 hw [] o0 (f7_0 (g 1) lw) (g 1) (gv 1) ka va sa la tg48 kf48 vf48 sf48 lf48 u48 lw z M ((n - cnt.toNatClampNeg) + 1) T48.heap n0 (Nat.le_trans g_o0 (Nat.le_of_lt E48.lt)) ⟨E48, Fk48, Fv48, Fs48, Fl48, Fu48, Fw48, Fz48, Ak48, Av48, As48, Al48⟩ G48 J48 (own_bk (hg _ (own_lti (k := 1) (a := (1 : Int32)) hc76_c1 (by decide))).1 hlw0) (by omega) (hg _ (own_lti (k := 1) (a := (1 : Int32)) hc76_c1 (by decide))).1 (hg _ (own_lti (k := 1) (a := (1 : Int32)) hc76_c1 (by decide))).2) hZ (hw _ (List.mem_of_getElem? (i := 60) rfl)) (hw _ (List.mem_of_getElem? (i := 7) rfl)) (by decide) (by decide)) (g := (mkF m 96 #[.val (.ref o0), .val (.int p1), .val (.ref xa), .val (.ref xc), .val (.int cnt), .val (.int (1 : Int32))] [(.long (gv 1)), (.long (g 1)), (.int (f7_0 (g 1) lw)), (.ref o0)])) rfl (by rw [hml]; rfl) (Steps.refl _) (a := o0) (by rw [e49]; exact qv50) qv50' (argsL := [(.int (f7_0 (g 1) lw)), (.long (g 1)), (.long (gv 1))]) (rest := []) (lenOf pd_4 rfl) rfl (by show 2 * 0 + _ ≤ _; exact Nat.le_of_eq rfl) (hb hby d16_96) (fun _ _ => ⟨rfl, e49, (by decide : (0 + 2) + 2 ≤ _), (by decide : (0 + 32) + 32 ≤ _)⟩)
    dsimp only [Pt.U, Pt.locs, Pt.cells, Pt.slots] at X50 l50 y50 z50 st50 hQ50
    subst l50 y50 z50
    obtain ⟨rfl, N50q, tg50, kf50, vf50, sf50, lf50, u50, R50, G50, J50, ht50, hd50, hm50, hp50⟩ := hQ50
    obtain ⟨lc50, X50, N50⟩ := own_pack X50 (Fr.app N48 N50q)
    obtain ⟨E50, Fk50, Fv50, Fs50, Fl50, Fu50, Fw50, Fz50, Ak50, Av50, As50, Al50⟩ := R50
    have Dxa50 := own_keep5 Dxa48 hd50 t5xa48
    have t5xa50 : tg50 xa = 5 := (ht50 _ Dxa48.lt).trans t5xa48
    have Dxc50 := own_keep5 Dxc48 hd50 t5xc48
    have t5xc50 : tg50 xc = 5 := (ht50 _ Dxc48.lt).trans t5xc48
    have Hs50 : ∀ i, i < 2 → sf50 ((f7_0 (g i) lw)).toNatClampNeg ≠ 0 := own_hsS Hs48 hm50 hp50
    refine Go.step (g' := (mkF m 99 #[.val (.ref o0), .val (.int p1), .val (.ref xa), .val (.ref xc), .val (.int cnt), .val (.int (1 : Int32))] [])) (fun _ k => st50.trans k) ?_
    refine Go.step (g' := (mkF m 102 #[.val (.ref o0), .val (.int p1), .val (.ref xa), .val (.ref xc), .val (.int cnt), .val (.int ((1 : Int32) + (1 : Int32)))] [])) (fun _ k => XS.iinc X50.here hx rfl (hb hby d16_99) rfl (l' := #[.val (.ref o0), .val (.int p1), .val (.ref xa), .val (.ref xc), .val (.int cnt), .val (.int ((1 : Int32) + (1 : Int32)))]) rfl k) ?_
    rw [show ((1 : Int32) + (1 : Int32)) = (2 : Int32) from by decide]
    refine Go.step (g' := (mkF m 72 #[.val (.ref o0), .val (.int p1), .val (.ref xa), .val (.ref xc), .val (.int cnt), .val (.int (2 : Int32))] [])) (fun _ k => XS.goto X50.here hx rfl (pc0 := 102) (pc' := 72) rfl (hb hby d16_102) (by decide) (by decide) k) ?_
    skip
    refine Go.step (g' := (mkF m 74 #[.val (.ref o0), .val (.int p1), .val (.ref xa), .val (.ref xc), .val (.int cnt), .val (.int (2 : Int32))] [(.int (2 : Int32))])) (fun _ k => XS.iload X50.here hx rfl (hb hby d16_72) rfl  k) ?_
    refine Go.step (g' := (mkF m 76 #[.val (.ref o0), .val (.int p1), .val (.ref xa), .val (.ref xc), .val (.int cnt), .val (.int (2 : Int32))] [(.int cnt), (.int (2 : Int32))])) (fun _ k => XS.iload X50.here hx rfl (hb hby d16_74) rfl  k) ?_
    by_cases hc76_c2 : (2 : Int32) < cnt
    · skip
      refine Go.step (g' := (mkF m 79 #[.val (.ref o0), .val (.int p1), .val (.ref xa), .val (.ref xc), .val (.int cnt), .val (.int (2 : Int32))] [])) (fun _ k => XS.icmpNo X50.here hx rfl (hb hby d16_76) rfl (tlt hc76_c2).2.1 k) ?_
      refine Go.step (g' := (mkF m 80 #[.val (.ref o0), .val (.int p1), .val (.ref xa), .val (.ref xc), .val (.int cnt), .val (.int (2 : Int32))] [(.ref o0)])) (fun _ k => XS.aloadN X50.here hx rfl (hb hby d16_79) rfl rfl  k) ?_
      refine Go.step (g' := (mkF m 81 #[.val (.ref o0), .val (.int p1), .val (.ref xa), .val (.ref xc), .val (.int cnt), .val (.int (2 : Int32))] [(.ref o0), (.ref o0)])) (fun _ k => XS.aloadN X50.here hx rfl (hb hby d16_80) rfl rfl  k) ?_
      refine Go.step (g' := (mkF m 82 #[.val (.ref o0), .val (.int p1), .val (.ref xa), .val (.ref xc), .val (.int cnt), .val (.int (2 : Int32))] [(.ref xa), (.ref o0), (.ref o0)])) (fun _ k => XS.aloadN X50.here hx rfl (hb hby d16_81) rfl rfl  k) ?_
      refine Go.step (g' := (mkF m 84 #[.val (.ref o0), .val (.int p1), .val (.ref xa), .val (.ref xc), .val (.int cnt), .val (.int (2 : Int32))] [(.int (2 : Int32)), (.ref xa), (.ref o0), (.ref o0)])) (fun _ k => XS.iload X50.here hx rfl (hb hby d16_82) rfl  k) ?_
      refine Go.step (g' := (mkF m 85 #[.val (.ref o0), .val (.int p1), .val (.ref xa), .val (.ref xc), .val (.int cnt), .val (.int (2 : Int32))] [(.long (g (2 : Int32).toNatClampNeg)), (.ref o0), (.ref o0)])) (fun _ k => getAJ X50 hx hZ rfl Dxa50 (j := (2 : Int32)) (by decide) (gf := (mkF m 84 #[.val (.ref o0), .val (.int p1), .val (.ref xa), .val (.ref xc), .val (.int cnt), .val (.int (2 : Int32))] [(.int (2 : Int32)), (.ref xa), (.ref o0), (.ref o0)])) rfl rfl (hb hby d16_84) k) ?_
      rw [show (g (2 : Int32).toNatClampNeg) = (g 2) from rfl]
      obtain ⟨cq51, qv51, qv51'⟩ := E50.cell
      obtain ⟨_, _, ⟨T51, L51, k51, n51⟩, -, X51, ⟨Lc51, hQ51, l51, y51, z51⟩, st51⟩ := X50.privateBack hx (y := (⟨"com/example/redelivery/redelivery/RadixHeap", "bucketOf", "(J)I"⟩ : MethodName)) hown (mvT hZ (hw _ (List.mem_of_getElem? (i := 44) rfl))) (mvT hZ (hw _ (List.mem_of_getElem? (i := 45) rfl))) (mvT hZ (own_selP (y := (⟨"com/example/redelivery/redelivery/RadixHeap", "bucketOf", "(J)I"⟩ : MethodName)) (by decide) (hw _ (List.mem_of_getElem? (i := 6) rfl)) (hw _ (List.mem_of_getElem? (i := 46) rfl)) (hw _ (List.mem_of_getElem? (i := 45) rfl)))) (Cond.privateMethod_at (mvP hZ (hw _ (List.mem_of_getElem? (i := 46) rfl)) (args := #[]))) (mvT hZ (hw _ (List.mem_of_getElem? (i := 47) rfl))) (by decide) (backOf (W := 1) (rm7 l Z a0 hw [] o0 (g 2) lw T50.heap Fw50) hZ (hw _ (List.mem_of_getElem? (i := 47) rfl)) (hw _ (List.mem_of_getElem? (i := 7) rfl)) (by decide) (by decide)) (g := (mkF m 85 #[.val (.ref o0), .val (.int p1), .val (.ref xa), .val (.ref xc), .val (.int cnt), .val (.int (2 : Int32))] [(.long (g 2)), (.ref o0), (.ref o0)])) rfl (by rw [hml]; rfl) (Steps.refl _) (a := o0) qv51 qv51' (argsL := [(.long (g 2))]) (rest := [(.ref o0)]) (lenOf pd_2 rfl) rfl (by show 2 * 0 + _ ≤ _; exact Nat.le_of_eq rfl) (hb hby d16_85) (fun _ _ => ⟨rfl, rfl, (by decide : ((0 + 2) + 2) + 0 ≤ _), (by decide : ((0 + 32) + 32) + 0 ≤ _)⟩)
      dsimp only [Pt.U, Pt.locs, Pt.cells, Pt.slots] at X51 l51 y51 z51 st51 hQ51
      subst l51 y51 z51
      obtain ⟨rfl, rfl, e51⟩ := hQ51
      try rw [List.append_nil] at X51
      refine Go.step (g' := (mkF m 88 #[.val (.ref o0), .val (.int p1), .val (.ref xa), .val (.ref xc), .val (.int cnt), .val (.int (2 : Int32))] [(.int (f7_0 (g 2) lw)), (.ref o0)])) (fun _ k => st51.trans k) ?_
      refine Go.step (g' := (mkF m 89 #[.val (.ref o0), .val (.int p1), .val (.ref xa), .val (.ref xc), .val (.int cnt), .val (.int (2 : Int32))] [(.ref xa), (.int (f7_0 (g 2) lw)), (.ref o0)])) (fun _ k => XS.aloadN X51.here hx rfl (hb hby d16_88) rfl rfl  k) ?_
      refine Go.step (g' := (mkF m 91 #[.val (.ref o0), .val (.int p1), .val (.ref xa), .val (.ref xc), .val (.int cnt), .val (.int (2 : Int32))] [(.int (2 : Int32)), (.ref xa), (.int (f7_0 (g 2) lw)), (.ref o0)])) (fun _ k => XS.iload X51.here hx rfl (hb hby d16_89) rfl  k) ?_
      refine Go.step (g' := (mkF m 92 #[.val (.ref o0), .val (.int p1), .val (.ref xa), .val (.ref xc), .val (.int cnt), .val (.int (2 : Int32))] [(.long (g (2 : Int32).toNatClampNeg)), (.int (f7_0 (g 2) lw)), (.ref o0)])) (fun _ k => getAJ X51 hx hZ e51 Dxa50 (j := (2 : Int32)) (by decide) (gf := (mkF m 91 #[.val (.ref o0), .val (.int p1), .val (.ref xa), .val (.ref xc), .val (.int cnt), .val (.int (2 : Int32))] [(.int (2 : Int32)), (.ref xa), (.int (f7_0 (g 2) lw)), (.ref o0)])) rfl rfl (hb hby d16_91) k) ?_
      rw [show (g (2 : Int32).toNatClampNeg) = (g 2) from rfl]
      refine Go.step (g' := (mkF m 93 #[.val (.ref o0), .val (.int p1), .val (.ref xa), .val (.ref xc), .val (.int cnt), .val (.int (2 : Int32))] [(.ref xc), (.long (g 2)), (.int (f7_0 (g 2) lw)), (.ref o0)])) (fun _ k => XS.aloadN X51.here hx rfl (hb hby d16_92) rfl rfl  k) ?_
      refine Go.step (g' := (mkF m 95 #[.val (.ref o0), .val (.int p1), .val (.ref xa), .val (.ref xc), .val (.int cnt), .val (.int (2 : Int32))] [(.int (2 : Int32)), (.ref xc), (.long (g 2)), (.int (f7_0 (g 2) lw)), (.ref o0)])) (fun _ k => XS.iload X51.here hx rfl (hb hby d16_93) rfl  k) ?_
      refine Go.step (g' := (mkF m 96 #[.val (.ref o0), .val (.int p1), .val (.ref xa), .val (.ref xc), .val (.int cnt), .val (.int (2 : Int32))] [(.long (gv (2 : Int32).toNatClampNeg)), (.long (g 2)), (.int (f7_0 (g 2) lw)), (.ref o0)])) (fun _ k => getAJ X51 hx hZ e51 Dxc50 (j := (2 : Int32)) (by decide) (gf := (mkF m 95 #[.val (.ref o0), .val (.int p1), .val (.ref xa), .val (.ref xc), .val (.int cnt), .val (.int (2 : Int32))] [(.int (2 : Int32)), (.ref xc), (.long (g 2)), (.int (f7_0 (g 2) lw)), (.ref o0)])) rfl rfl (hb hby d16_95) k) ?_
      rw [show (gv (2 : Int32).toNatClampNeg) = (gv 2) from rfl]
      obtain ⟨cq52, qv52, qv52'⟩ := E50.cell
      obtain ⟨_, _, ⟨T52, L52, k52, n52⟩, -, X52, ⟨Lc52, hQ52, l52, y52, z52⟩, st52⟩ := X51.privateBack hx (y := (⟨"com/example/redelivery/redelivery/RadixHeap", "put", "(IJJ)V"⟩ : MethodName)) hown (mvT hZ (hw _ (List.mem_of_getElem? (i := 57) rfl))) (mvT hZ (hw _ (List.mem_of_getElem? (i := 58) rfl))) (mvT hZ (own_selP (y := (⟨"com/example/redelivery/redelivery/RadixHeap", "put", "(IJJ)V"⟩ : MethodName)) (by decide) (hw _ (List.mem_of_getElem? (i := 6) rfl)) (hw _ (List.mem_of_getElem? (i := 59) rfl)) (hw _ (List.mem_of_getElem? (i := 58) rfl)))) (Cond.privateMethod_at (mvP hZ (hw _ (List.mem_of_getElem? (i := 59) rfl)) (args := #[]))) (mvT hZ (hw _ (List.mem_of_getElem? (i := 60) rfl))) (by decide) (backOf (W := 0) (rm10 l Z a0 hw [] o0 (f7_0 (g 2) lw) (g 2) (gv 2) ka va sa la tg50 kf50 vf50 sf50 lf50 u50 lw z M (((n - cnt.toNatClampNeg) + 1) + 1) T50.heap n0 (Nat.le_trans g_o0 (Nat.le_of_lt E50.lt)) ⟨E50, Fk50, Fv50, Fs50, Fl50, Fu50, Fw50, Fz50, Ak50, Av50, As50, Al50⟩ G50 J50 (own_bk (hg _ (own_lti (k := 2) (a := (2 : Int32)) hc76_c2 (by decide))).1 hlw0) (by omega) (hg _ (own_lti (k := 2) (a := (2 : Int32)) hc76_c2 (by decide))).1 (hg _ (own_lti (k := 2) (a := (2 : Int32)) hc76_c2 (by decide))).2) hZ (hw _ (List.mem_of_getElem? (i := 60) rfl)) (hw _ (List.mem_of_getElem? (i := 7) rfl)) (by decide) (by decide)) (g := (mkF m 96 #[.val (.ref o0), .val (.int p1), .val (.ref xa), .val (.ref xc), .val (.int cnt), .val (.int (2 : Int32))] [(.long (gv 2)), (.long (g 2)), (.int (f7_0 (g 2) lw)), (.ref o0)])) rfl (by rw [hml]; rfl) (Steps.refl _) (a := o0) (by rw [e51]; exact qv52) qv52' (argsL := [(.int (f7_0 (g 2) lw)), (.long (g 2)), (.long (gv 2))]) (rest := []) (lenOf pd_4 rfl) rfl (by show 2 * 0 + _ ≤ _; exact Nat.le_of_eq rfl) (hb hby d16_96) (fun _ _ => ⟨rfl, e51, (by decide : ((0 + 2) + 2) + 2 ≤ _), (by decide : ((0 + 32) + 32) + 32 ≤ _)⟩)
      dsimp only [Pt.U, Pt.locs, Pt.cells, Pt.slots] at X52 l52 y52 z52 st52 hQ52
      subst l52 y52 z52
      obtain ⟨rfl, N52q, tg52, kf52, vf52, sf52, lf52, u52, R52, G52, J52, ht52, hd52, hm52, hp52⟩ := hQ52
      obtain ⟨lc52, X52, N52⟩ := own_pack X52 (Fr.app N50 N52q)
      obtain ⟨E52, Fk52, Fv52, Fs52, Fl52, Fu52, Fw52, Fz52, Ak52, Av52, As52, Al52⟩ := R52
      have Dxa52 := own_keep5 Dxa50 hd52 t5xa50
      have t5xa52 : tg52 xa = 5 := (ht52 _ Dxa50.lt).trans t5xa50
      have Dxc52 := own_keep5 Dxc50 hd52 t5xc50
      have t5xc52 : tg52 xc = 5 := (ht52 _ Dxc50.lt).trans t5xc50
      have Hs52 : ∀ i, i < 3 → sf52 ((f7_0 (g i) lw)).toNatClampNeg ≠ 0 := own_hsS Hs50 hm52 hp52
      refine Go.step (g' := (mkF m 99 #[.val (.ref o0), .val (.int p1), .val (.ref xa), .val (.ref xc), .val (.int cnt), .val (.int (2 : Int32))] [])) (fun _ k => st52.trans k) ?_
      refine Go.step (g' := (mkF m 102 #[.val (.ref o0), .val (.int p1), .val (.ref xa), .val (.ref xc), .val (.int cnt), .val (.int ((2 : Int32) + (1 : Int32)))] [])) (fun _ k => XS.iinc X52.here hx rfl (hb hby d16_99) rfl (l' := #[.val (.ref o0), .val (.int p1), .val (.ref xa), .val (.ref xc), .val (.int cnt), .val (.int ((2 : Int32) + (1 : Int32)))]) rfl k) ?_
      rw [show ((2 : Int32) + (1 : Int32)) = (3 : Int32) from by decide]
      refine Go.step (g' := (mkF m 72 #[.val (.ref o0), .val (.int p1), .val (.ref xa), .val (.ref xc), .val (.int cnt), .val (.int (3 : Int32))] [])) (fun _ k => XS.goto X52.here hx rfl (pc0 := 102) (pc' := 72) rfl (hb hby d16_102) (by decide) (by decide) k) ?_
      skip
      refine Go.step (g' := (mkF m 74 #[.val (.ref o0), .val (.int p1), .val (.ref xa), .val (.ref xc), .val (.int cnt), .val (.int (3 : Int32))] [(.int (3 : Int32))])) (fun _ k => XS.iload X52.here hx rfl (hb hby d16_72) rfl  k) ?_
      refine Go.step (g' := (mkF m 76 #[.val (.ref o0), .val (.int p1), .val (.ref xa), .val (.ref xc), .val (.int cnt), .val (.int (3 : Int32))] [(.int cnt), (.int (3 : Int32))])) (fun _ k => XS.iload X52.here hx rfl (hb hby d16_74) rfl  k) ?_
      by_cases hc76_c3 : (3 : Int32) < cnt
      · skip
        refine Go.step (g' := (mkF m 79 #[.val (.ref o0), .val (.int p1), .val (.ref xa), .val (.ref xc), .val (.int cnt), .val (.int (3 : Int32))] [])) (fun _ k => XS.icmpNo X52.here hx rfl (hb hby d16_76) rfl (tlt hc76_c3).2.1 k) ?_
        refine Go.step (g' := (mkF m 80 #[.val (.ref o0), .val (.int p1), .val (.ref xa), .val (.ref xc), .val (.int cnt), .val (.int (3 : Int32))] [(.ref o0)])) (fun _ k => XS.aloadN X52.here hx rfl (hb hby d16_79) rfl rfl  k) ?_
        refine Go.step (g' := (mkF m 81 #[.val (.ref o0), .val (.int p1), .val (.ref xa), .val (.ref xc), .val (.int cnt), .val (.int (3 : Int32))] [(.ref o0), (.ref o0)])) (fun _ k => XS.aloadN X52.here hx rfl (hb hby d16_80) rfl rfl  k) ?_
        refine Go.step (g' := (mkF m 82 #[.val (.ref o0), .val (.int p1), .val (.ref xa), .val (.ref xc), .val (.int cnt), .val (.int (3 : Int32))] [(.ref xa), (.ref o0), (.ref o0)])) (fun _ k => XS.aloadN X52.here hx rfl (hb hby d16_81) rfl rfl  k) ?_
        refine Go.step (g' := (mkF m 84 #[.val (.ref o0), .val (.int p1), .val (.ref xa), .val (.ref xc), .val (.int cnt), .val (.int (3 : Int32))] [(.int (3 : Int32)), (.ref xa), (.ref o0), (.ref o0)])) (fun _ k => XS.iload X52.here hx rfl (hb hby d16_82) rfl  k) ?_
        refine Go.step (g' := (mkF m 85 #[.val (.ref o0), .val (.int p1), .val (.ref xa), .val (.ref xc), .val (.int cnt), .val (.int (3 : Int32))] [(.long (g (3 : Int32).toNatClampNeg)), (.ref o0), (.ref o0)])) (fun _ k => getAJ X52 hx hZ rfl Dxa52 (j := (3 : Int32)) (by decide) (gf := (mkF m 84 #[.val (.ref o0), .val (.int p1), .val (.ref xa), .val (.ref xc), .val (.int cnt), .val (.int (3 : Int32))] [(.int (3 : Int32)), (.ref xa), (.ref o0), (.ref o0)])) rfl rfl (hb hby d16_84) k) ?_
        rw [show (g (3 : Int32).toNatClampNeg) = (g 3) from rfl]
        obtain ⟨cq53, qv53, qv53'⟩ := E52.cell
        obtain ⟨_, _, ⟨T53, L53, k53, n53⟩, -, X53, ⟨Lc53, hQ53, l53, y53, z53⟩, st53⟩ := X52.privateBack hx (y := (⟨"com/example/redelivery/redelivery/RadixHeap", "bucketOf", "(J)I"⟩ : MethodName)) hown (mvT hZ (hw _ (List.mem_of_getElem? (i := 44) rfl))) (mvT hZ (hw _ (List.mem_of_getElem? (i := 45) rfl))) (mvT hZ (own_selP (y := (⟨"com/example/redelivery/redelivery/RadixHeap", "bucketOf", "(J)I"⟩ : MethodName)) (by decide) (hw _ (List.mem_of_getElem? (i := 6) rfl)) (hw _ (List.mem_of_getElem? (i := 46) rfl)) (hw _ (List.mem_of_getElem? (i := 45) rfl)))) (Cond.privateMethod_at (mvP hZ (hw _ (List.mem_of_getElem? (i := 46) rfl)) (args := #[]))) (mvT hZ (hw _ (List.mem_of_getElem? (i := 47) rfl))) (by decide) (backOf (W := 1) (rm7 l Z a0 hw [] o0 (g 3) lw T52.heap Fw52) hZ (hw _ (List.mem_of_getElem? (i := 47) rfl)) (hw _ (List.mem_of_getElem? (i := 7) rfl)) (by decide) (by decide)) (g := (mkF m 85 #[.val (.ref o0), .val (.int p1), .val (.ref xa), .val (.ref xc), .val (.int cnt), .val (.int (3 : Int32))] [(.long (g 3)), (.ref o0), (.ref o0)])) rfl (by rw [hml]; rfl) (Steps.refl _) (a := o0) qv53 qv53' (argsL := [(.long (g 3))]) (rest := [(.ref o0)]) (lenOf pd_2 rfl) rfl (by show 2 * 0 + _ ≤ _; exact Nat.le_of_eq rfl) (hb hby d16_85) (fun _ _ => ⟨rfl, rfl, (by decide : (((0 + 2) + 2) + 2) + 0 ≤ _), (by decide : (((0 + 32) + 32) + 32) + 0 ≤ _)⟩)
        dsimp only [Pt.U, Pt.locs, Pt.cells, Pt.slots] at X53 l53 y53 z53 st53 hQ53
        subst l53 y53 z53
        obtain ⟨rfl, rfl, e53⟩ := hQ53
        try rw [List.append_nil] at X53
        refine Go.step (g' := (mkF m 88 #[.val (.ref o0), .val (.int p1), .val (.ref xa), .val (.ref xc), .val (.int cnt), .val (.int (3 : Int32))] [(.int (f7_0 (g 3) lw)), (.ref o0)])) (fun _ k => st53.trans k) ?_
        refine Go.step (g' := (mkF m 89 #[.val (.ref o0), .val (.int p1), .val (.ref xa), .val (.ref xc), .val (.int cnt), .val (.int (3 : Int32))] [(.ref xa), (.int (f7_0 (g 3) lw)), (.ref o0)])) (fun _ k => XS.aloadN X53.here hx rfl (hb hby d16_88) rfl rfl  k) ?_
        refine Go.step (g' := (mkF m 91 #[.val (.ref o0), .val (.int p1), .val (.ref xa), .val (.ref xc), .val (.int cnt), .val (.int (3 : Int32))] [(.int (3 : Int32)), (.ref xa), (.int (f7_0 (g 3) lw)), (.ref o0)])) (fun _ k => XS.iload X53.here hx rfl (hb hby d16_89) rfl  k) ?_
        refine Go.step (g' := (mkF m 92 #[.val (.ref o0), .val (.int p1), .val (.ref xa), .val (.ref xc), .val (.int cnt), .val (.int (3 : Int32))] [(.long (g (3 : Int32).toNatClampNeg)), (.int (f7_0 (g 3) lw)), (.ref o0)])) (fun _ k => getAJ X53 hx hZ e53 Dxa52 (j := (3 : Int32)) (by decide) (gf := (mkF m 91 #[.val (.ref o0), .val (.int p1), .val (.ref xa), .val (.ref xc), .val (.int cnt), .val (.int (3 : Int32))] [(.int (3 : Int32)), (.ref xa), (.int (f7_0 (g 3) lw)), (.ref o0)])) rfl rfl (hb hby d16_91) k) ?_
        rw [show (g (3 : Int32).toNatClampNeg) = (g 3) from rfl]
        refine Go.step (g' := (mkF m 93 #[.val (.ref o0), .val (.int p1), .val (.ref xa), .val (.ref xc), .val (.int cnt), .val (.int (3 : Int32))] [(.ref xc), (.long (g 3)), (.int (f7_0 (g 3) lw)), (.ref o0)])) (fun _ k => XS.aloadN X53.here hx rfl (hb hby d16_92) rfl rfl  k) ?_
        refine Go.step (g' := (mkF m 95 #[.val (.ref o0), .val (.int p1), .val (.ref xa), .val (.ref xc), .val (.int cnt), .val (.int (3 : Int32))] [(.int (3 : Int32)), (.ref xc), (.long (g 3)), (.int (f7_0 (g 3) lw)), (.ref o0)])) (fun _ k => XS.iload X53.here hx rfl (hb hby d16_93) rfl  k) ?_
        refine Go.step (g' := (mkF m 96 #[.val (.ref o0), .val (.int p1), .val (.ref xa), .val (.ref xc), .val (.int cnt), .val (.int (3 : Int32))] [(.long (gv (3 : Int32).toNatClampNeg)), (.long (g 3)), (.int (f7_0 (g 3) lw)), (.ref o0)])) (fun _ k => getAJ X53 hx hZ e53 Dxc52 (j := (3 : Int32)) (by decide) (gf := (mkF m 95 #[.val (.ref o0), .val (.int p1), .val (.ref xa), .val (.ref xc), .val (.int cnt), .val (.int (3 : Int32))] [(.int (3 : Int32)), (.ref xc), (.long (g 3)), (.int (f7_0 (g 3) lw)), (.ref o0)])) rfl rfl (hb hby d16_95) k) ?_
        rw [show (gv (3 : Int32).toNatClampNeg) = (gv 3) from rfl]
        obtain ⟨cq54, qv54, qv54'⟩ := E52.cell
        obtain ⟨_, _, ⟨T54, L54, k54, n54⟩, -, X54, ⟨Lc54, hQ54, l54, y54, z54⟩, st54⟩ := X53.privateBack hx (y := (⟨"com/example/redelivery/redelivery/RadixHeap", "put", "(IJJ)V"⟩ : MethodName)) hown (mvT hZ (hw _ (List.mem_of_getElem? (i := 57) rfl))) (mvT hZ (hw _ (List.mem_of_getElem? (i := 58) rfl))) (mvT hZ (own_selP (y := (⟨"com/example/redelivery/redelivery/RadixHeap", "put", "(IJJ)V"⟩ : MethodName)) (by decide) (hw _ (List.mem_of_getElem? (i := 6) rfl)) (hw _ (List.mem_of_getElem? (i := 59) rfl)) (hw _ (List.mem_of_getElem? (i := 58) rfl)))) (Cond.privateMethod_at (mvP hZ (hw _ (List.mem_of_getElem? (i := 59) rfl)) (args := #[]))) (mvT hZ (hw _ (List.mem_of_getElem? (i := 60) rfl))) (by decide) (backOf (W := 0) (rm10 l Z a0 hw [] o0 (f7_0 (g 3) lw) (g 3) (gv 3) ka va sa la tg52 kf52 vf52 sf52 lf52 u52 lw z M ((((n - cnt.toNatClampNeg) + 1) + 1) + 1) T52.heap n0 (Nat.le_trans g_o0 (Nat.le_of_lt E52.lt)) ⟨E52, Fk52, Fv52, Fs52, Fl52, Fu52, Fw52, Fz52, Ak52, Av52, As52, Al52⟩ G52 J52 (own_bk (hg _ (own_lti (k := 3) (a := (3 : Int32)) hc76_c3 (by decide))).1 hlw0) (by omega) (hg _ (own_lti (k := 3) (a := (3 : Int32)) hc76_c3 (by decide))).1 (hg _ (own_lti (k := 3) (a := (3 : Int32)) hc76_c3 (by decide))).2) hZ (hw _ (List.mem_of_getElem? (i := 60) rfl)) (hw _ (List.mem_of_getElem? (i := 7) rfl)) (by decide) (by decide)) (g := (mkF m 96 #[.val (.ref o0), .val (.int p1), .val (.ref xa), .val (.ref xc), .val (.int cnt), .val (.int (3 : Int32))] [(.long (gv 3)), (.long (g 3)), (.int (f7_0 (g 3) lw)), (.ref o0)])) rfl (by rw [hml]; rfl) (Steps.refl _) (a := o0) (by rw [e53]; exact qv54) qv54' (argsL := [(.int (f7_0 (g 3) lw)), (.long (g 3)), (.long (gv 3))]) (rest := []) (lenOf pd_4 rfl) rfl (by show 2 * 0 + _ ≤ _; exact Nat.le_of_eq rfl) (hb hby d16_96) (fun _ _ => ⟨rfl, e53, (by decide : (((0 + 2) + 2) + 2) + 2 ≤ _), (by decide : (((0 + 32) + 32) + 32) + 32 ≤ _)⟩)
        dsimp only [Pt.U, Pt.locs, Pt.cells, Pt.slots] at X54 l54 y54 z54 st54 hQ54
        subst l54 y54 z54
        obtain ⟨rfl, N54q, tg54, kf54, vf54, sf54, lf54, u54, R54, G54, J54, ht54, hd54, hm54, hp54⟩ := hQ54
        obtain ⟨lc54, X54, N54⟩ := own_pack X54 (Fr.app N52 N54q)
        obtain ⟨E54, Fk54, Fv54, Fs54, Fl54, Fu54, Fw54, Fz54, Ak54, Av54, As54, Al54⟩ := R54
        have Dxa54 := own_keep5 Dxa52 hd54 t5xa52
        have t5xa54 : tg54 xa = 5 := (ht54 _ Dxa52.lt).trans t5xa52
        have Dxc54 := own_keep5 Dxc52 hd54 t5xc52
        have t5xc54 : tg54 xc = 5 := (ht54 _ Dxc52.lt).trans t5xc52
        have Hs54 : ∀ i, i < 4 → sf54 ((f7_0 (g i) lw)).toNatClampNeg ≠ 0 := own_hsS Hs52 hm54 hp54
        refine Go.step (g' := (mkF m 99 #[.val (.ref o0), .val (.int p1), .val (.ref xa), .val (.ref xc), .val (.int cnt), .val (.int (3 : Int32))] [])) (fun _ k => st54.trans k) ?_
        refine Go.step (g' := (mkF m 102 #[.val (.ref o0), .val (.int p1), .val (.ref xa), .val (.ref xc), .val (.int cnt), .val (.int ((3 : Int32) + (1 : Int32)))] [])) (fun _ k => XS.iinc X54.here hx rfl (hb hby d16_99) rfl (l' := #[.val (.ref o0), .val (.int p1), .val (.ref xa), .val (.ref xc), .val (.int cnt), .val (.int ((3 : Int32) + (1 : Int32)))]) rfl k) ?_
        rw [show ((3 : Int32) + (1 : Int32)) = (4 : Int32) from by decide]
        refine Go.step (g' := (mkF m 72 #[.val (.ref o0), .val (.int p1), .val (.ref xa), .val (.ref xc), .val (.int cnt), .val (.int (4 : Int32))] [])) (fun _ k => XS.goto X54.here hx rfl (pc0 := 102) (pc' := 72) rfl (hb hby d16_102) (by decide) (by decide) k) ?_
        skip
        refine Go.step (g' := (mkF m 74 #[.val (.ref o0), .val (.int p1), .val (.ref xa), .val (.ref xc), .val (.int cnt), .val (.int (4 : Int32))] [(.int (4 : Int32))])) (fun _ k => XS.iload X54.here hx rfl (hb hby d16_72) rfl  k) ?_
        refine Go.step (g' := (mkF m 76 #[.val (.ref o0), .val (.int p1), .val (.ref xa), .val (.ref xc), .val (.int cnt), .val (.int (4 : Int32))] [(.int cnt), (.int (4 : Int32))])) (fun _ k => XS.iload X54.here hx rfl (hb hby d16_74) rfl  k) ?_
        refine Go.step (g' := (mkF m 105 #[.val (.ref o0), .val (.int p1), .val (.ref xa), .val (.ref xc), .val (.int cnt), .val (.int (4 : Int32))] [])) (fun _ k => XS.icmpYes X54.here hx rfl (pc0 := 76) (pc' := 105) rfl (hb hby d16_76) rfl (flt (hlast : ¬ ((4 : Int32) < cnt))).2.1 (by decide) (by decide) k) ?_
        skip
        exact Go.ret0 X54 hx hlk Bd.returns (hb hby d16_105) (by decide) (by decide) (by exact (own_spEnd (c := 4) (own_cn hc76_c3 hlast (by decide) (by decide)) hcn N54 ⟨E54, Fk54, Fv54, Fs54, Fl54, Fu54, Fw54, Fz54, Ak54, Av54, As54, Al54⟩ G54 J54 rfl Hs54 hl' hlw0 hlwM))
      · skip
        refine Go.step (g' := (mkF m 105 #[.val (.ref o0), .val (.int p1), .val (.ref xa), .val (.ref xc), .val (.int cnt), .val (.int (3 : Int32))] [])) (fun _ k => XS.icmpYes X52.here hx rfl (pc0 := 76) (pc' := 105) rfl (hb hby d16_76) rfl (flt hc76_c3).2.1 (by decide) (by decide) k) ?_
        exact Go.ret0 X52 hx hlk Bd.returns (hb hby d16_105) (by decide) (by decide) (by exact (own_spEnd (c := 3) (own_cn hc76_c2 hc76_c3 (by decide) (by decide)) hcn N52 ⟨E52, Fk52, Fv52, Fs52, Fl52, Fu52, Fw52, Fz52, Ak52, Av52, As52, Al52⟩ G52 J52 rfl Hs52 hl' hlw0 hlwM))
    · skip
      refine Go.step (g' := (mkF m 105 #[.val (.ref o0), .val (.int p1), .val (.ref xa), .val (.ref xc), .val (.int cnt), .val (.int (2 : Int32))] [])) (fun _ k => XS.icmpYes X50.here hx rfl (pc0 := 76) (pc' := 105) rfl (hb hby d16_76) rfl (flt hc76_c2).2.1 (by decide) (by decide) k) ?_
      exact Go.ret0 X50 hx hlk Bd.returns (hb hby d16_105) (by decide) (by decide) (by exact (own_spEnd (c := 2) (own_cn hc76_c1 hc76_c2 (by decide) (by decide)) hcn N50 ⟨E50, Fk50, Fv50, Fs50, Fl50, Fu50, Fw50, Fz50, Ak50, Av50, As50, Al50⟩ G50 J50 rfl Hs50 hl' hlw0 hlwM))
  · skip
    refine Go.step (g' := (mkF m 105 #[.val (.ref o0), .val (.int p1), .val (.ref xa), .val (.ref xc), .val (.int cnt), .val (.int (1 : Int32))] [])) (fun _ k => XS.icmpYes X48.here hx rfl (pc0 := 76) (pc' := 105) rfl (hb hby d16_76) rfl (flt hc76_c1).2.1 (by decide) (by decide) k) ?_
    exact Go.ret0 X48 hx hlk Bd.returns (hb hby d16_105) (by decide) (by decide) (by exact (own_spEnd (c := 1) (own_cn hcpos hc76_c1 (by decide) (by decide)) hcn N48 ⟨E48, Fk48, Fv48, Fs48, Fl48, Fu48, Fw48, Fz48, Ak48, Av48, As48, Al48⟩ G48 J48 rfl Hs48 hl' hlw0 hlwM))
theorem d12_0 : decode prog_23_method_6_code 0 = .ok (.aload_n 0, 1) := by decide +kernel
theorem d12_1 : decode prog_23_method_6_code 1 = .ok (.invokevirtual 52, 3) := by decide +kernel
theorem d12_4 : decode prog_23_method_6_code 4 = .ok (.aload_n 0, 1) := by decide +kernel
theorem d12_5 : decode prog_23_method_6_code 5 = .ok (.getfield 55, 3) := by decide +kernel
theorem d12_8 : decode prog_23_method_6_code 8 = .ok (.lconst 1, 1) := by decide +kernel
theorem d12_9 : decode prog_23_method_6_code 9 = .ok (.land, 1) := by decide +kernel
theorem d12_10 : decode prog_23_method_6_code 10 = .ok (.lconst 0, 1) := by decide +kernel
theorem d12_11 : decode prog_23_method_6_code 11 = .ok (.lcmp, 1) := by decide +kernel
theorem d12_12 : decode prog_23_method_6_code 12 = .ok (.ifCond .ne 14, 3) := by decide +kernel
theorem d12_15 : decode prog_23_method_6_code 15 = .ok (.aload_n 0, 1) := by decide +kernel
theorem d12_16 : decode prog_23_method_6_code 16 = .ok (.aload_n 0, 1) := by decide +kernel
theorem d12_17 : decode prog_23_method_6_code 17 = .ok (.getfield 55, 3) := by decide +kernel
theorem d12_20 : decode prog_23_method_6_code 20 = .ok (.invokestatic 58, 3) := by decide +kernel
theorem d12_23 : decode prog_23_method_6_code 23 = .ok (.invokevirtual 61, 3) := by decide +kernel
theorem d12_26 : decode prog_23_method_6_code 26 = .ok (.aload_n 0, 1) := by decide +kernel
theorem d12_27 : decode prog_23_method_6_code 27 = .ok (.getfield 20, 3) := by decide +kernel
theorem d12_30 : decode prog_23_method_6_code 30 = .ok (.iconst 0, 1) := by decide +kernel
theorem d12_31 : decode prog_23_method_6_code 31 = .ok (.dup2, 1) := by decide +kernel
theorem d12_32 : decode prog_23_method_6_code 32 = .ok (.iaload, 1) := by decide +kernel
theorem d12_33 : decode prog_23_method_6_code 33 = .ok (.iconst 1, 1) := by decide +kernel
theorem d12_34 : decode prog_23_method_6_code 34 = .ok (.isub, 1) := by decide +kernel
theorem d12_35 : decode prog_23_method_6_code 35 = .ok (.dup_x2, 1) := by decide +kernel
theorem d12_36 : decode prog_23_method_6_code 36 = .ok (.iastore, 1) := by decide +kernel
theorem d12_37 : decode prog_23_method_6_code 37 = .ok (.istore_n 1, 1) := by decide +kernel
theorem d12_38 : decode prog_23_method_6_code 38 = .ok (.iload_n 1, 1) := by decide +kernel
theorem d12_39 : decode prog_23_method_6_code 39 = .ok (.ifCond .ne 15, 3) := by decide +kernel
theorem d12_42 : decode prog_23_method_6_code 42 = .ok (.aload_n 0, 1) := by decide +kernel
theorem d12_43 : decode prog_23_method_6_code 43 = .ok (.dup, 1) := by decide +kernel
theorem d12_44 : decode prog_23_method_6_code 44 = .ok (.getfield 55, 3) := by decide +kernel
theorem d12_47 : decode prog_23_method_6_code 47 = .ok (.ldc2_w 65, 3) := by decide +kernel
theorem d12_50 : decode prog_23_method_6_code 50 = .ok (.land, 1) := by decide +kernel
theorem d12_51 : decode prog_23_method_6_code 51 = .ok (.putfield 55, 3) := by decide +kernel
theorem d12_54 : decode prog_23_method_6_code 54 = .ok (.aload_n 0, 1) := by decide +kernel
theorem d12_55 : decode prog_23_method_6_code 55 = .ok (.dup, 1) := by decide +kernel
theorem d12_56 : decode prog_23_method_6_code 56 = .ok (.getfield 27, 3) := by decide +kernel
theorem d12_59 : decode prog_23_method_6_code 59 = .ok (.iconst 1, 1) := by decide +kernel
theorem d12_60 : decode prog_23_method_6_code 60 = .ok (.isub, 1) := by decide +kernel
theorem d12_61 : decode prog_23_method_6_code 61 = .ok (.putfield 27, 3) := by decide +kernel
theorem d12_64 : decode prog_23_method_6_code 64 = .ok (.aload_n 0, 1) := by decide +kernel
theorem d12_65 : decode prog_23_method_6_code 65 = .ok (.getfield 17, 3) := by decide +kernel
theorem d12_68 : decode prog_23_method_6_code 68 = .ok (.iconst 0, 1) := by decide +kernel
theorem d12_69 : decode prog_23_method_6_code 69 = .ok (.aaload, 1) := by decide +kernel
theorem d12_70 : decode prog_23_method_6_code 70 = .ok (.iload_n 1, 1) := by decide +kernel
theorem d12_71 : decode prog_23_method_6_code 71 = .ok (.laload, 1) := by decide +kernel
theorem d12_72 : decode prog_23_method_6_code 72 = .ok (.lreturn, 1) := by decide +kernel
theorem pn_12 : plainName "com/example/redelivery/redelivery/RadixHeap" = true := by first | (simp [plainName, overriddenIn]; done) | decide +kernel
theorem ef_12 (m : MethodId) (o0 : Addr) : entryFrame m #[(.ref o0)] 2 = mkF m 0 #[.val (.ref o0), .unset] [] := by first | (simp [entryFrame, mkF, argsToLocals, Value.category]; done) | rfl
def QT (Z : State) (o : Addr) (z : Int32) (M : Int64) (n0 : Nat) (v : Option Value) (h : Heap) (L : List Loc) : Prop := ∃ r, v = some (.long r) ∧ Fr n0 L ∧ RH Z h n0 o z M M
set_option maxRecDepth 65536 in
set_option maxHeartbeats 40000000 in
theorem rm12a (l : Launch) (Z : State) (a0 : Array Value) (hw : ∀ d ∈ tables_1, d.before a0 Z = true) (ws : List Jvm.Cond) (o0 : Addr) (z : Int32) (B : Int64) (M : Int64) (h0 : Heap) (n0 : Nat) (Z0 : n0 ≤ h0.size) (RR : RH Z h0 n0 o0 z B M) (hz1 : 1 ≤ z.toInt) (hzN : z.toInt ≤ 3) (hBM : ¬ M < B) :
    MetFree l (⟨"com/example/redelivery/redelivery/RadixHeap", "takeLeast", "()J"⟩ : MethodName) (head1 (Jvm.Cond.code (⟨"com/example/redelivery/redelivery/RadixHeap", "takeLeast", "()J"⟩ : MethodName) prog_23_method_6_code 2 (some .long) :: ws) ({ frames := 4, cells := 6, slots := 96, locals := 61 } : Room)) (fun a U => a = #[(.ref o0)] ∧ Z.Warmed39 U.vm ∧ U.heap = h0) (fun _ _ _ _ _ => True) (fun _ U o U' => ∃ v L, o = .returned v ∧ (QT Z o0 (z - 1) M n0) v U'.heap L ∧ FrameEnd U o U' L ({ frames := 4, cells := 6, slots := 96, locals := 61 } : Room).cells ({ frames := 4, cells := 6, slots := 96, locals := 61 } : Room).slots) := by
  refine MetFree.of_bodySF (plainFor_of_name pn_12) hisR ?_
  intro p e s m args below meth c s₁ Bd hml0 hP hK
  obtain ⟨rfl, hZ, hh⟩ := hP
  have hx := Bd.exec
  have hby := Bd.bytes
  have hlk : meth.locks = false := BodyLoose.notSynchronized Bd
  have hml : c.maxLocals = 2 := hml0
  have hown : s.vm.findClass "com/example/redelivery/redelivery/RadixHeap" = some m.cls := findClass_of_methodNamed Bd.named
  have hnm := (name_of_methodNamed Bd.named Bd.method).1
  have X0 : Stand p l e ({ frames := 4, cells := 6, slots := 96, locals := 61 } : Room) s m #[(.ref o0)] below meth c s₁ ([] : List Loc) 0 0 := Stand.of_body Bd
  have e0 : s₁.heap = h0 := by rw [← hh, Bd.state]; rfl
  show Go p e below s 6 96 (QT Z o0 (z - 1) M n0) s₁ (entryFrame m #[(.ref o0)] 2)
  rw [ef_12 m o0]
  have N0 := Fr.nil n0
  obtain ⟨ka, va, sa, la, tg, kf, vf, sf, lf, u, w, R0, G0, J0, hw0, hwB, hz0⟩ := RR
  obtain ⟨E0, Fk0, Fv0, Fs0, Fl0, Fu0, Fw0, Fz0, Ak0, Av0, As0, Al0⟩ := R0
  have hwM : ¬ M < w := own_wM hwB hBM
  have n_o0_ka : o0 ≠ ka := own_tn G0.1 G0.2.1 (by decide)
  have n_o0_va : o0 ≠ va := own_tn G0.1 G0.2.2.1 (by decide)
  have n_o0_sa : o0 ≠ sa := own_tn G0.1 G0.2.2.2.1 (by decide)
  have n_o0_la : o0 ≠ la := own_tn G0.1 G0.2.2.2.2 (by decide)
  have n_ka_va : ka ≠ va := own_tn G0.2.1 G0.2.2.1 (by decide)
  have n_ka_sa : ka ≠ sa := own_tn G0.2.1 G0.2.2.2.1 (by decide)
  have n_ka_la : ka ≠ la := own_tn G0.2.1 G0.2.2.2.2 (by decide)
  have n_va_sa : va ≠ sa := own_tn G0.2.2.1 G0.2.2.2.1 (by decide)
  have n_va_la : va ≠ la := own_tn G0.2.2.1 G0.2.2.2.2 (by decide)
  have n_sa_la : sa ≠ la := own_tn G0.2.2.2.1 G0.2.2.2.2 (by decide)
  have g_o0 : n0 ≤ o0 := J0.2.2.2.2 _ (by rw [G0.1]; decide)
  have g_ka : n0 ≤ ka := J0.2.2.2.2 _ (by rw [G0.2.1]; decide)
  have g_va : n0 ≤ va := J0.2.2.2.2 _ (by rw [G0.2.2.1]; decide)
  have g_sa : n0 ≤ sa := J0.2.2.2.2 _ (by rw [G0.2.2.2.1]; decide)
  have g_la : n0 ≤ la := J0.2.2.2.2 _ (by rw [G0.2.2.2.2]; decide)
  refine Go.step (g' := (mkF m 1 #[.val (.ref o0), .unset] [(.ref o0)])) (fun _ k => XS.aloadN X0.here hx rfl (hb hby d12_0) rfl rfl  k) ?_
  obtain ⟨cq1, qv1, qv1'⟩ := E0.cell
  obtain ⟨_, _, ⟨T1, L1, k1, n1⟩, -, X1, ⟨Lc1, hQ1, l1, y1, z1⟩, st1⟩ := X0.privateBack hx (y := (⟨"com/example/redelivery/redelivery/RadixHeap", "requireEntry", "()V"⟩ : MethodName)) hown (mvT hZ (hw _ (List.mem_of_getElem? (i := 72) rfl))) (mvT hZ (hw _ (List.mem_of_getElem? (i := 73) rfl))) (mvT hZ (own_selP (y := (⟨"com/example/redelivery/redelivery/RadixHeap", "requireEntry", "()V"⟩ : MethodName)) (by decide) (hw _ (List.mem_of_getElem? (i := 6) rfl)) (hw _ (List.mem_of_getElem? (i := 74) rfl)) (hw _ (List.mem_of_getElem? (i := 73) rfl)))) (Cond.privateMethod_at (mvP hZ (hw _ (List.mem_of_getElem? (i := 74) rfl)) (args := #[]))) (mvT hZ (hw _ (List.mem_of_getElem? (i := 75) rfl))) (by decide) (backOf (W := 0) (rm13 l Z a0 hw [] o0 z h0 Fz0 (own_zne hz1)) hZ (hw _ (List.mem_of_getElem? (i := 75) rfl)) (hw _ (List.mem_of_getElem? (i := 7) rfl)) (by decide) (by decide)) (g := (mkF m 1 #[.val (.ref o0), .unset] [(.ref o0)])) rfl (by rw [hml]; rfl) (Steps.refl _) (a := o0) (by rw [e0]; exact qv1) qv1' (argsL := []) (rest := []) (lenOf pd_5 rfl) rfl (by show 2 * 0 + _ ≤ _; exact Nat.le_of_eq rfl) (hb hby d12_1) (fun _ _ => ⟨rfl, e0, (by decide : 0 + 0 ≤ _), (by decide : 0 + 0 ≤ _)⟩)
  dsimp only [Pt.U, Pt.locs, Pt.cells, Pt.slots] at X1 l1 y1 z1 st1 hQ1
  subst l1 y1 z1
  obtain ⟨rfl, rfl, e1⟩ := hQ1
  try rw [List.append_nil] at X1
  refine Go.step (g' := (mkF m 4 #[.val (.ref o0), .unset] [])) (fun _ k => st1.trans k) ?_
  refine Go.step (g' := (mkF m 5 #[.val (.ref o0), .unset] [(.ref o0)])) (fun _ k => XS.aloadN X1.here hx rfl (hb hby d12_4) rfl rfl  k) ?_
  obtain ⟨T2, X2, e2, st2⟩ := getF X1 hx hZ hown (host := "") (Or.inl (hw _ (List.mem_of_getElem? (i := 62) rfl))) Via.refl e1 Fu0 (g := (mkF m 5 #[.val (.ref o0), .unset] [(.ref o0)])) rfl rfl (hb hby d12_5)
  refine Go.step (g' := (mkF m 8 #[.val (.ref o0), .unset] [(.long u)])) st2 ?_
  refine Go.step (g' := (mkF m 9 #[.val (.ref o0), .unset] [(.long (1 : Int64)), (.long u)])) (fun _ k => XS.lconst X2.here hx rfl (hb hby d12_8) k) ?_
  refine Go.step (g' := (mkF m 10 #[.val (.ref o0), .unset] [(.long (u &&& (1 : Int64)))])) (fun _ k => XS.land X2.here hx rfl (hb hby d12_9) rfl k) ?_
  refine Go.step (g' := (mkF m 11 #[.val (.ref o0), .unset] [(.long (0 : Int64)), (.long (u &&& (1 : Int64)))])) (fun _ k => XS.lconst X2.here hx rfl (hb hby d12_10) k) ?_
  refine Go.step (g' := (mkF m 12 #[.val (.ref o0), .unset] [(.int (lcmpW (u &&& (1 : Int64)) (0 : Int64)))])) (fun _ k => XS.lcmp X2.here hx rfl (hb hby d12_11) rfl k) ?_
  by_cases hc12 : (lcmpW (u &&& (1 : Int64)) (0 : Int64)) = (0 : Int32)
  · skip
    refine Go.step (g' := (mkF m 15 #[.val (.ref o0), .unset] [])) (fun _ k => XS.ifNo X2.here hx rfl (hb hby d12_12) rfl ((if0 _ _).trans (teq hc12).2) k) ?_
    refine Go.step (g' := (mkF m 16 #[.val (.ref o0), .unset] [(.ref o0)])) (fun _ k => XS.aloadN X2.here hx rfl (hb hby d12_15) rfl rfl  k) ?_
    refine Go.step (g' := (mkF m 17 #[.val (.ref o0), .unset] [(.ref o0), (.ref o0)])) (fun _ k => XS.aloadN X2.here hx rfl (hb hby d12_16) rfl rfl  k) ?_
    obtain ⟨T3, X3, e3, st3⟩ := getF X2 hx hZ hown (host := "") (Or.inl (hw _ (List.mem_of_getElem? (i := 62) rfl))) Via.refl e2 Fu0 (g := (mkF m 17 #[.val (.ref o0), .unset] [(.ref o0), (.ref o0)])) rfl rfl (hb hby d12_17)
    refine Go.step (g' := (mkF m 20 #[.val (.ref o0), .unset] [(.long u), (.ref o0)])) st3 ?_
    obtain ⟨_, _, ⟨T4, L4, k4, n4⟩, -, X4, ⟨Lc4, hQ4, l4, y4, z4⟩, st4⟩ := Jvm.LawKit.callS X3 hx (y := (⟨"java/lang/Long", "numberOfTrailingZeros", "(J)I"⟩ : MethodName)) hown (mvT hZ (hw _ (List.mem_of_getElem? (i := 76) rfl))) (mvT hZ (hw _ (List.mem_of_getElem? (i := 77) rfl))) (mvT hZ (hw _ (List.mem_of_getElem? (i := 50) rfl))) (mvT hZ (hw _ (List.mem_of_getElem? (i := 78) rfl))) (by decide) (backOf (W := 1) (rm14 l Z a0 hw [] u h0 ) hZ (hw _ (List.mem_of_getElem? (i := 78) rfl)) (hw _ (List.mem_of_getElem? (i := 50) rfl)) (by decide) (by decide)) (g := (mkF m 20 #[.val (.ref o0), .unset] [(.long u), (.ref o0)])) rfl (by rw [hml]; rfl) (argsL := [(.long u)]) (rest := [(.ref o0)]) (lenOf pd_2 rfl) rfl (by show 2 * 0 + _ ≤ _; exact Nat.le_of_eq rfl) (hb hby d12_20) (fun _ _ => ⟨rfl, e3, (by decide : 0 + 0 ≤ _), (by decide : 0 + 0 ≤ _)⟩)
    dsimp only [Pt.U, Pt.locs, Pt.cells, Pt.slots] at X4 l4 y4 z4 st4 hQ4
    subst l4 y4 z4
    obtain ⟨rfl, rfl, e4⟩ := hQ4
    try rw [List.append_nil] at X4
    refine Go.step (g' := (mkF m 23 #[.val (.ref o0), .unset] [(.int (f14_0 u)), (.ref o0)])) st4 ?_
    generalize hbk : (f14_0 u) = bk
    obtain ⟨hbb, hsb, hbn⟩ := own_pick J0 (own_zpos hz1) hc12
    rw [hbk] at hbb hsb hbn
    obtain ⟨cq5, qv5, qv5'⟩ := E0.cell
    obtain ⟨_, _, ⟨T5, L5, k5, n5⟩, -, X5, ⟨Lc5, hQ5, l5, y5, z5⟩, st5⟩ := X4.privateBack hx (y := (⟨"com/example/redelivery/redelivery/RadixHeap", "spill", "(I)V"⟩ : MethodName)) hown (mvT hZ (hw _ (List.mem_of_getElem? (i := 82) rfl))) (mvT hZ (hw _ (List.mem_of_getElem? (i := 83) rfl))) (mvT hZ (own_selP (y := (⟨"com/example/redelivery/redelivery/RadixHeap", "spill", "(I)V"⟩ : MethodName)) (by decide) (hw _ (List.mem_of_getElem? (i := 6) rfl)) (hw _ (List.mem_of_getElem? (i := 84) rfl)) (hw _ (List.mem_of_getElem? (i := 83) rfl)))) (Cond.privateMethod_at (mvP hZ (hw _ (List.mem_of_getElem? (i := 84) rfl)) (args := #[]))) (mvT hZ (hw _ (List.mem_of_getElem? (i := 85) rfl))) (by decide) (backOf (W := 0) (rm16a l Z a0 hw [] o0 bk ka va sa la tg kf vf sf lf u w z M z.toNatClampNeg h0 n0 Z0 ⟨E0, Fk0, Fv0, Fs0, Fl0, Fu0, Fw0, Fz0, Ak0, Av0, As0, Al0⟩ G0 J0 hbb (own_zN hz0 hzN) hsb hbn) hZ (hw _ (List.mem_of_getElem? (i := 85) rfl)) (hw _ (List.mem_of_getElem? (i := 7) rfl)) (by decide) (by decide)) (g := (mkF m 23 #[.val (.ref o0), .unset] [(.int bk), (.ref o0)])) rfl (by rw [hml]; rfl) (Steps.refl _) (a := o0) (by rw [e4]; exact qv5) qv5' (argsL := [(.int bk)]) (rest := []) (lenOf pd_6 rfl) rfl (by show 2 * 0 + _ ≤ _; exact Nat.le_of_eq rfl) (hb hby d12_23) (fun _ _ => ⟨rfl, e4, (by decide : 0 + 6 ≤ _), (by decide : 0 + 96 ≤ _)⟩)
    dsimp only [Pt.U, Pt.locs, Pt.cells, Pt.slots] at X5 l5 y5 z5 st5 hQ5
    subst l5 y5 z5
    obtain ⟨rfl, N5q, tg5, kf5, vf5, sf5, lf5, u5, w5, R5, G5, J5, hw5a, hw5b, hp5⟩ := hQ5
    obtain ⟨lc5, X5, N5⟩ := own_pack X5 (Fr.app N0 N5q)
    obtain ⟨E5, Fk5, Fv5, Fs5, Fl5, Fu5, Fw5, Fz5, Ak5, Av5, As5, Al5⟩ := R5
    refine Go.step (g' := (mkF m 26 #[.val (.ref o0), .unset] [])) (fun _ k => st5.trans k) ?_
    skip
    have hsy6 : sf5 0 ≠ 0 := hp5
    obtain ⟨xa, xc, g, gv, hka, hvc, t_xa, t_xc, Aa, Ac, hg, hl⟩ := J5.full (b := 0) (by decide) hsy6
    have hle := J5.le (b := 0) (by decide)
    have n_o0_xc : o0 ≠ xc := own_tn G5.1 t_xc (by decide)
    have n_sa_xc : sa ≠ xc := own_tn G5.2.2.2.1 t_xc (by decide)
    refine Go.step (g' := (mkF m 27 #[.val (.ref o0), .unset] [(.ref o0)])) (fun _ k => XS.aloadN X5.here hx rfl (hb hby d12_26) rfl rfl  k) ?_
    obtain ⟨T7, X7, e7, st7⟩ := getF X5 hx hZ hown (host := "") (Or.inl (hw _ (List.mem_of_getElem? (i := 21) rfl))) Via.refl rfl Fs5 (g := (mkF m 27 #[.val (.ref o0), .unset] [(.ref o0)])) rfl rfl (hb hby d12_27)
    refine Go.step (g' := (mkF m 30 #[.val (.ref o0), .unset] [(.ref sa)])) st7 ?_
    refine Go.step (g' := (mkF m 31 #[.val (.ref o0), .unset] [(.int (0 : Int32)), (.ref sa)])) (fun _ k => XS.iconst X7.here hx rfl (hb hby d12_30) k) ?_
    refine Go.step (g' := (mkF m 32 #[.val (.ref o0), .unset] [(.int (0 : Int32)), (.ref sa), (.int (0 : Int32)), (.ref sa)])) (fun _ k => Jvm.Free.XT.dup2 X7.here hx rfl (hb hby d12_31) rfl rfl rfl k) ?_
    refine Go.step (g' := (mkF m 33 #[.val (.ref o0), .unset] [(.int (sf5 (0 : Int32).toNatClampNeg)), (.int (0 : Int32)), (.ref sa)])) (fun _ k => getAI X7 hx hZ e7 As5 (j := (0 : Int32)) (by decide) (gf := (mkF m 32 #[.val (.ref o0), .unset] [(.int (0 : Int32)), (.ref sa), (.int (0 : Int32)), (.ref sa)])) rfl rfl (hb hby d12_32) k) ?_
    generalize hs0 : (sf5 (0 : Int32).toNatClampNeg) = s0
    have hleft := own_left hle hs0 hsy6 (own_zN hz0 hzN) (by decide)
    refine Go.step (g' := (mkF m 34 #[.val (.ref o0), .unset] [(.int (1 : Int32)), (.int s0), (.int (0 : Int32)), (.ref sa)])) (fun _ k => XS.iconst X7.here hx rfl (hb hby d12_33) k) ?_
    refine Go.step (g' := (mkF m 35 #[.val (.ref o0), .unset] [(.int (s0 - (1 : Int32))), (.int (0 : Int32)), (.ref sa)])) (fun _ k => XS.isub X7.here hx rfl (hb hby d12_34) rfl k) ?_
    refine Go.step (g' := (mkF m 36 #[.val (.ref o0), .unset] [(.int (s0 - (1 : Int32))), (.int (0 : Int32)), (.ref sa), (.int (s0 - (1 : Int32)))])) (fun _ k => own_dupx2 X7.here hx rfl (hb hby d12_35) rfl rfl rfl rfl k) ?_
    obtain ⟨T8, h8, lc8, X8, e8, W8, N8, V8, st8⟩ := putAI X7 hx hZ e7 As5 (j := (0 : Int32)) (by decide) N5 g_sa (gf := (mkF m 36 #[.val (.ref o0), .unset] [(.int (s0 - (1 : Int32))), (.int (0 : Int32)), (.ref sa), (.int (s0 - (1 : Int32)))])) rfl rfl (hb hby d12_36)
    refine Go.step (g' := (mkF m 37 #[.val (.ref o0), .unset] [(.int (s0 - (1 : Int32)))])) st8 ?_
    have Q9 := (Nat.le_trans (Nat.le_trans g_o0 (Nat.le_of_lt E5.lt)) (Keep.of_wr W8).1)
    have Q10 := ((Keep.refl T5.heap [o0, sa]).wr W8 (Or.inl (List.mem_of_getElem? (i := 1) rfl)))
    refine Go.step (g' := (mkF m 38 #[.val (.ref o0), .val (.int (s0 - (1 : Int32)))] [])) (fun _ k => XS.istoreN X8.here hx rfl (hb hby d12_37) rfl (l' := #[.val (.ref o0), .val (.int (s0 - (1 : Int32)))]) rfl k) ?_
    refine Go.step (g' := (mkF m 39 #[.val (.ref o0), .val (.int (s0 - (1 : Int32)))] [(.int (s0 - (1 : Int32)))])) (fun _ k => XS.iloadN X8.here hx rfl (hb hby d12_38) rfl  k) ?_
    by_cases hc39d23 : (s0 - (1 : Int32)) = (0 : Int32)
    · skip
      refine Go.step (g' := (mkF m 42 #[.val (.ref o0), .val (.int (s0 - (1 : Int32)))] [])) (fun _ k => XS.ifNo X8.here hx rfl (hb hby d12_39) rfl ((if0 _ _).trans (teq hc39d23).2) k) ?_
      refine Go.step (g' := (mkF m 43 #[.val (.ref o0), .val (.int (s0 - (1 : Int32)))] [(.ref o0)])) (fun _ k => XS.aloadN X8.here hx rfl (hb hby d12_42) rfl rfl  k) ?_
      refine Go.step (g' := (mkF m 44 #[.val (.ref o0), .val (.int (s0 - (1 : Int32)))] [(.ref o0), (.ref o0)])) (fun _ k => XS.dup X8.here hx rfl (hb hby d12_43) rfl rfl k) ?_
      obtain ⟨T11, X11, e11, st11⟩ := getF X8 hx hZ hown (host := "") (Or.inl (hw _ (List.mem_of_getElem? (i := 62) rfl))) Via.refl e8 (Fu5.other W8 (Or.inl n_o0_sa)) (g := (mkF m 44 #[.val (.ref o0), .val (.int (s0 - (1 : Int32)))] [(.ref o0), (.ref o0)])) rfl rfl (hb hby d12_44)
      refine Go.step (g' := (mkF m 47 #[.val (.ref o0), .val (.int (s0 - (1 : Int32)))] [(.long u5), (.ref o0)])) st11 ?_
      refine Go.step (g' := (mkF m 50 #[.val (.ref o0), .val (.int (s0 - (1 : Int32)))] [(.long (-2 : Int64)), (.long u5), (.ref o0)])) (fun _ k => X11.ldc2J hx hown (mvT hZ (hw _ (List.mem_of_getElem? (i := 87) rfl))) rfl (hb hby d12_47) k) ?_
      refine Go.step (g' := (mkF m 51 #[.val (.ref o0), .val (.int (s0 - (1 : Int32)))] [(.long (u5 &&& (-2 : Int64))), (.ref o0)])) (fun _ k => XS.land X11.here hx rfl (hb hby d12_50) rfl k) ?_
      obtain ⟨T12, h12, X12, e12, W12, st12⟩ := putF X11 hx hZ hown (host := "") (Or.inl (hw _ (List.mem_of_getElem? (i := 62) rfl))) Via.refl e11 (Fu5.other W8 (Or.inl n_o0_sa)) (E5.wr W8) (Or.inl (hw _ (List.mem_of_getElem? (i := 63) rfl))) (hw _ (List.mem_of_getElem? (i := 6) rfl)) (ty := .long) (by decide) rfl rfl (g := (mkF m 51 #[.val (.ref o0), .val (.int (s0 - (1 : Int32)))] [(.long (u5 &&& (-2 : Int64))), (.ref o0)])) rfl rfl (hb hby d12_51)
      obtain ⟨lc12, X12, N12⟩ := own_pack X12 (Fr.snoc X12 N8 g_o0)
      have Fw12 := (Fu5.other W8 (Or.inl n_o0_sa)).same W12
      refine Go.step (g' := (mkF m 54 #[.val (.ref o0), .val (.int (s0 - (1 : Int32)))] [])) st12 ?_
      have Q13 := ((Fk5.other W8 (Or.inl n_o0_sa)).other W12 (Or.inr (slot_ne (Or.inr (hw _ (List.mem_of_getElem? (i := 17) rfl))) (Or.inl (hw _ (List.mem_of_getElem? (i := 63) rfl))) (by decide) (t := (.array (.array .long))) (t' := .long) (by decide) (by decide))))
      have Q14 := ((Fv5.other W8 (Or.inl n_o0_sa)).other W12 (Or.inr (slot_ne (Or.inr (hw _ (List.mem_of_getElem? (i := 19) rfl))) (Or.inl (hw _ (List.mem_of_getElem? (i := 63) rfl))) (by decide) (t := (.array (.array .long))) (t' := .long) (by decide) (by decide))))
      have Q15 := ((Fs5.other W8 (Or.inl n_o0_sa)).other W12 (Or.inr (slot_ne (Or.inr (hw _ (List.mem_of_getElem? (i := 22) rfl))) (Or.inl (hw _ (List.mem_of_getElem? (i := 63) rfl))) (by decide) (t := (.array .int)) (t' := .long) (by decide) (by decide))))
      have Q16 := ((Fl5.other W8 (Or.inl n_o0_sa)).other W12 (Or.inr (slot_ne (Or.inr (hw _ (List.mem_of_getElem? (i := 25) rfl))) (Or.inl (hw _ (List.mem_of_getElem? (i := 63) rfl))) (by decide) (t := (.array .long)) (t' := .long) (by decide) (by decide))))
      have Q17 := ((Fw5.other W8 (Or.inl n_o0_sa)).other W12 (Or.inr (slot_ne (Or.inl (hw _ (List.mem_of_getElem? (i := 43) rfl))) (Or.inl (hw _ (List.mem_of_getElem? (i := 63) rfl))) (by decide) (t := .long) (t' := .long) (by decide) (by decide))))
      have Q18 := ((Fz5.other W8 (Or.inl n_o0_sa)).other W12 (Or.inr (slot_ne (Or.inl (hw _ (List.mem_of_getElem? (i := 36) rfl))) (Or.inl (hw _ (List.mem_of_getElem? (i := 63) rfl))) (by decide) (t := .int) (t' := .long) (by decide) (by decide))))
      have Q19 := ((Al5.other W8 (Ne.symm n_sa_la)).other W12 (Ne.symm n_o0_la))
      have Q20 := ((Ac.other W8 (Ne.symm n_sa_xc)).other W12 (Ne.symm n_o0_xc))
      skip
      refine Go.step (g' := (mkF m 55 #[.val (.ref o0), .val (.int (s0 - (1 : Int32)))] [(.ref o0)])) (fun _ k => XS.aloadN X12.here hx rfl (hb hby d12_54) rfl rfl  k) ?_
      refine Go.step (g' := (mkF m 56 #[.val (.ref o0), .val (.int (s0 - (1 : Int32)))] [(.ref o0), (.ref o0)])) (fun _ k => XS.dup X12.here hx rfl (hb hby d12_55) rfl rfl k) ?_
      obtain ⟨T21, X21, e21, st21⟩ := getF X12 hx hZ hown (host := "") (Or.inl (hw _ (List.mem_of_getElem? (i := 35) rfl))) Via.refl e12 Q18 (g := (mkF m 56 #[.val (.ref o0), .val (.int (s0 - (1 : Int32)))] [(.ref o0), (.ref o0)])) rfl rfl (hb hby d12_56)
      refine Go.step (g' := (mkF m 59 #[.val (.ref o0), .val (.int (s0 - (1 : Int32)))] [(.int z), (.ref o0)])) st21 ?_
      refine Go.step (g' := (mkF m 60 #[.val (.ref o0), .val (.int (s0 - (1 : Int32)))] [(.int (1 : Int32)), (.int z), (.ref o0)])) (fun _ k => XS.iconst X21.here hx rfl (hb hby d12_59) k) ?_
      refine Go.step (g' := (mkF m 61 #[.val (.ref o0), .val (.int (s0 - (1 : Int32)))] [(.int (z - (1 : Int32))), (.ref o0)])) (fun _ k => XS.isub X21.here hx rfl (hb hby d12_60) rfl k) ?_
      obtain ⟨T22, h22, X22, e22, W22, st22⟩ := putF X21 hx hZ hown (host := "") (Or.inl (hw _ (List.mem_of_getElem? (i := 35) rfl))) Via.refl e21 Q18 ((E5.wr W8).wr W12) (Or.inl (hw _ (List.mem_of_getElem? (i := 36) rfl))) (hw _ (List.mem_of_getElem? (i := 6) rfl)) (ty := .int) (by decide) rfl rfl (g := (mkF m 61 #[.val (.ref o0), .val (.int (s0 - (1 : Int32)))] [(.int (z - (1 : Int32))), (.ref o0)])) rfl rfl (hb hby d12_61)
      obtain ⟨lc22, X22, N22⟩ := own_pack X22 (Fr.snoc X22 N12 g_o0)
      have Fw22 := Q18.same W22
      refine Go.step (g' := (mkF m 64 #[.val (.ref o0), .val (.int (s0 - (1 : Int32)))] [])) st22 ?_
      have Q23 := (Q13.other W22 (Or.inr (slot_ne (Or.inr (hw _ (List.mem_of_getElem? (i := 17) rfl))) (Or.inl (hw _ (List.mem_of_getElem? (i := 36) rfl))) (by decide) (t := (.array (.array .long))) (t' := .int) (by decide) (by decide))))
      have Q24 := (Q14.other W22 (Or.inr (slot_ne (Or.inr (hw _ (List.mem_of_getElem? (i := 19) rfl))) (Or.inl (hw _ (List.mem_of_getElem? (i := 36) rfl))) (by decide) (t := (.array (.array .long))) (t' := .int) (by decide) (by decide))))
      have Q25 := (Q15.other W22 (Or.inr (slot_ne (Or.inr (hw _ (List.mem_of_getElem? (i := 22) rfl))) (Or.inl (hw _ (List.mem_of_getElem? (i := 36) rfl))) (by decide) (t := (.array .int)) (t' := .int) (by decide) (by decide))))
      have Q26 := (Q16.other W22 (Or.inr (slot_ne (Or.inr (hw _ (List.mem_of_getElem? (i := 25) rfl))) (Or.inl (hw _ (List.mem_of_getElem? (i := 36) rfl))) (by decide) (t := (.array .long)) (t' := .int) (by decide) (by decide))))
      have Q27 := (Q17.other W22 (Or.inr (slot_ne (Or.inl (hw _ (List.mem_of_getElem? (i := 43) rfl))) (Or.inl (hw _ (List.mem_of_getElem? (i := 36) rfl))) (by decide) (t := .long) (t' := .int) (by decide) (by decide))))
      have Q28 := (((Ak5.other W8 n_ka_sa).other W12 (Ne.symm n_o0_ka)).other W22 (Ne.symm n_o0_ka))
      have Q29 := (((Av5.other W8 n_va_sa).other W12 (Ne.symm n_o0_va)).other W22 (Ne.symm n_o0_va))
      have Q30 := ((V8.other W12 (Ne.symm n_o0_sa)).other W22 (Ne.symm n_o0_sa))
      have Q31 := (Fw12.other W22 (Or.inr (slot_ne (Or.inl (hw _ (List.mem_of_getElem? (i := 63) rfl))) (Or.inl (hw _ (List.mem_of_getElem? (i := 36) rfl))) (by decide) (t := .long) (t' := .int) (by decide) (by decide))))
      have Q32 := (Nat.le_trans (Nat.le_trans Q9 (Keep.of_wr W12).1) (Keep.of_wr W22).1)
      have Q33 := ((Q10.wr W12 (Or.inl (List.mem_of_getElem? (i := 0) rfl))).wr W22 (Or.inl (List.mem_of_getElem? (i := 0) rfl)))
      refine Go.step (g' := (mkF m 65 #[.val (.ref o0), .val (.int (s0 - (1 : Int32)))] [(.ref o0)])) (fun _ k => XS.aloadN X22.here hx rfl (hb hby d12_64) rfl rfl  k) ?_
      obtain ⟨T34, X34, e34, st34⟩ := getF X22 hx hZ hown (host := "") (Or.inl (hw _ (List.mem_of_getElem? (i := 18) rfl))) Via.refl e22 Q24 (g := (mkF m 65 #[.val (.ref o0), .val (.int (s0 - (1 : Int32)))] [(.ref o0)])) rfl rfl (hb hby d12_65)
      refine Go.step (g' := (mkF m 68 #[.val (.ref o0), .val (.int (s0 - (1 : Int32)))] [(.ref va)])) st34 ?_
      refine Go.step (g' := (mkF m 69 #[.val (.ref o0), .val (.int (s0 - (1 : Int32)))] [(.int (0 : Int32)), (.ref va)])) (fun _ k => XS.iconst X34.here hx rfl (hb hby d12_68) k) ?_
      refine Go.step (g' := (mkF m 70 #[.val (.ref o0), .val (.int (s0 - (1 : Int32)))] [(.ref xc)])) (fun _ k => getAV X34 hx hZ e34 Q29 (j := (0 : Int32)) (v := (.ref xc)) (by decide) hvc (gf := (mkF m 69 #[.val (.ref o0), .val (.int (s0 - (1 : Int32)))] [(.int (0 : Int32)), (.ref va)])) rfl rfl (hb hby d12_69) k) ?_
      refine Go.step (g' := (mkF m 71 #[.val (.ref o0), .val (.int (s0 - (1 : Int32)))] [(.int (s0 - (1 : Int32))), (.ref xc)])) (fun _ k => XS.iloadN X34.here hx rfl (hb hby d12_70) rfl  k) ?_
      refine Go.step (g' := (mkF m 72 #[.val (.ref o0), .val (.int (s0 - (1 : Int32)))] [(.long (gv (s0 - (1 : Int32)).toNatClampNeg))])) (fun _ k => getAJ X34 hx hZ e34 (Q20.other W22 (Ne.symm n_o0_xc)) (j := (s0 - (1 : Int32))) hleft (gf := (mkF m 71 #[.val (.ref o0), .val (.int (s0 - (1 : Int32)))] [(.int (s0 - (1 : Int32))), (.ref xc)])) rfl rfl (hb hby d12_71) k) ?_
      exact Go.retW X34 hx hlk (t := .long) Bd.returns rfl (Or.inr (Or.inl ⟨rfl, rfl, _, rfl⟩)) (hb hby d12_72) (by decide) (by decide) (by rw [e34]; exact ⟨_, rfl, N22, own_takeEnd ⟨(((E5.wr W8).wr W12).wr W22), Q23, Q24, Q25, Q26, Q31, Q27, Fw22, Q28, Q29, Q30, (Q19.other W22 (Ne.symm n_o0_la))⟩ G5 J5 Q33 (own_ws2 G5) hw5a hw5b hz0 hz1 hs0 hsy6 (Or.inl ⟨hc39d23, rfl⟩) hka hvc t_xa t_xc Aa Ac hg⟩)
    · skip
      refine Go.step (g' := (mkF m 54 #[.val (.ref o0), .val (.int (s0 - (1 : Int32)))] [])) (fun _ k => XS.ifYes X8.here hx rfl (pc0 := 39) (pc' := 54) rfl (hb hby d12_39) rfl ((if0 _ _).trans (feq hc39d23).2) (by decide) (by decide) k) ?_
      refine Go.step (g' := (mkF m 55 #[.val (.ref o0), .val (.int (s0 - (1 : Int32)))] [(.ref o0)])) (fun _ k => XS.aloadN X8.here hx rfl (hb hby d12_54) rfl rfl  k) ?_
      refine Go.step (g' := (mkF m 56 #[.val (.ref o0), .val (.int (s0 - (1 : Int32)))] [(.ref o0), (.ref o0)])) (fun _ k => XS.dup X8.here hx rfl (hb hby d12_55) rfl rfl k) ?_
      obtain ⟨T35, X35, e35, st35⟩ := getF X8 hx hZ hown (host := "") (Or.inl (hw _ (List.mem_of_getElem? (i := 35) rfl))) Via.refl e8 (Fz5.other W8 (Or.inl n_o0_sa)) (g := (mkF m 56 #[.val (.ref o0), .val (.int (s0 - (1 : Int32)))] [(.ref o0), (.ref o0)])) rfl rfl (hb hby d12_56)
      refine Go.step (g' := (mkF m 59 #[.val (.ref o0), .val (.int (s0 - (1 : Int32)))] [(.int z), (.ref o0)])) st35 ?_
      refine Go.step (g' := (mkF m 60 #[.val (.ref o0), .val (.int (s0 - (1 : Int32)))] [(.int (1 : Int32)), (.int z), (.ref o0)])) (fun _ k => XS.iconst X35.here hx rfl (hb hby d12_59) k) ?_
      refine Go.step (g' := (mkF m 61 #[.val (.ref o0), .val (.int (s0 - (1 : Int32)))] [(.int (z - (1 : Int32))), (.ref o0)])) (fun _ k => XS.isub X35.here hx rfl (hb hby d12_60) rfl k) ?_
      obtain ⟨T36, h36, X36, e36, W36, st36⟩ := putF X35 hx hZ hown (host := "") (Or.inl (hw _ (List.mem_of_getElem? (i := 35) rfl))) Via.refl e35 (Fz5.other W8 (Or.inl n_o0_sa)) (E5.wr W8) (Or.inl (hw _ (List.mem_of_getElem? (i := 36) rfl))) (hw _ (List.mem_of_getElem? (i := 6) rfl)) (ty := .int) (by decide) rfl rfl (g := (mkF m 61 #[.val (.ref o0), .val (.int (s0 - (1 : Int32)))] [(.int (z - (1 : Int32))), (.ref o0)])) rfl rfl (hb hby d12_61)
      obtain ⟨lc36, X36, N36⟩ := own_pack X36 (Fr.snoc X36 N8 g_o0)
      have Fw36 := (Fz5.other W8 (Or.inl n_o0_sa)).same W36
      refine Go.step (g' := (mkF m 64 #[.val (.ref o0), .val (.int (s0 - (1 : Int32)))] [])) st36 ?_
      have Q37 := ((Fk5.other W8 (Or.inl n_o0_sa)).other W36 (Or.inr (slot_ne (Or.inr (hw _ (List.mem_of_getElem? (i := 17) rfl))) (Or.inl (hw _ (List.mem_of_getElem? (i := 36) rfl))) (by decide) (t := (.array (.array .long))) (t' := .int) (by decide) (by decide))))
      have Q38 := ((Fv5.other W8 (Or.inl n_o0_sa)).other W36 (Or.inr (slot_ne (Or.inr (hw _ (List.mem_of_getElem? (i := 19) rfl))) (Or.inl (hw _ (List.mem_of_getElem? (i := 36) rfl))) (by decide) (t := (.array (.array .long))) (t' := .int) (by decide) (by decide))))
      have Q39 := ((Fs5.other W8 (Or.inl n_o0_sa)).other W36 (Or.inr (slot_ne (Or.inr (hw _ (List.mem_of_getElem? (i := 22) rfl))) (Or.inl (hw _ (List.mem_of_getElem? (i := 36) rfl))) (by decide) (t := (.array .int)) (t' := .int) (by decide) (by decide))))
      have Q40 := ((Fl5.other W8 (Or.inl n_o0_sa)).other W36 (Or.inr (slot_ne (Or.inr (hw _ (List.mem_of_getElem? (i := 25) rfl))) (Or.inl (hw _ (List.mem_of_getElem? (i := 36) rfl))) (by decide) (t := (.array .long)) (t' := .int) (by decide) (by decide))))
      have Q41 := ((Fu5.other W8 (Or.inl n_o0_sa)).other W36 (Or.inr (slot_ne (Or.inl (hw _ (List.mem_of_getElem? (i := 63) rfl))) (Or.inl (hw _ (List.mem_of_getElem? (i := 36) rfl))) (by decide) (t := .long) (t' := .int) (by decide) (by decide))))
      have Q42 := ((Fw5.other W8 (Or.inl n_o0_sa)).other W36 (Or.inr (slot_ne (Or.inl (hw _ (List.mem_of_getElem? (i := 43) rfl))) (Or.inl (hw _ (List.mem_of_getElem? (i := 36) rfl))) (by decide) (t := .long) (t' := .int) (by decide) (by decide))))
      have Q43 := ((Al5.other W8 (Ne.symm n_sa_la)).other W36 (Ne.symm n_o0_la))
      have Q44 := ((Ac.other W8 (Ne.symm n_sa_xc)).other W36 (Ne.symm n_o0_xc))
      refine Go.step (g' := (mkF m 65 #[.val (.ref o0), .val (.int (s0 - (1 : Int32)))] [(.ref o0)])) (fun _ k => XS.aloadN X36.here hx rfl (hb hby d12_64) rfl rfl  k) ?_
      obtain ⟨T45, X45, e45, st45⟩ := getF X36 hx hZ hown (host := "") (Or.inl (hw _ (List.mem_of_getElem? (i := 18) rfl))) Via.refl e36 Q38 (g := (mkF m 65 #[.val (.ref o0), .val (.int (s0 - (1 : Int32)))] [(.ref o0)])) rfl rfl (hb hby d12_65)
      refine Go.step (g' := (mkF m 68 #[.val (.ref o0), .val (.int (s0 - (1 : Int32)))] [(.ref va)])) st45 ?_
      refine Go.step (g' := (mkF m 69 #[.val (.ref o0), .val (.int (s0 - (1 : Int32)))] [(.int (0 : Int32)), (.ref va)])) (fun _ k => XS.iconst X45.here hx rfl (hb hby d12_68) k) ?_
      refine Go.step (g' := (mkF m 70 #[.val (.ref o0), .val (.int (s0 - (1 : Int32)))] [(.ref xc)])) (fun _ k => getAV X45 hx hZ e45 ((Av5.other W8 n_va_sa).other W36 (Ne.symm n_o0_va)) (j := (0 : Int32)) (v := (.ref xc)) (by decide) hvc (gf := (mkF m 69 #[.val (.ref o0), .val (.int (s0 - (1 : Int32)))] [(.int (0 : Int32)), (.ref va)])) rfl rfl (hb hby d12_69) k) ?_
      refine Go.step (g' := (mkF m 71 #[.val (.ref o0), .val (.int (s0 - (1 : Int32)))] [(.int (s0 - (1 : Int32))), (.ref xc)])) (fun _ k => XS.iloadN X45.here hx rfl (hb hby d12_70) rfl  k) ?_
      refine Go.step (g' := (mkF m 72 #[.val (.ref o0), .val (.int (s0 - (1 : Int32)))] [(.long (gv (s0 - (1 : Int32)).toNatClampNeg))])) (fun _ k => getAJ X45 hx hZ e45 Q44 (j := (s0 - (1 : Int32))) hleft (gf := (mkF m 71 #[.val (.ref o0), .val (.int (s0 - (1 : Int32)))] [(.int (s0 - (1 : Int32))), (.ref xc)])) rfl rfl (hb hby d12_71) k) ?_
      exact Go.retW X45 hx hlk (t := .long) Bd.returns rfl (Or.inr (Or.inl ⟨rfl, rfl, _, rfl⟩)) (hb hby d12_72) (by decide) (by decide) (by rw [e45]; exact ⟨_, rfl, N36, own_takeEnd ⟨((E5.wr W8).wr W36), Q37, Q38, Q39, Q40, Q41, Q42, Fw36, ((Ak5.other W8 n_ka_sa).other W36 (Ne.symm n_o0_ka)), ((Av5.other W8 n_va_sa).other W36 (Ne.symm n_o0_va)), (V8.other W36 (Ne.symm n_o0_sa)), Q43⟩ G5 J5 (Q10.wr W36 (Or.inl (List.mem_of_getElem? (i := 0) rfl))) (own_ws2 G5) hw5a hw5b hz0 hz1 hs0 hsy6 (Or.inr ⟨hc39d23, rfl⟩) hka hvc t_xa t_xc Aa Ac hg⟩)
  · skip
    refine Go.step (g' := (mkF m 26 #[.val (.ref o0), .unset] [])) (fun _ k => XS.ifYes X2.here hx rfl (pc0 := 12) (pc' := 26) rfl (hb hby d12_12) rfl ((if0 _ _).trans (feq hc12).2) (by decide) (by decide) k) ?_
    have hsy46 : sf 0 ≠ 0 := (own_s0 J0 hc12)
    obtain ⟨xa, xc, g, gv, hka, hvc, t_xa, t_xc, Aa, Ac, hg, hl⟩ := J0.full (b := 0) (by decide) hsy46
    have hle := J0.le (b := 0) (by decide)
    have n_o0_xc : o0 ≠ xc := own_tn G0.1 t_xc (by decide)
    have n_sa_xc : sa ≠ xc := own_tn G0.2.2.2.1 t_xc (by decide)
    refine Go.step (g' := (mkF m 27 #[.val (.ref o0), .unset] [(.ref o0)])) (fun _ k => XS.aloadN X2.here hx rfl (hb hby d12_26) rfl rfl  k) ?_
    obtain ⟨T47, X47, e47, st47⟩ := getF X2 hx hZ hown (host := "") (Or.inl (hw _ (List.mem_of_getElem? (i := 21) rfl))) Via.refl e2 Fs0 (g := (mkF m 27 #[.val (.ref o0), .unset] [(.ref o0)])) rfl rfl (hb hby d12_27)
    refine Go.step (g' := (mkF m 30 #[.val (.ref o0), .unset] [(.ref sa)])) st47 ?_
    refine Go.step (g' := (mkF m 31 #[.val (.ref o0), .unset] [(.int (0 : Int32)), (.ref sa)])) (fun _ k => XS.iconst X47.here hx rfl (hb hby d12_30) k) ?_
    refine Go.step (g' := (mkF m 32 #[.val (.ref o0), .unset] [(.int (0 : Int32)), (.ref sa), (.int (0 : Int32)), (.ref sa)])) (fun _ k => Jvm.Free.XT.dup2 X47.here hx rfl (hb hby d12_31) rfl rfl rfl k) ?_
    refine Go.step (g' := (mkF m 33 #[.val (.ref o0), .unset] [(.int (sf (0 : Int32).toNatClampNeg)), (.int (0 : Int32)), (.ref sa)])) (fun _ k => getAI X47 hx hZ e47 As0 (j := (0 : Int32)) (by decide) (gf := (mkF m 32 #[.val (.ref o0), .unset] [(.int (0 : Int32)), (.ref sa), (.int (0 : Int32)), (.ref sa)])) rfl rfl (hb hby d12_32) k) ?_
    generalize hs0 : (sf (0 : Int32).toNatClampNeg) = s0
    have hleft := own_left hle hs0 hsy46 (own_zN hz0 hzN) (by decide)
    refine Go.step (g' := (mkF m 34 #[.val (.ref o0), .unset] [(.int (1 : Int32)), (.int s0), (.int (0 : Int32)), (.ref sa)])) (fun _ k => XS.iconst X47.here hx rfl (hb hby d12_33) k) ?_
    refine Go.step (g' := (mkF m 35 #[.val (.ref o0), .unset] [(.int (s0 - (1 : Int32))), (.int (0 : Int32)), (.ref sa)])) (fun _ k => XS.isub X47.here hx rfl (hb hby d12_34) rfl k) ?_
    refine Go.step (g' := (mkF m 36 #[.val (.ref o0), .unset] [(.int (s0 - (1 : Int32))), (.int (0 : Int32)), (.ref sa), (.int (s0 - (1 : Int32)))])) (fun _ k => own_dupx2 X47.here hx rfl (hb hby d12_35) rfl rfl rfl rfl k) ?_
    obtain ⟨T48, h48, lc48, X48, e48, W48, N48, V48, st48⟩ := putAI X47 hx hZ e47 As0 (j := (0 : Int32)) (by decide) N0 g_sa (gf := (mkF m 36 #[.val (.ref o0), .unset] [(.int (s0 - (1 : Int32))), (.int (0 : Int32)), (.ref sa), (.int (s0 - (1 : Int32)))])) rfl rfl (hb hby d12_36)
    refine Go.step (g' := (mkF m 37 #[.val (.ref o0), .unset] [(.int (s0 - (1 : Int32)))])) st48 ?_
    have Q49 := ((Keep.refl h0 [o0, sa]).wr W48 (Or.inl (List.mem_of_getElem? (i := 1) rfl)))
    refine Go.step (g' := (mkF m 38 #[.val (.ref o0), .val (.int (s0 - (1 : Int32)))] [])) (fun _ k => XS.istoreN X48.here hx rfl (hb hby d12_37) rfl (l' := #[.val (.ref o0), .val (.int (s0 - (1 : Int32)))]) rfl k) ?_
    refine Go.step (g' := (mkF m 39 #[.val (.ref o0), .val (.int (s0 - (1 : Int32)))] [(.int (s0 - (1 : Int32)))])) (fun _ k => XS.iloadN X48.here hx rfl (hb hby d12_38) rfl  k) ?_
    by_cases hc39d12 : (s0 - (1 : Int32)) = (0 : Int32)
    · skip
      refine Go.step (g' := (mkF m 42 #[.val (.ref o0), .val (.int (s0 - (1 : Int32)))] [])) (fun _ k => XS.ifNo X48.here hx rfl (hb hby d12_39) rfl ((if0 _ _).trans (teq hc39d12).2) k) ?_
      refine Go.step (g' := (mkF m 43 #[.val (.ref o0), .val (.int (s0 - (1 : Int32)))] [(.ref o0)])) (fun _ k => XS.aloadN X48.here hx rfl (hb hby d12_42) rfl rfl  k) ?_
      refine Go.step (g' := (mkF m 44 #[.val (.ref o0), .val (.int (s0 - (1 : Int32)))] [(.ref o0), (.ref o0)])) (fun _ k => XS.dup X48.here hx rfl (hb hby d12_43) rfl rfl k) ?_
      obtain ⟨T50, X50, e50, st50⟩ := getF X48 hx hZ hown (host := "") (Or.inl (hw _ (List.mem_of_getElem? (i := 62) rfl))) Via.refl e48 (Fu0.other W48 (Or.inl n_o0_sa)) (g := (mkF m 44 #[.val (.ref o0), .val (.int (s0 - (1 : Int32)))] [(.ref o0), (.ref o0)])) rfl rfl (hb hby d12_44)
      refine Go.step (g' := (mkF m 47 #[.val (.ref o0), .val (.int (s0 - (1 : Int32)))] [(.long u), (.ref o0)])) st50 ?_
      refine Go.step (g' := (mkF m 50 #[.val (.ref o0), .val (.int (s0 - (1 : Int32)))] [(.long (-2 : Int64)), (.long u), (.ref o0)])) (fun _ k => X50.ldc2J hx hown (mvT hZ (hw _ (List.mem_of_getElem? (i := 87) rfl))) rfl (hb hby d12_47) k) ?_
      refine Go.step (g' := (mkF m 51 #[.val (.ref o0), .val (.int (s0 - (1 : Int32)))] [(.long (u &&& (-2 : Int64))), (.ref o0)])) (fun _ k => XS.land X50.here hx rfl (hb hby d12_50) rfl k) ?_
      obtain ⟨T51, h51, X51, e51, W51, st51⟩ := putF X50 hx hZ hown (host := "") (Or.inl (hw _ (List.mem_of_getElem? (i := 62) rfl))) Via.refl e50 (Fu0.other W48 (Or.inl n_o0_sa)) (E0.wr W48) (Or.inl (hw _ (List.mem_of_getElem? (i := 63) rfl))) (hw _ (List.mem_of_getElem? (i := 6) rfl)) (ty := .long) (by decide) rfl rfl (g := (mkF m 51 #[.val (.ref o0), .val (.int (s0 - (1 : Int32)))] [(.long (u &&& (-2 : Int64))), (.ref o0)])) rfl rfl (hb hby d12_51)
      obtain ⟨lc51, X51, N51⟩ := own_pack X51 (Fr.snoc X51 N48 g_o0)
      have Fw51 := (Fu0.other W48 (Or.inl n_o0_sa)).same W51
      refine Go.step (g' := (mkF m 54 #[.val (.ref o0), .val (.int (s0 - (1 : Int32)))] [])) st51 ?_
      have Q52 := ((Fk0.other W48 (Or.inl n_o0_sa)).other W51 (Or.inr (slot_ne (Or.inr (hw _ (List.mem_of_getElem? (i := 17) rfl))) (Or.inl (hw _ (List.mem_of_getElem? (i := 63) rfl))) (by decide) (t := (.array (.array .long))) (t' := .long) (by decide) (by decide))))
      have Q53 := ((Fv0.other W48 (Or.inl n_o0_sa)).other W51 (Or.inr (slot_ne (Or.inr (hw _ (List.mem_of_getElem? (i := 19) rfl))) (Or.inl (hw _ (List.mem_of_getElem? (i := 63) rfl))) (by decide) (t := (.array (.array .long))) (t' := .long) (by decide) (by decide))))
      have Q54 := ((Fs0.other W48 (Or.inl n_o0_sa)).other W51 (Or.inr (slot_ne (Or.inr (hw _ (List.mem_of_getElem? (i := 22) rfl))) (Or.inl (hw _ (List.mem_of_getElem? (i := 63) rfl))) (by decide) (t := (.array .int)) (t' := .long) (by decide) (by decide))))
      have Q55 := ((Fl0.other W48 (Or.inl n_o0_sa)).other W51 (Or.inr (slot_ne (Or.inr (hw _ (List.mem_of_getElem? (i := 25) rfl))) (Or.inl (hw _ (List.mem_of_getElem? (i := 63) rfl))) (by decide) (t := (.array .long)) (t' := .long) (by decide) (by decide))))
      have Q56 := ((Fw0.other W48 (Or.inl n_o0_sa)).other W51 (Or.inr (slot_ne (Or.inl (hw _ (List.mem_of_getElem? (i := 43) rfl))) (Or.inl (hw _ (List.mem_of_getElem? (i := 63) rfl))) (by decide) (t := .long) (t' := .long) (by decide) (by decide))))
      have Q57 := ((Fz0.other W48 (Or.inl n_o0_sa)).other W51 (Or.inr (slot_ne (Or.inl (hw _ (List.mem_of_getElem? (i := 36) rfl))) (Or.inl (hw _ (List.mem_of_getElem? (i := 63) rfl))) (by decide) (t := .int) (t' := .long) (by decide) (by decide))))
      have Q58 := ((Al0.other W48 (Ne.symm n_sa_la)).other W51 (Ne.symm n_o0_la))
      have Q59 := ((Ac.other W48 (Ne.symm n_sa_xc)).other W51 (Ne.symm n_o0_xc))
      have Q60 := (Nat.le_trans (Nat.le_trans Z0 (Keep.of_wr W48).1) (Keep.of_wr W51).1)
      skip
      refine Go.step (g' := (mkF m 55 #[.val (.ref o0), .val (.int (s0 - (1 : Int32)))] [(.ref o0)])) (fun _ k => XS.aloadN X51.here hx rfl (hb hby d12_54) rfl rfl  k) ?_
      refine Go.step (g' := (mkF m 56 #[.val (.ref o0), .val (.int (s0 - (1 : Int32)))] [(.ref o0), (.ref o0)])) (fun _ k => XS.dup X51.here hx rfl (hb hby d12_55) rfl rfl k) ?_
      obtain ⟨T61, X61, e61, st61⟩ := getF X51 hx hZ hown (host := "") (Or.inl (hw _ (List.mem_of_getElem? (i := 35) rfl))) Via.refl e51 Q57 (g := (mkF m 56 #[.val (.ref o0), .val (.int (s0 - (1 : Int32)))] [(.ref o0), (.ref o0)])) rfl rfl (hb hby d12_56)
      refine Go.step (g' := (mkF m 59 #[.val (.ref o0), .val (.int (s0 - (1 : Int32)))] [(.int z), (.ref o0)])) st61 ?_
      refine Go.step (g' := (mkF m 60 #[.val (.ref o0), .val (.int (s0 - (1 : Int32)))] [(.int (1 : Int32)), (.int z), (.ref o0)])) (fun _ k => XS.iconst X61.here hx rfl (hb hby d12_59) k) ?_
      refine Go.step (g' := (mkF m 61 #[.val (.ref o0), .val (.int (s0 - (1 : Int32)))] [(.int (z - (1 : Int32))), (.ref o0)])) (fun _ k => XS.isub X61.here hx rfl (hb hby d12_60) rfl k) ?_
      obtain ⟨T62, h62, X62, e62, W62, st62⟩ := putF X61 hx hZ hown (host := "") (Or.inl (hw _ (List.mem_of_getElem? (i := 35) rfl))) Via.refl e61 Q57 ((E0.wr W48).wr W51) (Or.inl (hw _ (List.mem_of_getElem? (i := 36) rfl))) (hw _ (List.mem_of_getElem? (i := 6) rfl)) (ty := .int) (by decide) rfl rfl (g := (mkF m 61 #[.val (.ref o0), .val (.int (s0 - (1 : Int32)))] [(.int (z - (1 : Int32))), (.ref o0)])) rfl rfl (hb hby d12_61)
      obtain ⟨lc62, X62, N62⟩ := own_pack X62 (Fr.snoc X62 N51 g_o0)
      have Fw62 := Q57.same W62
      refine Go.step (g' := (mkF m 64 #[.val (.ref o0), .val (.int (s0 - (1 : Int32)))] [])) st62 ?_
      have Q63 := (Q52.other W62 (Or.inr (slot_ne (Or.inr (hw _ (List.mem_of_getElem? (i := 17) rfl))) (Or.inl (hw _ (List.mem_of_getElem? (i := 36) rfl))) (by decide) (t := (.array (.array .long))) (t' := .int) (by decide) (by decide))))
      have Q64 := (Q53.other W62 (Or.inr (slot_ne (Or.inr (hw _ (List.mem_of_getElem? (i := 19) rfl))) (Or.inl (hw _ (List.mem_of_getElem? (i := 36) rfl))) (by decide) (t := (.array (.array .long))) (t' := .int) (by decide) (by decide))))
      have Q65 := (Q54.other W62 (Or.inr (slot_ne (Or.inr (hw _ (List.mem_of_getElem? (i := 22) rfl))) (Or.inl (hw _ (List.mem_of_getElem? (i := 36) rfl))) (by decide) (t := (.array .int)) (t' := .int) (by decide) (by decide))))
      have Q66 := (Q55.other W62 (Or.inr (slot_ne (Or.inr (hw _ (List.mem_of_getElem? (i := 25) rfl))) (Or.inl (hw _ (List.mem_of_getElem? (i := 36) rfl))) (by decide) (t := (.array .long)) (t' := .int) (by decide) (by decide))))
      have Q67 := (Q56.other W62 (Or.inr (slot_ne (Or.inl (hw _ (List.mem_of_getElem? (i := 43) rfl))) (Or.inl (hw _ (List.mem_of_getElem? (i := 36) rfl))) (by decide) (t := .long) (t' := .int) (by decide) (by decide))))
      have Q68 := (((Ak0.other W48 n_ka_sa).other W51 (Ne.symm n_o0_ka)).other W62 (Ne.symm n_o0_ka))
      have Q69 := (((Av0.other W48 n_va_sa).other W51 (Ne.symm n_o0_va)).other W62 (Ne.symm n_o0_va))
      have Q70 := ((V48.other W51 (Ne.symm n_o0_sa)).other W62 (Ne.symm n_o0_sa))
      have Q71 := (Fw51.other W62 (Or.inr (slot_ne (Or.inl (hw _ (List.mem_of_getElem? (i := 63) rfl))) (Or.inl (hw _ (List.mem_of_getElem? (i := 36) rfl))) (by decide) (t := .long) (t' := .int) (by decide) (by decide))))
      have Q72 := ((Q49.wr W51 (Or.inl (List.mem_of_getElem? (i := 0) rfl))).wr W62 (Or.inl (List.mem_of_getElem? (i := 0) rfl)))
      refine Go.step (g' := (mkF m 65 #[.val (.ref o0), .val (.int (s0 - (1 : Int32)))] [(.ref o0)])) (fun _ k => XS.aloadN X62.here hx rfl (hb hby d12_64) rfl rfl  k) ?_
      obtain ⟨T73, X73, e73, st73⟩ := getF X62 hx hZ hown (host := "") (Or.inl (hw _ (List.mem_of_getElem? (i := 18) rfl))) Via.refl e62 Q64 (g := (mkF m 65 #[.val (.ref o0), .val (.int (s0 - (1 : Int32)))] [(.ref o0)])) rfl rfl (hb hby d12_65)
      refine Go.step (g' := (mkF m 68 #[.val (.ref o0), .val (.int (s0 - (1 : Int32)))] [(.ref va)])) st73 ?_
      refine Go.step (g' := (mkF m 69 #[.val (.ref o0), .val (.int (s0 - (1 : Int32)))] [(.int (0 : Int32)), (.ref va)])) (fun _ k => XS.iconst X73.here hx rfl (hb hby d12_68) k) ?_
      refine Go.step (g' := (mkF m 70 #[.val (.ref o0), .val (.int (s0 - (1 : Int32)))] [(.ref xc)])) (fun _ k => getAV X73 hx hZ e73 Q69 (j := (0 : Int32)) (v := (.ref xc)) (by decide) hvc (gf := (mkF m 69 #[.val (.ref o0), .val (.int (s0 - (1 : Int32)))] [(.int (0 : Int32)), (.ref va)])) rfl rfl (hb hby d12_69) k) ?_
      refine Go.step (g' := (mkF m 71 #[.val (.ref o0), .val (.int (s0 - (1 : Int32)))] [(.int (s0 - (1 : Int32))), (.ref xc)])) (fun _ k => XS.iloadN X73.here hx rfl (hb hby d12_70) rfl  k) ?_
      refine Go.step (g' := (mkF m 72 #[.val (.ref o0), .val (.int (s0 - (1 : Int32)))] [(.long (gv (s0 - (1 : Int32)).toNatClampNeg))])) (fun _ k => getAJ X73 hx hZ e73 (Q59.other W62 (Ne.symm n_o0_xc)) (j := (s0 - (1 : Int32))) hleft (gf := (mkF m 71 #[.val (.ref o0), .val (.int (s0 - (1 : Int32)))] [(.int (s0 - (1 : Int32))), (.ref xc)])) rfl rfl (hb hby d12_71) k) ?_
      exact Go.retW X73 hx hlk (t := .long) Bd.returns rfl (Or.inr (Or.inl ⟨rfl, rfl, _, rfl⟩)) (hb hby d12_72) (by decide) (by decide) (by rw [e73]; exact ⟨_, rfl, N62, own_takeEnd ⟨(((E0.wr W48).wr W51).wr W62), Q63, Q64, Q65, Q66, Q71, Q67, Fw62, Q68, Q69, Q70, (Q58.other W62 (Ne.symm n_o0_la))⟩ G0 J0 Q72 (own_ws2 G0) hw0 hwM hz0 hz1 hs0 hsy46 (Or.inl ⟨hc39d12, rfl⟩) hka hvc t_xa t_xc Aa Ac hg⟩)
    · skip
      refine Go.step (g' := (mkF m 54 #[.val (.ref o0), .val (.int (s0 - (1 : Int32)))] [])) (fun _ k => XS.ifYes X48.here hx rfl (pc0 := 39) (pc' := 54) rfl (hb hby d12_39) rfl ((if0 _ _).trans (feq hc39d12).2) (by decide) (by decide) k) ?_
      refine Go.step (g' := (mkF m 55 #[.val (.ref o0), .val (.int (s0 - (1 : Int32)))] [(.ref o0)])) (fun _ k => XS.aloadN X48.here hx rfl (hb hby d12_54) rfl rfl  k) ?_
      refine Go.step (g' := (mkF m 56 #[.val (.ref o0), .val (.int (s0 - (1 : Int32)))] [(.ref o0), (.ref o0)])) (fun _ k => XS.dup X48.here hx rfl (hb hby d12_55) rfl rfl k) ?_
      obtain ⟨T74, X74, e74, st74⟩ := getF X48 hx hZ hown (host := "") (Or.inl (hw _ (List.mem_of_getElem? (i := 35) rfl))) Via.refl e48 (Fz0.other W48 (Or.inl n_o0_sa)) (g := (mkF m 56 #[.val (.ref o0), .val (.int (s0 - (1 : Int32)))] [(.ref o0), (.ref o0)])) rfl rfl (hb hby d12_56)
      refine Go.step (g' := (mkF m 59 #[.val (.ref o0), .val (.int (s0 - (1 : Int32)))] [(.int z), (.ref o0)])) st74 ?_
      refine Go.step (g' := (mkF m 60 #[.val (.ref o0), .val (.int (s0 - (1 : Int32)))] [(.int (1 : Int32)), (.int z), (.ref o0)])) (fun _ k => XS.iconst X74.here hx rfl (hb hby d12_59) k) ?_
      refine Go.step (g' := (mkF m 61 #[.val (.ref o0), .val (.int (s0 - (1 : Int32)))] [(.int (z - (1 : Int32))), (.ref o0)])) (fun _ k => XS.isub X74.here hx rfl (hb hby d12_60) rfl k) ?_
      obtain ⟨T75, h75, X75, e75, W75, st75⟩ := putF X74 hx hZ hown (host := "") (Or.inl (hw _ (List.mem_of_getElem? (i := 35) rfl))) Via.refl e74 (Fz0.other W48 (Or.inl n_o0_sa)) (E0.wr W48) (Or.inl (hw _ (List.mem_of_getElem? (i := 36) rfl))) (hw _ (List.mem_of_getElem? (i := 6) rfl)) (ty := .int) (by decide) rfl rfl (g := (mkF m 61 #[.val (.ref o0), .val (.int (s0 - (1 : Int32)))] [(.int (z - (1 : Int32))), (.ref o0)])) rfl rfl (hb hby d12_61)
      obtain ⟨lc75, X75, N75⟩ := own_pack X75 (Fr.snoc X75 N48 g_o0)
      have Fw75 := (Fz0.other W48 (Or.inl n_o0_sa)).same W75
      refine Go.step (g' := (mkF m 64 #[.val (.ref o0), .val (.int (s0 - (1 : Int32)))] [])) st75 ?_
      have Q76 := ((Fk0.other W48 (Or.inl n_o0_sa)).other W75 (Or.inr (slot_ne (Or.inr (hw _ (List.mem_of_getElem? (i := 17) rfl))) (Or.inl (hw _ (List.mem_of_getElem? (i := 36) rfl))) (by decide) (t := (.array (.array .long))) (t' := .int) (by decide) (by decide))))
      have Q77 := ((Fv0.other W48 (Or.inl n_o0_sa)).other W75 (Or.inr (slot_ne (Or.inr (hw _ (List.mem_of_getElem? (i := 19) rfl))) (Or.inl (hw _ (List.mem_of_getElem? (i := 36) rfl))) (by decide) (t := (.array (.array .long))) (t' := .int) (by decide) (by decide))))
      have Q78 := ((Fs0.other W48 (Or.inl n_o0_sa)).other W75 (Or.inr (slot_ne (Or.inr (hw _ (List.mem_of_getElem? (i := 22) rfl))) (Or.inl (hw _ (List.mem_of_getElem? (i := 36) rfl))) (by decide) (t := (.array .int)) (t' := .int) (by decide) (by decide))))
      have Q79 := ((Fl0.other W48 (Or.inl n_o0_sa)).other W75 (Or.inr (slot_ne (Or.inr (hw _ (List.mem_of_getElem? (i := 25) rfl))) (Or.inl (hw _ (List.mem_of_getElem? (i := 36) rfl))) (by decide) (t := (.array .long)) (t' := .int) (by decide) (by decide))))
      have Q80 := ((Fu0.other W48 (Or.inl n_o0_sa)).other W75 (Or.inr (slot_ne (Or.inl (hw _ (List.mem_of_getElem? (i := 63) rfl))) (Or.inl (hw _ (List.mem_of_getElem? (i := 36) rfl))) (by decide) (t := .long) (t' := .int) (by decide) (by decide))))
      have Q81 := ((Fw0.other W48 (Or.inl n_o0_sa)).other W75 (Or.inr (slot_ne (Or.inl (hw _ (List.mem_of_getElem? (i := 43) rfl))) (Or.inl (hw _ (List.mem_of_getElem? (i := 36) rfl))) (by decide) (t := .long) (t' := .int) (by decide) (by decide))))
      have Q82 := ((Al0.other W48 (Ne.symm n_sa_la)).other W75 (Ne.symm n_o0_la))
      have Q83 := ((Ac.other W48 (Ne.symm n_sa_xc)).other W75 (Ne.symm n_o0_xc))
      have Q84 := (Nat.le_trans (Nat.le_trans Z0 (Keep.of_wr W48).1) (Keep.of_wr W75).1)
      refine Go.step (g' := (mkF m 65 #[.val (.ref o0), .val (.int (s0 - (1 : Int32)))] [(.ref o0)])) (fun _ k => XS.aloadN X75.here hx rfl (hb hby d12_64) rfl rfl  k) ?_
      obtain ⟨T85, X85, e85, st85⟩ := getF X75 hx hZ hown (host := "") (Or.inl (hw _ (List.mem_of_getElem? (i := 18) rfl))) Via.refl e75 Q77 (g := (mkF m 65 #[.val (.ref o0), .val (.int (s0 - (1 : Int32)))] [(.ref o0)])) rfl rfl (hb hby d12_65)
      refine Go.step (g' := (mkF m 68 #[.val (.ref o0), .val (.int (s0 - (1 : Int32)))] [(.ref va)])) st85 ?_
      refine Go.step (g' := (mkF m 69 #[.val (.ref o0), .val (.int (s0 - (1 : Int32)))] [(.int (0 : Int32)), (.ref va)])) (fun _ k => XS.iconst X85.here hx rfl (hb hby d12_68) k) ?_
      refine Go.step (g' := (mkF m 70 #[.val (.ref o0), .val (.int (s0 - (1 : Int32)))] [(.ref xc)])) (fun _ k => getAV X85 hx hZ e85 ((Av0.other W48 n_va_sa).other W75 (Ne.symm n_o0_va)) (j := (0 : Int32)) (v := (.ref xc)) (by decide) hvc (gf := (mkF m 69 #[.val (.ref o0), .val (.int (s0 - (1 : Int32)))] [(.int (0 : Int32)), (.ref va)])) rfl rfl (hb hby d12_69) k) ?_
      refine Go.step (g' := (mkF m 71 #[.val (.ref o0), .val (.int (s0 - (1 : Int32)))] [(.int (s0 - (1 : Int32))), (.ref xc)])) (fun _ k => XS.iloadN X85.here hx rfl (hb hby d12_70) rfl  k) ?_
      refine Go.step (g' := (mkF m 72 #[.val (.ref o0), .val (.int (s0 - (1 : Int32)))] [(.long (gv (s0 - (1 : Int32)).toNatClampNeg))])) (fun _ k => getAJ X85 hx hZ e85 Q83 (j := (s0 - (1 : Int32))) hleft (gf := (mkF m 71 #[.val (.ref o0), .val (.int (s0 - (1 : Int32)))] [(.int (s0 - (1 : Int32))), (.ref xc)])) rfl rfl (hb hby d12_71) k) ?_
      exact Go.retW X85 hx hlk (t := .long) Bd.returns rfl (Or.inr (Or.inl ⟨rfl, rfl, _, rfl⟩)) (hb hby d12_72) (by decide) (by decide) (by rw [e85]; exact ⟨_, rfl, N75, own_takeEnd ⟨((E0.wr W48).wr W75), Q76, Q77, Q78, Q79, Q80, Q81, Fw75, ((Ak0.other W48 n_ka_sa).other W75 (Ne.symm n_o0_ka)), ((Av0.other W48 n_va_sa).other W75 (Ne.symm n_o0_va)), (V48.other W75 (Ne.symm n_o0_sa)), Q82⟩ G0 J0 (Q49.wr W75 (Or.inl (List.mem_of_getElem? (i := 0) rfl))) (own_ws2 G0) hw0 hwM hz0 hz1 hs0 hsy46 (Or.inr ⟨hc39d12, rfl⟩) hka hvc t_xa t_xc Aa Ac hg⟩)

set_option maxRecDepth 65536 in
set_option maxHeartbeats 40000000 in
theorem rm12b (l : Launch) (Z : State) (a0 : Array Value) (hw : ∀ d ∈ tables_1, d.before a0 Z = true) (ws : List Jvm.Cond) (o0 : Addr) (z : Int32) (B : Int64) (M : Int64) (h0 : Heap) (n0 : Nat) (Z0 : n0 ≤ h0.size) (RR : RH Z h0 n0 o0 z B M) (hz1 : 1 ≤ z.toInt) (hzN : z.toInt ≤ 4) (hBM : ¬ M < B) :
    MetFree l (⟨"com/example/redelivery/redelivery/RadixHeap", "takeLeast", "()J"⟩ : MethodName) (head1 (Jvm.Cond.code (⟨"com/example/redelivery/redelivery/RadixHeap", "takeLeast", "()J"⟩ : MethodName) prog_23_method_6_code 2 (some .long) :: ws) ({ frames := 4, cells := 8, slots := 128, locals := 61 } : Room)) (fun a U => a = #[(.ref o0)] ∧ Z.Warmed39 U.vm ∧ U.heap = h0) (fun _ _ _ _ _ => True) (fun _ U o U' => ∃ v L, o = .returned v ∧ (QT Z o0 (z - 1) M n0) v U'.heap L ∧ FrameEnd U o U' L ({ frames := 4, cells := 8, slots := 128, locals := 61 } : Room).cells ({ frames := 4, cells := 8, slots := 128, locals := 61 } : Room).slots) := by
  refine MetFree.of_bodySF (plainFor_of_name pn_12) hisR ?_
  intro p e s m args below meth c s₁ Bd hml0 hP hK
  obtain ⟨rfl, hZ, hh⟩ := hP
  have hx := Bd.exec
  have hby := Bd.bytes
  have hlk : meth.locks = false := BodyLoose.notSynchronized Bd
  have hml : c.maxLocals = 2 := hml0
  have hown : s.vm.findClass "com/example/redelivery/redelivery/RadixHeap" = some m.cls := findClass_of_methodNamed Bd.named
  have hnm := (name_of_methodNamed Bd.named Bd.method).1
  have X0 : Stand p l e ({ frames := 4, cells := 8, slots := 128, locals := 61 } : Room) s m #[(.ref o0)] below meth c s₁ ([] : List Loc) 0 0 := Stand.of_body Bd
  have e0 : s₁.heap = h0 := by rw [← hh, Bd.state]; rfl
  show Go p e below s 8 128 (QT Z o0 (z - 1) M n0) s₁ (entryFrame m #[(.ref o0)] 2)
  rw [ef_12 m o0]
  have N0 := Fr.nil n0
  obtain ⟨ka, va, sa, la, tg, kf, vf, sf, lf, u, w, R0, G0, J0, hw0, hwB, hz0⟩ := RR
  obtain ⟨E0, Fk0, Fv0, Fs0, Fl0, Fu0, Fw0, Fz0, Ak0, Av0, As0, Al0⟩ := R0
  have hwM : ¬ M < w := own_wM hwB hBM
  have n_o0_ka : o0 ≠ ka := own_tn G0.1 G0.2.1 (by decide)
  have n_o0_va : o0 ≠ va := own_tn G0.1 G0.2.2.1 (by decide)
  have n_o0_sa : o0 ≠ sa := own_tn G0.1 G0.2.2.2.1 (by decide)
  have n_o0_la : o0 ≠ la := own_tn G0.1 G0.2.2.2.2 (by decide)
  have n_ka_va : ka ≠ va := own_tn G0.2.1 G0.2.2.1 (by decide)
  have n_ka_sa : ka ≠ sa := own_tn G0.2.1 G0.2.2.2.1 (by decide)
  have n_ka_la : ka ≠ la := own_tn G0.2.1 G0.2.2.2.2 (by decide)
  have n_va_sa : va ≠ sa := own_tn G0.2.2.1 G0.2.2.2.1 (by decide)
  have n_va_la : va ≠ la := own_tn G0.2.2.1 G0.2.2.2.2 (by decide)
  have n_sa_la : sa ≠ la := own_tn G0.2.2.2.1 G0.2.2.2.2 (by decide)
  have g_o0 : n0 ≤ o0 := J0.2.2.2.2 _ (by rw [G0.1]; decide)
  have g_ka : n0 ≤ ka := J0.2.2.2.2 _ (by rw [G0.2.1]; decide)
  have g_va : n0 ≤ va := J0.2.2.2.2 _ (by rw [G0.2.2.1]; decide)
  have g_sa : n0 ≤ sa := J0.2.2.2.2 _ (by rw [G0.2.2.2.1]; decide)
  have g_la : n0 ≤ la := J0.2.2.2.2 _ (by rw [G0.2.2.2.2]; decide)
  refine Go.step (g' := (mkF m 1 #[.val (.ref o0), .unset] [(.ref o0)])) (fun _ k => XS.aloadN X0.here hx rfl (hb hby d12_0) rfl rfl  k) ?_
  obtain ⟨cq1, qv1, qv1'⟩ := E0.cell
  obtain ⟨_, _, ⟨T1, L1, k1, n1⟩, -, X1, ⟨Lc1, hQ1, l1, y1, z1⟩, st1⟩ := X0.privateBack hx (y := (⟨"com/example/redelivery/redelivery/RadixHeap", "requireEntry", "()V"⟩ : MethodName)) hown (mvT hZ (hw _ (List.mem_of_getElem? (i := 72) rfl))) (mvT hZ (hw _ (List.mem_of_getElem? (i := 73) rfl))) (mvT hZ (own_selP (y := (⟨"com/example/redelivery/redelivery/RadixHeap", "requireEntry", "()V"⟩ : MethodName)) (by decide) (hw _ (List.mem_of_getElem? (i := 6) rfl)) (hw _ (List.mem_of_getElem? (i := 74) rfl)) (hw _ (List.mem_of_getElem? (i := 73) rfl)))) (Cond.privateMethod_at (mvP hZ (hw _ (List.mem_of_getElem? (i := 74) rfl)) (args := #[]))) (mvT hZ (hw _ (List.mem_of_getElem? (i := 75) rfl))) (by decide) (backOf (W := 0) (rm13 l Z a0 hw [] o0 z h0 Fz0 (own_zne hz1)) hZ (hw _ (List.mem_of_getElem? (i := 75) rfl)) (hw _ (List.mem_of_getElem? (i := 7) rfl)) (by decide) (by decide)) (g := (mkF m 1 #[.val (.ref o0), .unset] [(.ref o0)])) rfl (by rw [hml]; rfl) (Steps.refl _) (a := o0) (by rw [e0]; exact qv1) qv1' (argsL := []) (rest := []) (lenOf pd_5 rfl) rfl (by show 2 * 0 + _ ≤ _; exact Nat.le_of_eq rfl) (hb hby d12_1) (fun _ _ => ⟨rfl, e0, (by decide : 0 + 0 ≤ _), (by decide : 0 + 0 ≤ _)⟩)
  dsimp only [Pt.U, Pt.locs, Pt.cells, Pt.slots] at X1 l1 y1 z1 st1 hQ1
  subst l1 y1 z1
  obtain ⟨rfl, rfl, e1⟩ := hQ1
  try rw [List.append_nil] at X1
  refine Go.step (g' := (mkF m 4 #[.val (.ref o0), .unset] [])) (fun _ k => st1.trans k) ?_
  refine Go.step (g' := (mkF m 5 #[.val (.ref o0), .unset] [(.ref o0)])) (fun _ k => XS.aloadN X1.here hx rfl (hb hby d12_4) rfl rfl  k) ?_
  obtain ⟨T2, X2, e2, st2⟩ := getF X1 hx hZ hown (host := "") (Or.inl (hw _ (List.mem_of_getElem? (i := 62) rfl))) Via.refl e1 Fu0 (g := (mkF m 5 #[.val (.ref o0), .unset] [(.ref o0)])) rfl rfl (hb hby d12_5)
  refine Go.step (g' := (mkF m 8 #[.val (.ref o0), .unset] [(.long u)])) st2 ?_
  refine Go.step (g' := (mkF m 9 #[.val (.ref o0), .unset] [(.long (1 : Int64)), (.long u)])) (fun _ k => XS.lconst X2.here hx rfl (hb hby d12_8) k) ?_
  refine Go.step (g' := (mkF m 10 #[.val (.ref o0), .unset] [(.long (u &&& (1 : Int64)))])) (fun _ k => XS.land X2.here hx rfl (hb hby d12_9) rfl k) ?_
  refine Go.step (g' := (mkF m 11 #[.val (.ref o0), .unset] [(.long (0 : Int64)), (.long (u &&& (1 : Int64)))])) (fun _ k => XS.lconst X2.here hx rfl (hb hby d12_10) k) ?_
  refine Go.step (g' := (mkF m 12 #[.val (.ref o0), .unset] [(.int (lcmpW (u &&& (1 : Int64)) (0 : Int64)))])) (fun _ k => XS.lcmp X2.here hx rfl (hb hby d12_11) rfl k) ?_
  by_cases hc12 : (lcmpW (u &&& (1 : Int64)) (0 : Int64)) = (0 : Int32)
  · skip
    refine Go.step (g' := (mkF m 15 #[.val (.ref o0), .unset] [])) (fun _ k => XS.ifNo X2.here hx rfl (hb hby d12_12) rfl ((if0 _ _).trans (teq hc12).2) k) ?_
    refine Go.step (g' := (mkF m 16 #[.val (.ref o0), .unset] [(.ref o0)])) (fun _ k => XS.aloadN X2.here hx rfl (hb hby d12_15) rfl rfl  k) ?_
    refine Go.step (g' := (mkF m 17 #[.val (.ref o0), .unset] [(.ref o0), (.ref o0)])) (fun _ k => XS.aloadN X2.here hx rfl (hb hby d12_16) rfl rfl  k) ?_
    obtain ⟨T3, X3, e3, st3⟩ := getF X2 hx hZ hown (host := "") (Or.inl (hw _ (List.mem_of_getElem? (i := 62) rfl))) Via.refl e2 Fu0 (g := (mkF m 17 #[.val (.ref o0), .unset] [(.ref o0), (.ref o0)])) rfl rfl (hb hby d12_17)
    refine Go.step (g' := (mkF m 20 #[.val (.ref o0), .unset] [(.long u), (.ref o0)])) st3 ?_
    obtain ⟨_, _, ⟨T4, L4, k4, n4⟩, -, X4, ⟨Lc4, hQ4, l4, y4, z4⟩, st4⟩ := Jvm.LawKit.callS X3 hx (y := (⟨"java/lang/Long", "numberOfTrailingZeros", "(J)I"⟩ : MethodName)) hown (mvT hZ (hw _ (List.mem_of_getElem? (i := 76) rfl))) (mvT hZ (hw _ (List.mem_of_getElem? (i := 77) rfl))) (mvT hZ (hw _ (List.mem_of_getElem? (i := 50) rfl))) (mvT hZ (hw _ (List.mem_of_getElem? (i := 78) rfl))) (by decide) (backOf (W := 1) (rm14 l Z a0 hw [] u h0 ) hZ (hw _ (List.mem_of_getElem? (i := 78) rfl)) (hw _ (List.mem_of_getElem? (i := 50) rfl)) (by decide) (by decide)) (g := (mkF m 20 #[.val (.ref o0), .unset] [(.long u), (.ref o0)])) rfl (by rw [hml]; rfl) (argsL := [(.long u)]) (rest := [(.ref o0)]) (lenOf pd_2 rfl) rfl (by show 2 * 0 + _ ≤ _; exact Nat.le_of_eq rfl) (hb hby d12_20) (fun _ _ => ⟨rfl, e3, (by decide : 0 + 0 ≤ _), (by decide : 0 + 0 ≤ _)⟩)
    dsimp only [Pt.U, Pt.locs, Pt.cells, Pt.slots] at X4 l4 y4 z4 st4 hQ4
    subst l4 y4 z4
    obtain ⟨rfl, rfl, e4⟩ := hQ4
    try rw [List.append_nil] at X4
    refine Go.step (g' := (mkF m 23 #[.val (.ref o0), .unset] [(.int (f14_0 u)), (.ref o0)])) st4 ?_
    generalize hbk : (f14_0 u) = bk
    obtain ⟨hbb, hsb, hbn⟩ := own_pick J0 (own_zpos hz1) hc12
    rw [hbk] at hbb hsb hbn
    obtain ⟨cq5, qv5, qv5'⟩ := E0.cell
    obtain ⟨_, _, ⟨T5, L5, k5, n5⟩, -, X5, ⟨Lc5, hQ5, l5, y5, z5⟩, st5⟩ := X4.privateBack hx (y := (⟨"com/example/redelivery/redelivery/RadixHeap", "spill", "(I)V"⟩ : MethodName)) hown (mvT hZ (hw _ (List.mem_of_getElem? (i := 82) rfl))) (mvT hZ (hw _ (List.mem_of_getElem? (i := 83) rfl))) (mvT hZ (own_selP (y := (⟨"com/example/redelivery/redelivery/RadixHeap", "spill", "(I)V"⟩ : MethodName)) (by decide) (hw _ (List.mem_of_getElem? (i := 6) rfl)) (hw _ (List.mem_of_getElem? (i := 84) rfl)) (hw _ (List.mem_of_getElem? (i := 83) rfl)))) (Cond.privateMethod_at (mvP hZ (hw _ (List.mem_of_getElem? (i := 84) rfl)) (args := #[]))) (mvT hZ (hw _ (List.mem_of_getElem? (i := 85) rfl))) (by decide) (backOf (W := 0) (rm16b l Z a0 hw [] o0 bk ka va sa la tg kf vf sf lf u w z M z.toNatClampNeg h0 n0 Z0 ⟨E0, Fk0, Fv0, Fs0, Fl0, Fu0, Fw0, Fz0, Ak0, Av0, As0, Al0⟩ G0 J0 hbb (own_zN hz0 hzN) hsb hbn) hZ (hw _ (List.mem_of_getElem? (i := 85) rfl)) (hw _ (List.mem_of_getElem? (i := 7) rfl)) (by decide) (by decide)) (g := (mkF m 23 #[.val (.ref o0), .unset] [(.int bk), (.ref o0)])) rfl (by rw [hml]; rfl) (Steps.refl _) (a := o0) (by rw [e4]; exact qv5) qv5' (argsL := [(.int bk)]) (rest := []) (lenOf pd_6 rfl) rfl (by show 2 * 0 + _ ≤ _; exact Nat.le_of_eq rfl) (hb hby d12_23) (fun _ _ => ⟨rfl, e4, (by decide : 0 + 8 ≤ _), (by decide : 0 + 128 ≤ _)⟩)
    dsimp only [Pt.U, Pt.locs, Pt.cells, Pt.slots] at X5 l5 y5 z5 st5 hQ5
    subst l5 y5 z5
    obtain ⟨rfl, N5q, tg5, kf5, vf5, sf5, lf5, u5, w5, R5, G5, J5, hw5a, hw5b, hp5⟩ := hQ5
    obtain ⟨lc5, X5, N5⟩ := own_pack X5 (Fr.app N0 N5q)
    obtain ⟨E5, Fk5, Fv5, Fs5, Fl5, Fu5, Fw5, Fz5, Ak5, Av5, As5, Al5⟩ := R5
    refine Go.step (g' := (mkF m 26 #[.val (.ref o0), .unset] [])) (fun _ k => st5.trans k) ?_
    skip
    have hsy6 : sf5 0 ≠ 0 := hp5
    obtain ⟨xa, xc, g, gv, hka, hvc, t_xa, t_xc, Aa, Ac, hg, hl⟩ := J5.full (b := 0) (by decide) hsy6
    have hle := J5.le (b := 0) (by decide)
    have n_o0_xc : o0 ≠ xc := own_tn G5.1 t_xc (by decide)
    have n_sa_xc : sa ≠ xc := own_tn G5.2.2.2.1 t_xc (by decide)
    refine Go.step (g' := (mkF m 27 #[.val (.ref o0), .unset] [(.ref o0)])) (fun _ k => XS.aloadN X5.here hx rfl (hb hby d12_26) rfl rfl  k) ?_
    obtain ⟨T7, X7, e7, st7⟩ := getF X5 hx hZ hown (host := "") (Or.inl (hw _ (List.mem_of_getElem? (i := 21) rfl))) Via.refl rfl Fs5 (g := (mkF m 27 #[.val (.ref o0), .unset] [(.ref o0)])) rfl rfl (hb hby d12_27)
    refine Go.step (g' := (mkF m 30 #[.val (.ref o0), .unset] [(.ref sa)])) st7 ?_
    refine Go.step (g' := (mkF m 31 #[.val (.ref o0), .unset] [(.int (0 : Int32)), (.ref sa)])) (fun _ k => XS.iconst X7.here hx rfl (hb hby d12_30) k) ?_
    refine Go.step (g' := (mkF m 32 #[.val (.ref o0), .unset] [(.int (0 : Int32)), (.ref sa), (.int (0 : Int32)), (.ref sa)])) (fun _ k => Jvm.Free.XT.dup2 X7.here hx rfl (hb hby d12_31) rfl rfl rfl k) ?_
    refine Go.step (g' := (mkF m 33 #[.val (.ref o0), .unset] [(.int (sf5 (0 : Int32).toNatClampNeg)), (.int (0 : Int32)), (.ref sa)])) (fun _ k => getAI X7 hx hZ e7 As5 (j := (0 : Int32)) (by decide) (gf := (mkF m 32 #[.val (.ref o0), .unset] [(.int (0 : Int32)), (.ref sa), (.int (0 : Int32)), (.ref sa)])) rfl rfl (hb hby d12_32) k) ?_
    generalize hs0 : (sf5 (0 : Int32).toNatClampNeg) = s0
    have hleft := own_left hle hs0 hsy6 (own_zN hz0 hzN) (by decide)
    refine Go.step (g' := (mkF m 34 #[.val (.ref o0), .unset] [(.int (1 : Int32)), (.int s0), (.int (0 : Int32)), (.ref sa)])) (fun _ k => XS.iconst X7.here hx rfl (hb hby d12_33) k) ?_
    refine Go.step (g' := (mkF m 35 #[.val (.ref o0), .unset] [(.int (s0 - (1 : Int32))), (.int (0 : Int32)), (.ref sa)])) (fun _ k => XS.isub X7.here hx rfl (hb hby d12_34) rfl k) ?_
    refine Go.step (g' := (mkF m 36 #[.val (.ref o0), .unset] [(.int (s0 - (1 : Int32))), (.int (0 : Int32)), (.ref sa), (.int (s0 - (1 : Int32)))])) (fun _ k => own_dupx2 X7.here hx rfl (hb hby d12_35) rfl rfl rfl rfl k) ?_
    obtain ⟨T8, h8, lc8, X8, e8, W8, N8, V8, st8⟩ := putAI X7 hx hZ e7 As5 (j := (0 : Int32)) (by decide) N5 g_sa (gf := (mkF m 36 #[.val (.ref o0), .unset] [(.int (s0 - (1 : Int32))), (.int (0 : Int32)), (.ref sa), (.int (s0 - (1 : Int32)))])) rfl rfl (hb hby d12_36)
    refine Go.step (g' := (mkF m 37 #[.val (.ref o0), .unset] [(.int (s0 - (1 : Int32)))])) st8 ?_
    have Q9 := (Nat.le_trans (Nat.le_trans g_o0 (Nat.le_of_lt E5.lt)) (Keep.of_wr W8).1)
    have Q10 := ((Keep.refl T5.heap [o0, sa]).wr W8 (Or.inl (List.mem_of_getElem? (i := 1) rfl)))
    refine Go.step (g' := (mkF m 38 #[.val (.ref o0), .val (.int (s0 - (1 : Int32)))] [])) (fun _ k => XS.istoreN X8.here hx rfl (hb hby d12_37) rfl (l' := #[.val (.ref o0), .val (.int (s0 - (1 : Int32)))]) rfl k) ?_
    refine Go.step (g' := (mkF m 39 #[.val (.ref o0), .val (.int (s0 - (1 : Int32)))] [(.int (s0 - (1 : Int32)))])) (fun _ k => XS.iloadN X8.here hx rfl (hb hby d12_38) rfl  k) ?_
    by_cases hc39d23 : (s0 - (1 : Int32)) = (0 : Int32)
    · skip
      refine Go.step (g' := (mkF m 42 #[.val (.ref o0), .val (.int (s0 - (1 : Int32)))] [])) (fun _ k => XS.ifNo X8.here hx rfl (hb hby d12_39) rfl ((if0 _ _).trans (teq hc39d23).2) k) ?_
      refine Go.step (g' := (mkF m 43 #[.val (.ref o0), .val (.int (s0 - (1 : Int32)))] [(.ref o0)])) (fun _ k => XS.aloadN X8.here hx rfl (hb hby d12_42) rfl rfl  k) ?_
      refine Go.step (g' := (mkF m 44 #[.val (.ref o0), .val (.int (s0 - (1 : Int32)))] [(.ref o0), (.ref o0)])) (fun _ k => XS.dup X8.here hx rfl (hb hby d12_43) rfl rfl k) ?_
      obtain ⟨T11, X11, e11, st11⟩ := getF X8 hx hZ hown (host := "") (Or.inl (hw _ (List.mem_of_getElem? (i := 62) rfl))) Via.refl e8 (Fu5.other W8 (Or.inl n_o0_sa)) (g := (mkF m 44 #[.val (.ref o0), .val (.int (s0 - (1 : Int32)))] [(.ref o0), (.ref o0)])) rfl rfl (hb hby d12_44)
      refine Go.step (g' := (mkF m 47 #[.val (.ref o0), .val (.int (s0 - (1 : Int32)))] [(.long u5), (.ref o0)])) st11 ?_
      refine Go.step (g' := (mkF m 50 #[.val (.ref o0), .val (.int (s0 - (1 : Int32)))] [(.long (-2 : Int64)), (.long u5), (.ref o0)])) (fun _ k => X11.ldc2J hx hown (mvT hZ (hw _ (List.mem_of_getElem? (i := 87) rfl))) rfl (hb hby d12_47) k) ?_
      refine Go.step (g' := (mkF m 51 #[.val (.ref o0), .val (.int (s0 - (1 : Int32)))] [(.long (u5 &&& (-2 : Int64))), (.ref o0)])) (fun _ k => XS.land X11.here hx rfl (hb hby d12_50) rfl k) ?_
      obtain ⟨T12, h12, X12, e12, W12, st12⟩ := putF X11 hx hZ hown (host := "") (Or.inl (hw _ (List.mem_of_getElem? (i := 62) rfl))) Via.refl e11 (Fu5.other W8 (Or.inl n_o0_sa)) (E5.wr W8) (Or.inl (hw _ (List.mem_of_getElem? (i := 63) rfl))) (hw _ (List.mem_of_getElem? (i := 6) rfl)) (ty := .long) (by decide) rfl rfl (g := (mkF m 51 #[.val (.ref o0), .val (.int (s0 - (1 : Int32)))] [(.long (u5 &&& (-2 : Int64))), (.ref o0)])) rfl rfl (hb hby d12_51)
      obtain ⟨lc12, X12, N12⟩ := own_pack X12 (Fr.snoc X12 N8 g_o0)
      have Fw12 := (Fu5.other W8 (Or.inl n_o0_sa)).same W12
      refine Go.step (g' := (mkF m 54 #[.val (.ref o0), .val (.int (s0 - (1 : Int32)))] [])) st12 ?_
      have Q13 := ((Fk5.other W8 (Or.inl n_o0_sa)).other W12 (Or.inr (slot_ne (Or.inr (hw _ (List.mem_of_getElem? (i := 17) rfl))) (Or.inl (hw _ (List.mem_of_getElem? (i := 63) rfl))) (by decide) (t := (.array (.array .long))) (t' := .long) (by decide) (by decide))))
      have Q14 := ((Fv5.other W8 (Or.inl n_o0_sa)).other W12 (Or.inr (slot_ne (Or.inr (hw _ (List.mem_of_getElem? (i := 19) rfl))) (Or.inl (hw _ (List.mem_of_getElem? (i := 63) rfl))) (by decide) (t := (.array (.array .long))) (t' := .long) (by decide) (by decide))))
      have Q15 := ((Fs5.other W8 (Or.inl n_o0_sa)).other W12 (Or.inr (slot_ne (Or.inr (hw _ (List.mem_of_getElem? (i := 22) rfl))) (Or.inl (hw _ (List.mem_of_getElem? (i := 63) rfl))) (by decide) (t := (.array .int)) (t' := .long) (by decide) (by decide))))
      have Q16 := ((Fl5.other W8 (Or.inl n_o0_sa)).other W12 (Or.inr (slot_ne (Or.inr (hw _ (List.mem_of_getElem? (i := 25) rfl))) (Or.inl (hw _ (List.mem_of_getElem? (i := 63) rfl))) (by decide) (t := (.array .long)) (t' := .long) (by decide) (by decide))))
      have Q17 := ((Fw5.other W8 (Or.inl n_o0_sa)).other W12 (Or.inr (slot_ne (Or.inl (hw _ (List.mem_of_getElem? (i := 43) rfl))) (Or.inl (hw _ (List.mem_of_getElem? (i := 63) rfl))) (by decide) (t := .long) (t' := .long) (by decide) (by decide))))
      have Q18 := ((Fz5.other W8 (Or.inl n_o0_sa)).other W12 (Or.inr (slot_ne (Or.inl (hw _ (List.mem_of_getElem? (i := 36) rfl))) (Or.inl (hw _ (List.mem_of_getElem? (i := 63) rfl))) (by decide) (t := .int) (t' := .long) (by decide) (by decide))))
      have Q19 := ((Al5.other W8 (Ne.symm n_sa_la)).other W12 (Ne.symm n_o0_la))
      have Q20 := ((Ac.other W8 (Ne.symm n_sa_xc)).other W12 (Ne.symm n_o0_xc))
      skip
      refine Go.step (g' := (mkF m 55 #[.val (.ref o0), .val (.int (s0 - (1 : Int32)))] [(.ref o0)])) (fun _ k => XS.aloadN X12.here hx rfl (hb hby d12_54) rfl rfl  k) ?_
      refine Go.step (g' := (mkF m 56 #[.val (.ref o0), .val (.int (s0 - (1 : Int32)))] [(.ref o0), (.ref o0)])) (fun _ k => XS.dup X12.here hx rfl (hb hby d12_55) rfl rfl k) ?_
      obtain ⟨T21, X21, e21, st21⟩ := getF X12 hx hZ hown (host := "") (Or.inl (hw _ (List.mem_of_getElem? (i := 35) rfl))) Via.refl e12 Q18 (g := (mkF m 56 #[.val (.ref o0), .val (.int (s0 - (1 : Int32)))] [(.ref o0), (.ref o0)])) rfl rfl (hb hby d12_56)
      refine Go.step (g' := (mkF m 59 #[.val (.ref o0), .val (.int (s0 - (1 : Int32)))] [(.int z), (.ref o0)])) st21 ?_
      refine Go.step (g' := (mkF m 60 #[.val (.ref o0), .val (.int (s0 - (1 : Int32)))] [(.int (1 : Int32)), (.int z), (.ref o0)])) (fun _ k => XS.iconst X21.here hx rfl (hb hby d12_59) k) ?_
      refine Go.step (g' := (mkF m 61 #[.val (.ref o0), .val (.int (s0 - (1 : Int32)))] [(.int (z - (1 : Int32))), (.ref o0)])) (fun _ k => XS.isub X21.here hx rfl (hb hby d12_60) rfl k) ?_
      obtain ⟨T22, h22, X22, e22, W22, st22⟩ := putF X21 hx hZ hown (host := "") (Or.inl (hw _ (List.mem_of_getElem? (i := 35) rfl))) Via.refl e21 Q18 ((E5.wr W8).wr W12) (Or.inl (hw _ (List.mem_of_getElem? (i := 36) rfl))) (hw _ (List.mem_of_getElem? (i := 6) rfl)) (ty := .int) (by decide) rfl rfl (g := (mkF m 61 #[.val (.ref o0), .val (.int (s0 - (1 : Int32)))] [(.int (z - (1 : Int32))), (.ref o0)])) rfl rfl (hb hby d12_61)
      obtain ⟨lc22, X22, N22⟩ := own_pack X22 (Fr.snoc X22 N12 g_o0)
      have Fw22 := Q18.same W22
      refine Go.step (g' := (mkF m 64 #[.val (.ref o0), .val (.int (s0 - (1 : Int32)))] [])) st22 ?_
      have Q23 := (Q13.other W22 (Or.inr (slot_ne (Or.inr (hw _ (List.mem_of_getElem? (i := 17) rfl))) (Or.inl (hw _ (List.mem_of_getElem? (i := 36) rfl))) (by decide) (t := (.array (.array .long))) (t' := .int) (by decide) (by decide))))
      have Q24 := (Q14.other W22 (Or.inr (slot_ne (Or.inr (hw _ (List.mem_of_getElem? (i := 19) rfl))) (Or.inl (hw _ (List.mem_of_getElem? (i := 36) rfl))) (by decide) (t := (.array (.array .long))) (t' := .int) (by decide) (by decide))))
      have Q25 := (Q15.other W22 (Or.inr (slot_ne (Or.inr (hw _ (List.mem_of_getElem? (i := 22) rfl))) (Or.inl (hw _ (List.mem_of_getElem? (i := 36) rfl))) (by decide) (t := (.array .int)) (t' := .int) (by decide) (by decide))))
      have Q26 := (Q16.other W22 (Or.inr (slot_ne (Or.inr (hw _ (List.mem_of_getElem? (i := 25) rfl))) (Or.inl (hw _ (List.mem_of_getElem? (i := 36) rfl))) (by decide) (t := (.array .long)) (t' := .int) (by decide) (by decide))))
      have Q27 := (Q17.other W22 (Or.inr (slot_ne (Or.inl (hw _ (List.mem_of_getElem? (i := 43) rfl))) (Or.inl (hw _ (List.mem_of_getElem? (i := 36) rfl))) (by decide) (t := .long) (t' := .int) (by decide) (by decide))))
      have Q28 := (((Ak5.other W8 n_ka_sa).other W12 (Ne.symm n_o0_ka)).other W22 (Ne.symm n_o0_ka))
      have Q29 := (((Av5.other W8 n_va_sa).other W12 (Ne.symm n_o0_va)).other W22 (Ne.symm n_o0_va))
      have Q30 := ((V8.other W12 (Ne.symm n_o0_sa)).other W22 (Ne.symm n_o0_sa))
      have Q31 := (Fw12.other W22 (Or.inr (slot_ne (Or.inl (hw _ (List.mem_of_getElem? (i := 63) rfl))) (Or.inl (hw _ (List.mem_of_getElem? (i := 36) rfl))) (by decide) (t := .long) (t' := .int) (by decide) (by decide))))
      have Q32 := (Nat.le_trans (Nat.le_trans Q9 (Keep.of_wr W12).1) (Keep.of_wr W22).1)
      have Q33 := ((Q10.wr W12 (Or.inl (List.mem_of_getElem? (i := 0) rfl))).wr W22 (Or.inl (List.mem_of_getElem? (i := 0) rfl)))
      refine Go.step (g' := (mkF m 65 #[.val (.ref o0), .val (.int (s0 - (1 : Int32)))] [(.ref o0)])) (fun _ k => XS.aloadN X22.here hx rfl (hb hby d12_64) rfl rfl  k) ?_
      obtain ⟨T34, X34, e34, st34⟩ := getF X22 hx hZ hown (host := "") (Or.inl (hw _ (List.mem_of_getElem? (i := 18) rfl))) Via.refl e22 Q24 (g := (mkF m 65 #[.val (.ref o0), .val (.int (s0 - (1 : Int32)))] [(.ref o0)])) rfl rfl (hb hby d12_65)
      refine Go.step (g' := (mkF m 68 #[.val (.ref o0), .val (.int (s0 - (1 : Int32)))] [(.ref va)])) st34 ?_
      refine Go.step (g' := (mkF m 69 #[.val (.ref o0), .val (.int (s0 - (1 : Int32)))] [(.int (0 : Int32)), (.ref va)])) (fun _ k => XS.iconst X34.here hx rfl (hb hby d12_68) k) ?_
      refine Go.step (g' := (mkF m 70 #[.val (.ref o0), .val (.int (s0 - (1 : Int32)))] [(.ref xc)])) (fun _ k => getAV X34 hx hZ e34 Q29 (j := (0 : Int32)) (v := (.ref xc)) (by decide) hvc (gf := (mkF m 69 #[.val (.ref o0), .val (.int (s0 - (1 : Int32)))] [(.int (0 : Int32)), (.ref va)])) rfl rfl (hb hby d12_69) k) ?_
      refine Go.step (g' := (mkF m 71 #[.val (.ref o0), .val (.int (s0 - (1 : Int32)))] [(.int (s0 - (1 : Int32))), (.ref xc)])) (fun _ k => XS.iloadN X34.here hx rfl (hb hby d12_70) rfl  k) ?_
      refine Go.step (g' := (mkF m 72 #[.val (.ref o0), .val (.int (s0 - (1 : Int32)))] [(.long (gv (s0 - (1 : Int32)).toNatClampNeg))])) (fun _ k => getAJ X34 hx hZ e34 (Q20.other W22 (Ne.symm n_o0_xc)) (j := (s0 - (1 : Int32))) hleft (gf := (mkF m 71 #[.val (.ref o0), .val (.int (s0 - (1 : Int32)))] [(.int (s0 - (1 : Int32))), (.ref xc)])) rfl rfl (hb hby d12_71) k) ?_
      exact Go.retW X34 hx hlk (t := .long) Bd.returns rfl (Or.inr (Or.inl ⟨rfl, rfl, _, rfl⟩)) (hb hby d12_72) (by decide) (by decide) (by rw [e34]; exact ⟨_, rfl, N22, own_takeEnd ⟨(((E5.wr W8).wr W12).wr W22), Q23, Q24, Q25, Q26, Q31, Q27, Fw22, Q28, Q29, Q30, (Q19.other W22 (Ne.symm n_o0_la))⟩ G5 J5 Q33 (own_ws2 G5) hw5a hw5b hz0 hz1 hs0 hsy6 (Or.inl ⟨hc39d23, rfl⟩) hka hvc t_xa t_xc Aa Ac hg⟩)
    · skip
      refine Go.step (g' := (mkF m 54 #[.val (.ref o0), .val (.int (s0 - (1 : Int32)))] [])) (fun _ k => XS.ifYes X8.here hx rfl (pc0 := 39) (pc' := 54) rfl (hb hby d12_39) rfl ((if0 _ _).trans (feq hc39d23).2) (by decide) (by decide) k) ?_
      refine Go.step (g' := (mkF m 55 #[.val (.ref o0), .val (.int (s0 - (1 : Int32)))] [(.ref o0)])) (fun _ k => XS.aloadN X8.here hx rfl (hb hby d12_54) rfl rfl  k) ?_
      refine Go.step (g' := (mkF m 56 #[.val (.ref o0), .val (.int (s0 - (1 : Int32)))] [(.ref o0), (.ref o0)])) (fun _ k => XS.dup X8.here hx rfl (hb hby d12_55) rfl rfl k) ?_
      obtain ⟨T35, X35, e35, st35⟩ := getF X8 hx hZ hown (host := "") (Or.inl (hw _ (List.mem_of_getElem? (i := 35) rfl))) Via.refl e8 (Fz5.other W8 (Or.inl n_o0_sa)) (g := (mkF m 56 #[.val (.ref o0), .val (.int (s0 - (1 : Int32)))] [(.ref o0), (.ref o0)])) rfl rfl (hb hby d12_56)
      refine Go.step (g' := (mkF m 59 #[.val (.ref o0), .val (.int (s0 - (1 : Int32)))] [(.int z), (.ref o0)])) st35 ?_
      refine Go.step (g' := (mkF m 60 #[.val (.ref o0), .val (.int (s0 - (1 : Int32)))] [(.int (1 : Int32)), (.int z), (.ref o0)])) (fun _ k => XS.iconst X35.here hx rfl (hb hby d12_59) k) ?_
      refine Go.step (g' := (mkF m 61 #[.val (.ref o0), .val (.int (s0 - (1 : Int32)))] [(.int (z - (1 : Int32))), (.ref o0)])) (fun _ k => XS.isub X35.here hx rfl (hb hby d12_60) rfl k) ?_
      obtain ⟨T36, h36, X36, e36, W36, st36⟩ := putF X35 hx hZ hown (host := "") (Or.inl (hw _ (List.mem_of_getElem? (i := 35) rfl))) Via.refl e35 (Fz5.other W8 (Or.inl n_o0_sa)) (E5.wr W8) (Or.inl (hw _ (List.mem_of_getElem? (i := 36) rfl))) (hw _ (List.mem_of_getElem? (i := 6) rfl)) (ty := .int) (by decide) rfl rfl (g := (mkF m 61 #[.val (.ref o0), .val (.int (s0 - (1 : Int32)))] [(.int (z - (1 : Int32))), (.ref o0)])) rfl rfl (hb hby d12_61)
      obtain ⟨lc36, X36, N36⟩ := own_pack X36 (Fr.snoc X36 N8 g_o0)
      have Fw36 := (Fz5.other W8 (Or.inl n_o0_sa)).same W36
      refine Go.step (g' := (mkF m 64 #[.val (.ref o0), .val (.int (s0 - (1 : Int32)))] [])) st36 ?_
      have Q37 := ((Fk5.other W8 (Or.inl n_o0_sa)).other W36 (Or.inr (slot_ne (Or.inr (hw _ (List.mem_of_getElem? (i := 17) rfl))) (Or.inl (hw _ (List.mem_of_getElem? (i := 36) rfl))) (by decide) (t := (.array (.array .long))) (t' := .int) (by decide) (by decide))))
      have Q38 := ((Fv5.other W8 (Or.inl n_o0_sa)).other W36 (Or.inr (slot_ne (Or.inr (hw _ (List.mem_of_getElem? (i := 19) rfl))) (Or.inl (hw _ (List.mem_of_getElem? (i := 36) rfl))) (by decide) (t := (.array (.array .long))) (t' := .int) (by decide) (by decide))))
      have Q39 := ((Fs5.other W8 (Or.inl n_o0_sa)).other W36 (Or.inr (slot_ne (Or.inr (hw _ (List.mem_of_getElem? (i := 22) rfl))) (Or.inl (hw _ (List.mem_of_getElem? (i := 36) rfl))) (by decide) (t := (.array .int)) (t' := .int) (by decide) (by decide))))
      have Q40 := ((Fl5.other W8 (Or.inl n_o0_sa)).other W36 (Or.inr (slot_ne (Or.inr (hw _ (List.mem_of_getElem? (i := 25) rfl))) (Or.inl (hw _ (List.mem_of_getElem? (i := 36) rfl))) (by decide) (t := (.array .long)) (t' := .int) (by decide) (by decide))))
      have Q41 := ((Fu5.other W8 (Or.inl n_o0_sa)).other W36 (Or.inr (slot_ne (Or.inl (hw _ (List.mem_of_getElem? (i := 63) rfl))) (Or.inl (hw _ (List.mem_of_getElem? (i := 36) rfl))) (by decide) (t := .long) (t' := .int) (by decide) (by decide))))
      have Q42 := ((Fw5.other W8 (Or.inl n_o0_sa)).other W36 (Or.inr (slot_ne (Or.inl (hw _ (List.mem_of_getElem? (i := 43) rfl))) (Or.inl (hw _ (List.mem_of_getElem? (i := 36) rfl))) (by decide) (t := .long) (t' := .int) (by decide) (by decide))))
      have Q43 := ((Al5.other W8 (Ne.symm n_sa_la)).other W36 (Ne.symm n_o0_la))
      have Q44 := ((Ac.other W8 (Ne.symm n_sa_xc)).other W36 (Ne.symm n_o0_xc))
      refine Go.step (g' := (mkF m 65 #[.val (.ref o0), .val (.int (s0 - (1 : Int32)))] [(.ref o0)])) (fun _ k => XS.aloadN X36.here hx rfl (hb hby d12_64) rfl rfl  k) ?_
      obtain ⟨T45, X45, e45, st45⟩ := getF X36 hx hZ hown (host := "") (Or.inl (hw _ (List.mem_of_getElem? (i := 18) rfl))) Via.refl e36 Q38 (g := (mkF m 65 #[.val (.ref o0), .val (.int (s0 - (1 : Int32)))] [(.ref o0)])) rfl rfl (hb hby d12_65)
      refine Go.step (g' := (mkF m 68 #[.val (.ref o0), .val (.int (s0 - (1 : Int32)))] [(.ref va)])) st45 ?_
      refine Go.step (g' := (mkF m 69 #[.val (.ref o0), .val (.int (s0 - (1 : Int32)))] [(.int (0 : Int32)), (.ref va)])) (fun _ k => XS.iconst X45.here hx rfl (hb hby d12_68) k) ?_
      refine Go.step (g' := (mkF m 70 #[.val (.ref o0), .val (.int (s0 - (1 : Int32)))] [(.ref xc)])) (fun _ k => getAV X45 hx hZ e45 ((Av5.other W8 n_va_sa).other W36 (Ne.symm n_o0_va)) (j := (0 : Int32)) (v := (.ref xc)) (by decide) hvc (gf := (mkF m 69 #[.val (.ref o0), .val (.int (s0 - (1 : Int32)))] [(.int (0 : Int32)), (.ref va)])) rfl rfl (hb hby d12_69) k) ?_
      refine Go.step (g' := (mkF m 71 #[.val (.ref o0), .val (.int (s0 - (1 : Int32)))] [(.int (s0 - (1 : Int32))), (.ref xc)])) (fun _ k => XS.iloadN X45.here hx rfl (hb hby d12_70) rfl  k) ?_
      refine Go.step (g' := (mkF m 72 #[.val (.ref o0), .val (.int (s0 - (1 : Int32)))] [(.long (gv (s0 - (1 : Int32)).toNatClampNeg))])) (fun _ k => getAJ X45 hx hZ e45 Q44 (j := (s0 - (1 : Int32))) hleft (gf := (mkF m 71 #[.val (.ref o0), .val (.int (s0 - (1 : Int32)))] [(.int (s0 - (1 : Int32))), (.ref xc)])) rfl rfl (hb hby d12_71) k) ?_
      exact Go.retW X45 hx hlk (t := .long) Bd.returns rfl (Or.inr (Or.inl ⟨rfl, rfl, _, rfl⟩)) (hb hby d12_72) (by decide) (by decide) (by rw [e45]; exact ⟨_, rfl, N36, own_takeEnd ⟨((E5.wr W8).wr W36), Q37, Q38, Q39, Q40, Q41, Q42, Fw36, ((Ak5.other W8 n_ka_sa).other W36 (Ne.symm n_o0_ka)), ((Av5.other W8 n_va_sa).other W36 (Ne.symm n_o0_va)), (V8.other W36 (Ne.symm n_o0_sa)), Q43⟩ G5 J5 (Q10.wr W36 (Or.inl (List.mem_of_getElem? (i := 0) rfl))) (own_ws2 G5) hw5a hw5b hz0 hz1 hs0 hsy6 (Or.inr ⟨hc39d23, rfl⟩) hka hvc t_xa t_xc Aa Ac hg⟩)
  · skip
    refine Go.step (g' := (mkF m 26 #[.val (.ref o0), .unset] [])) (fun _ k => XS.ifYes X2.here hx rfl (pc0 := 12) (pc' := 26) rfl (hb hby d12_12) rfl ((if0 _ _).trans (feq hc12).2) (by decide) (by decide) k) ?_
    have hsy46 : sf 0 ≠ 0 := (own_s0 J0 hc12)
    obtain ⟨xa, xc, g, gv, hka, hvc, t_xa, t_xc, Aa, Ac, hg, hl⟩ := J0.full (b := 0) (by decide) hsy46
    have hle := J0.le (b := 0) (by decide)
    have n_o0_xc : o0 ≠ xc := own_tn G0.1 t_xc (by decide)
    have n_sa_xc : sa ≠ xc := own_tn G0.2.2.2.1 t_xc (by decide)
    refine Go.step (g' := (mkF m 27 #[.val (.ref o0), .unset] [(.ref o0)])) (fun _ k => XS.aloadN X2.here hx rfl (hb hby d12_26) rfl rfl  k) ?_
    obtain ⟨T47, X47, e47, st47⟩ := getF X2 hx hZ hown (host := "") (Or.inl (hw _ (List.mem_of_getElem? (i := 21) rfl))) Via.refl e2 Fs0 (g := (mkF m 27 #[.val (.ref o0), .unset] [(.ref o0)])) rfl rfl (hb hby d12_27)
    refine Go.step (g' := (mkF m 30 #[.val (.ref o0), .unset] [(.ref sa)])) st47 ?_
    refine Go.step (g' := (mkF m 31 #[.val (.ref o0), .unset] [(.int (0 : Int32)), (.ref sa)])) (fun _ k => XS.iconst X47.here hx rfl (hb hby d12_30) k) ?_
    refine Go.step (g' := (mkF m 32 #[.val (.ref o0), .unset] [(.int (0 : Int32)), (.ref sa), (.int (0 : Int32)), (.ref sa)])) (fun _ k => Jvm.Free.XT.dup2 X47.here hx rfl (hb hby d12_31) rfl rfl rfl k) ?_
    refine Go.step (g' := (mkF m 33 #[.val (.ref o0), .unset] [(.int (sf (0 : Int32).toNatClampNeg)), (.int (0 : Int32)), (.ref sa)])) (fun _ k => getAI X47 hx hZ e47 As0 (j := (0 : Int32)) (by decide) (gf := (mkF m 32 #[.val (.ref o0), .unset] [(.int (0 : Int32)), (.ref sa), (.int (0 : Int32)), (.ref sa)])) rfl rfl (hb hby d12_32) k) ?_
    generalize hs0 : (sf (0 : Int32).toNatClampNeg) = s0
    have hleft := own_left hle hs0 hsy46 (own_zN hz0 hzN) (by decide)
    refine Go.step (g' := (mkF m 34 #[.val (.ref o0), .unset] [(.int (1 : Int32)), (.int s0), (.int (0 : Int32)), (.ref sa)])) (fun _ k => XS.iconst X47.here hx rfl (hb hby d12_33) k) ?_
    refine Go.step (g' := (mkF m 35 #[.val (.ref o0), .unset] [(.int (s0 - (1 : Int32))), (.int (0 : Int32)), (.ref sa)])) (fun _ k => XS.isub X47.here hx rfl (hb hby d12_34) rfl k) ?_
    refine Go.step (g' := (mkF m 36 #[.val (.ref o0), .unset] [(.int (s0 - (1 : Int32))), (.int (0 : Int32)), (.ref sa), (.int (s0 - (1 : Int32)))])) (fun _ k => own_dupx2 X47.here hx rfl (hb hby d12_35) rfl rfl rfl rfl k) ?_
    obtain ⟨T48, h48, lc48, X48, e48, W48, N48, V48, st48⟩ := putAI X47 hx hZ e47 As0 (j := (0 : Int32)) (by decide) N0 g_sa (gf := (mkF m 36 #[.val (.ref o0), .unset] [(.int (s0 - (1 : Int32))), (.int (0 : Int32)), (.ref sa), (.int (s0 - (1 : Int32)))])) rfl rfl (hb hby d12_36)
    refine Go.step (g' := (mkF m 37 #[.val (.ref o0), .unset] [(.int (s0 - (1 : Int32)))])) st48 ?_
    have Q49 := ((Keep.refl h0 [o0, sa]).wr W48 (Or.inl (List.mem_of_getElem? (i := 1) rfl)))
    refine Go.step (g' := (mkF m 38 #[.val (.ref o0), .val (.int (s0 - (1 : Int32)))] [])) (fun _ k => XS.istoreN X48.here hx rfl (hb hby d12_37) rfl (l' := #[.val (.ref o0), .val (.int (s0 - (1 : Int32)))]) rfl k) ?_
    refine Go.step (g' := (mkF m 39 #[.val (.ref o0), .val (.int (s0 - (1 : Int32)))] [(.int (s0 - (1 : Int32)))])) (fun _ k => XS.iloadN X48.here hx rfl (hb hby d12_38) rfl  k) ?_
    by_cases hc39d12 : (s0 - (1 : Int32)) = (0 : Int32)
    · skip
      refine Go.step (g' := (mkF m 42 #[.val (.ref o0), .val (.int (s0 - (1 : Int32)))] [])) (fun _ k => XS.ifNo X48.here hx rfl (hb hby d12_39) rfl ((if0 _ _).trans (teq hc39d12).2) k) ?_
      refine Go.step (g' := (mkF m 43 #[.val (.ref o0), .val (.int (s0 - (1 : Int32)))] [(.ref o0)])) (fun _ k => XS.aloadN X48.here hx rfl (hb hby d12_42) rfl rfl  k) ?_
      refine Go.step (g' := (mkF m 44 #[.val (.ref o0), .val (.int (s0 - (1 : Int32)))] [(.ref o0), (.ref o0)])) (fun _ k => XS.dup X48.here hx rfl (hb hby d12_43) rfl rfl k) ?_
      obtain ⟨T50, X50, e50, st50⟩ := getF X48 hx hZ hown (host := "") (Or.inl (hw _ (List.mem_of_getElem? (i := 62) rfl))) Via.refl e48 (Fu0.other W48 (Or.inl n_o0_sa)) (g := (mkF m 44 #[.val (.ref o0), .val (.int (s0 - (1 : Int32)))] [(.ref o0), (.ref o0)])) rfl rfl (hb hby d12_44)
      refine Go.step (g' := (mkF m 47 #[.val (.ref o0), .val (.int (s0 - (1 : Int32)))] [(.long u), (.ref o0)])) st50 ?_
      refine Go.step (g' := (mkF m 50 #[.val (.ref o0), .val (.int (s0 - (1 : Int32)))] [(.long (-2 : Int64)), (.long u), (.ref o0)])) (fun _ k => X50.ldc2J hx hown (mvT hZ (hw _ (List.mem_of_getElem? (i := 87) rfl))) rfl (hb hby d12_47) k) ?_
      refine Go.step (g' := (mkF m 51 #[.val (.ref o0), .val (.int (s0 - (1 : Int32)))] [(.long (u &&& (-2 : Int64))), (.ref o0)])) (fun _ k => XS.land X50.here hx rfl (hb hby d12_50) rfl k) ?_
      obtain ⟨T51, h51, X51, e51, W51, st51⟩ := putF X50 hx hZ hown (host := "") (Or.inl (hw _ (List.mem_of_getElem? (i := 62) rfl))) Via.refl e50 (Fu0.other W48 (Or.inl n_o0_sa)) (E0.wr W48) (Or.inl (hw _ (List.mem_of_getElem? (i := 63) rfl))) (hw _ (List.mem_of_getElem? (i := 6) rfl)) (ty := .long) (by decide) rfl rfl (g := (mkF m 51 #[.val (.ref o0), .val (.int (s0 - (1 : Int32)))] [(.long (u &&& (-2 : Int64))), (.ref o0)])) rfl rfl (hb hby d12_51)
      obtain ⟨lc51, X51, N51⟩ := own_pack X51 (Fr.snoc X51 N48 g_o0)
      have Fw51 := (Fu0.other W48 (Or.inl n_o0_sa)).same W51
      refine Go.step (g' := (mkF m 54 #[.val (.ref o0), .val (.int (s0 - (1 : Int32)))] [])) st51 ?_
      have Q52 := ((Fk0.other W48 (Or.inl n_o0_sa)).other W51 (Or.inr (slot_ne (Or.inr (hw _ (List.mem_of_getElem? (i := 17) rfl))) (Or.inl (hw _ (List.mem_of_getElem? (i := 63) rfl))) (by decide) (t := (.array (.array .long))) (t' := .long) (by decide) (by decide))))
      have Q53 := ((Fv0.other W48 (Or.inl n_o0_sa)).other W51 (Or.inr (slot_ne (Or.inr (hw _ (List.mem_of_getElem? (i := 19) rfl))) (Or.inl (hw _ (List.mem_of_getElem? (i := 63) rfl))) (by decide) (t := (.array (.array .long))) (t' := .long) (by decide) (by decide))))
      have Q54 := ((Fs0.other W48 (Or.inl n_o0_sa)).other W51 (Or.inr (slot_ne (Or.inr (hw _ (List.mem_of_getElem? (i := 22) rfl))) (Or.inl (hw _ (List.mem_of_getElem? (i := 63) rfl))) (by decide) (t := (.array .int)) (t' := .long) (by decide) (by decide))))
      have Q55 := ((Fl0.other W48 (Or.inl n_o0_sa)).other W51 (Or.inr (slot_ne (Or.inr (hw _ (List.mem_of_getElem? (i := 25) rfl))) (Or.inl (hw _ (List.mem_of_getElem? (i := 63) rfl))) (by decide) (t := (.array .long)) (t' := .long) (by decide) (by decide))))
      have Q56 := ((Fw0.other W48 (Or.inl n_o0_sa)).other W51 (Or.inr (slot_ne (Or.inl (hw _ (List.mem_of_getElem? (i := 43) rfl))) (Or.inl (hw _ (List.mem_of_getElem? (i := 63) rfl))) (by decide) (t := .long) (t' := .long) (by decide) (by decide))))
      have Q57 := ((Fz0.other W48 (Or.inl n_o0_sa)).other W51 (Or.inr (slot_ne (Or.inl (hw _ (List.mem_of_getElem? (i := 36) rfl))) (Or.inl (hw _ (List.mem_of_getElem? (i := 63) rfl))) (by decide) (t := .int) (t' := .long) (by decide) (by decide))))
      have Q58 := ((Al0.other W48 (Ne.symm n_sa_la)).other W51 (Ne.symm n_o0_la))
      have Q59 := ((Ac.other W48 (Ne.symm n_sa_xc)).other W51 (Ne.symm n_o0_xc))
      have Q60 := (Nat.le_trans (Nat.le_trans Z0 (Keep.of_wr W48).1) (Keep.of_wr W51).1)
      skip
      refine Go.step (g' := (mkF m 55 #[.val (.ref o0), .val (.int (s0 - (1 : Int32)))] [(.ref o0)])) (fun _ k => XS.aloadN X51.here hx rfl (hb hby d12_54) rfl rfl  k) ?_
      refine Go.step (g' := (mkF m 56 #[.val (.ref o0), .val (.int (s0 - (1 : Int32)))] [(.ref o0), (.ref o0)])) (fun _ k => XS.dup X51.here hx rfl (hb hby d12_55) rfl rfl k) ?_
      obtain ⟨T61, X61, e61, st61⟩ := getF X51 hx hZ hown (host := "") (Or.inl (hw _ (List.mem_of_getElem? (i := 35) rfl))) Via.refl e51 Q57 (g := (mkF m 56 #[.val (.ref o0), .val (.int (s0 - (1 : Int32)))] [(.ref o0), (.ref o0)])) rfl rfl (hb hby d12_56)
      refine Go.step (g' := (mkF m 59 #[.val (.ref o0), .val (.int (s0 - (1 : Int32)))] [(.int z), (.ref o0)])) st61 ?_
      refine Go.step (g' := (mkF m 60 #[.val (.ref o0), .val (.int (s0 - (1 : Int32)))] [(.int (1 : Int32)), (.int z), (.ref o0)])) (fun _ k => XS.iconst X61.here hx rfl (hb hby d12_59) k) ?_
      refine Go.step (g' := (mkF m 61 #[.val (.ref o0), .val (.int (s0 - (1 : Int32)))] [(.int (z - (1 : Int32))), (.ref o0)])) (fun _ k => XS.isub X61.here hx rfl (hb hby d12_60) rfl k) ?_
      obtain ⟨T62, h62, X62, e62, W62, st62⟩ := putF X61 hx hZ hown (host := "") (Or.inl (hw _ (List.mem_of_getElem? (i := 35) rfl))) Via.refl e61 Q57 ((E0.wr W48).wr W51) (Or.inl (hw _ (List.mem_of_getElem? (i := 36) rfl))) (hw _ (List.mem_of_getElem? (i := 6) rfl)) (ty := .int) (by decide) rfl rfl (g := (mkF m 61 #[.val (.ref o0), .val (.int (s0 - (1 : Int32)))] [(.int (z - (1 : Int32))), (.ref o0)])) rfl rfl (hb hby d12_61)
      obtain ⟨lc62, X62, N62⟩ := own_pack X62 (Fr.snoc X62 N51 g_o0)
      have Fw62 := Q57.same W62
      refine Go.step (g' := (mkF m 64 #[.val (.ref o0), .val (.int (s0 - (1 : Int32)))] [])) st62 ?_
      have Q63 := (Q52.other W62 (Or.inr (slot_ne (Or.inr (hw _ (List.mem_of_getElem? (i := 17) rfl))) (Or.inl (hw _ (List.mem_of_getElem? (i := 36) rfl))) (by decide) (t := (.array (.array .long))) (t' := .int) (by decide) (by decide))))
      have Q64 := (Q53.other W62 (Or.inr (slot_ne (Or.inr (hw _ (List.mem_of_getElem? (i := 19) rfl))) (Or.inl (hw _ (List.mem_of_getElem? (i := 36) rfl))) (by decide) (t := (.array (.array .long))) (t' := .int) (by decide) (by decide))))
      have Q65 := (Q54.other W62 (Or.inr (slot_ne (Or.inr (hw _ (List.mem_of_getElem? (i := 22) rfl))) (Or.inl (hw _ (List.mem_of_getElem? (i := 36) rfl))) (by decide) (t := (.array .int)) (t' := .int) (by decide) (by decide))))
      have Q66 := (Q55.other W62 (Or.inr (slot_ne (Or.inr (hw _ (List.mem_of_getElem? (i := 25) rfl))) (Or.inl (hw _ (List.mem_of_getElem? (i := 36) rfl))) (by decide) (t := (.array .long)) (t' := .int) (by decide) (by decide))))
      have Q67 := (Q56.other W62 (Or.inr (slot_ne (Or.inl (hw _ (List.mem_of_getElem? (i := 43) rfl))) (Or.inl (hw _ (List.mem_of_getElem? (i := 36) rfl))) (by decide) (t := .long) (t' := .int) (by decide) (by decide))))
      have Q68 := (((Ak0.other W48 n_ka_sa).other W51 (Ne.symm n_o0_ka)).other W62 (Ne.symm n_o0_ka))
      have Q69 := (((Av0.other W48 n_va_sa).other W51 (Ne.symm n_o0_va)).other W62 (Ne.symm n_o0_va))
      have Q70 := ((V48.other W51 (Ne.symm n_o0_sa)).other W62 (Ne.symm n_o0_sa))
      have Q71 := (Fw51.other W62 (Or.inr (slot_ne (Or.inl (hw _ (List.mem_of_getElem? (i := 63) rfl))) (Or.inl (hw _ (List.mem_of_getElem? (i := 36) rfl))) (by decide) (t := .long) (t' := .int) (by decide) (by decide))))
      have Q72 := ((Q49.wr W51 (Or.inl (List.mem_of_getElem? (i := 0) rfl))).wr W62 (Or.inl (List.mem_of_getElem? (i := 0) rfl)))
      refine Go.step (g' := (mkF m 65 #[.val (.ref o0), .val (.int (s0 - (1 : Int32)))] [(.ref o0)])) (fun _ k => XS.aloadN X62.here hx rfl (hb hby d12_64) rfl rfl  k) ?_
      obtain ⟨T73, X73, e73, st73⟩ := getF X62 hx hZ hown (host := "") (Or.inl (hw _ (List.mem_of_getElem? (i := 18) rfl))) Via.refl e62 Q64 (g := (mkF m 65 #[.val (.ref o0), .val (.int (s0 - (1 : Int32)))] [(.ref o0)])) rfl rfl (hb hby d12_65)
      refine Go.step (g' := (mkF m 68 #[.val (.ref o0), .val (.int (s0 - (1 : Int32)))] [(.ref va)])) st73 ?_
      refine Go.step (g' := (mkF m 69 #[.val (.ref o0), .val (.int (s0 - (1 : Int32)))] [(.int (0 : Int32)), (.ref va)])) (fun _ k => XS.iconst X73.here hx rfl (hb hby d12_68) k) ?_
      refine Go.step (g' := (mkF m 70 #[.val (.ref o0), .val (.int (s0 - (1 : Int32)))] [(.ref xc)])) (fun _ k => getAV X73 hx hZ e73 Q69 (j := (0 : Int32)) (v := (.ref xc)) (by decide) hvc (gf := (mkF m 69 #[.val (.ref o0), .val (.int (s0 - (1 : Int32)))] [(.int (0 : Int32)), (.ref va)])) rfl rfl (hb hby d12_69) k) ?_
      refine Go.step (g' := (mkF m 71 #[.val (.ref o0), .val (.int (s0 - (1 : Int32)))] [(.int (s0 - (1 : Int32))), (.ref xc)])) (fun _ k => XS.iloadN X73.here hx rfl (hb hby d12_70) rfl  k) ?_
      refine Go.step (g' := (mkF m 72 #[.val (.ref o0), .val (.int (s0 - (1 : Int32)))] [(.long (gv (s0 - (1 : Int32)).toNatClampNeg))])) (fun _ k => getAJ X73 hx hZ e73 (Q59.other W62 (Ne.symm n_o0_xc)) (j := (s0 - (1 : Int32))) hleft (gf := (mkF m 71 #[.val (.ref o0), .val (.int (s0 - (1 : Int32)))] [(.int (s0 - (1 : Int32))), (.ref xc)])) rfl rfl (hb hby d12_71) k) ?_
      exact Go.retW X73 hx hlk (t := .long) Bd.returns rfl (Or.inr (Or.inl ⟨rfl, rfl, _, rfl⟩)) (hb hby d12_72) (by decide) (by decide) (by rw [e73]; exact ⟨_, rfl, N62, own_takeEnd ⟨(((E0.wr W48).wr W51).wr W62), Q63, Q64, Q65, Q66, Q71, Q67, Fw62, Q68, Q69, Q70, (Q58.other W62 (Ne.symm n_o0_la))⟩ G0 J0 Q72 (own_ws2 G0) hw0 hwM hz0 hz1 hs0 hsy46 (Or.inl ⟨hc39d12, rfl⟩) hka hvc t_xa t_xc Aa Ac hg⟩)
    · skip
      refine Go.step (g' := (mkF m 54 #[.val (.ref o0), .val (.int (s0 - (1 : Int32)))] [])) (fun _ k => XS.ifYes X48.here hx rfl (pc0 := 39) (pc' := 54) rfl (hb hby d12_39) rfl ((if0 _ _).trans (feq hc39d12).2) (by decide) (by decide) k) ?_
      refine Go.step (g' := (mkF m 55 #[.val (.ref o0), .val (.int (s0 - (1 : Int32)))] [(.ref o0)])) (fun _ k => XS.aloadN X48.here hx rfl (hb hby d12_54) rfl rfl  k) ?_
      refine Go.step (g' := (mkF m 56 #[.val (.ref o0), .val (.int (s0 - (1 : Int32)))] [(.ref o0), (.ref o0)])) (fun _ k => XS.dup X48.here hx rfl (hb hby d12_55) rfl rfl k) ?_
      obtain ⟨T74, X74, e74, st74⟩ := getF X48 hx hZ hown (host := "") (Or.inl (hw _ (List.mem_of_getElem? (i := 35) rfl))) Via.refl e48 (Fz0.other W48 (Or.inl n_o0_sa)) (g := (mkF m 56 #[.val (.ref o0), .val (.int (s0 - (1 : Int32)))] [(.ref o0), (.ref o0)])) rfl rfl (hb hby d12_56)
      refine Go.step (g' := (mkF m 59 #[.val (.ref o0), .val (.int (s0 - (1 : Int32)))] [(.int z), (.ref o0)])) st74 ?_
      refine Go.step (g' := (mkF m 60 #[.val (.ref o0), .val (.int (s0 - (1 : Int32)))] [(.int (1 : Int32)), (.int z), (.ref o0)])) (fun _ k => XS.iconst X74.here hx rfl (hb hby d12_59) k) ?_
      refine Go.step (g' := (mkF m 61 #[.val (.ref o0), .val (.int (s0 - (1 : Int32)))] [(.int (z - (1 : Int32))), (.ref o0)])) (fun _ k => XS.isub X74.here hx rfl (hb hby d12_60) rfl k) ?_
      obtain ⟨T75, h75, X75, e75, W75, st75⟩ := putF X74 hx hZ hown (host := "") (Or.inl (hw _ (List.mem_of_getElem? (i := 35) rfl))) Via.refl e74 (Fz0.other W48 (Or.inl n_o0_sa)) (E0.wr W48) (Or.inl (hw _ (List.mem_of_getElem? (i := 36) rfl))) (hw _ (List.mem_of_getElem? (i := 6) rfl)) (ty := .int) (by decide) rfl rfl (g := (mkF m 61 #[.val (.ref o0), .val (.int (s0 - (1 : Int32)))] [(.int (z - (1 : Int32))), (.ref o0)])) rfl rfl (hb hby d12_61)
      obtain ⟨lc75, X75, N75⟩ := own_pack X75 (Fr.snoc X75 N48 g_o0)
      have Fw75 := (Fz0.other W48 (Or.inl n_o0_sa)).same W75
      refine Go.step (g' := (mkF m 64 #[.val (.ref o0), .val (.int (s0 - (1 : Int32)))] [])) st75 ?_
      have Q76 := ((Fk0.other W48 (Or.inl n_o0_sa)).other W75 (Or.inr (slot_ne (Or.inr (hw _ (List.mem_of_getElem? (i := 17) rfl))) (Or.inl (hw _ (List.mem_of_getElem? (i := 36) rfl))) (by decide) (t := (.array (.array .long))) (t' := .int) (by decide) (by decide))))
      have Q77 := ((Fv0.other W48 (Or.inl n_o0_sa)).other W75 (Or.inr (slot_ne (Or.inr (hw _ (List.mem_of_getElem? (i := 19) rfl))) (Or.inl (hw _ (List.mem_of_getElem? (i := 36) rfl))) (by decide) (t := (.array (.array .long))) (t' := .int) (by decide) (by decide))))
      have Q78 := ((Fs0.other W48 (Or.inl n_o0_sa)).other W75 (Or.inr (slot_ne (Or.inr (hw _ (List.mem_of_getElem? (i := 22) rfl))) (Or.inl (hw _ (List.mem_of_getElem? (i := 36) rfl))) (by decide) (t := (.array .int)) (t' := .int) (by decide) (by decide))))
      have Q79 := ((Fl0.other W48 (Or.inl n_o0_sa)).other W75 (Or.inr (slot_ne (Or.inr (hw _ (List.mem_of_getElem? (i := 25) rfl))) (Or.inl (hw _ (List.mem_of_getElem? (i := 36) rfl))) (by decide) (t := (.array .long)) (t' := .int) (by decide) (by decide))))
      have Q80 := ((Fu0.other W48 (Or.inl n_o0_sa)).other W75 (Or.inr (slot_ne (Or.inl (hw _ (List.mem_of_getElem? (i := 63) rfl))) (Or.inl (hw _ (List.mem_of_getElem? (i := 36) rfl))) (by decide) (t := .long) (t' := .int) (by decide) (by decide))))
      have Q81 := ((Fw0.other W48 (Or.inl n_o0_sa)).other W75 (Or.inr (slot_ne (Or.inl (hw _ (List.mem_of_getElem? (i := 43) rfl))) (Or.inl (hw _ (List.mem_of_getElem? (i := 36) rfl))) (by decide) (t := .long) (t' := .int) (by decide) (by decide))))
      have Q82 := ((Al0.other W48 (Ne.symm n_sa_la)).other W75 (Ne.symm n_o0_la))
      have Q83 := ((Ac.other W48 (Ne.symm n_sa_xc)).other W75 (Ne.symm n_o0_xc))
      have Q84 := (Nat.le_trans (Nat.le_trans Z0 (Keep.of_wr W48).1) (Keep.of_wr W75).1)
      refine Go.step (g' := (mkF m 65 #[.val (.ref o0), .val (.int (s0 - (1 : Int32)))] [(.ref o0)])) (fun _ k => XS.aloadN X75.here hx rfl (hb hby d12_64) rfl rfl  k) ?_
      obtain ⟨T85, X85, e85, st85⟩ := getF X75 hx hZ hown (host := "") (Or.inl (hw _ (List.mem_of_getElem? (i := 18) rfl))) Via.refl e75 Q77 (g := (mkF m 65 #[.val (.ref o0), .val (.int (s0 - (1 : Int32)))] [(.ref o0)])) rfl rfl (hb hby d12_65)
      refine Go.step (g' := (mkF m 68 #[.val (.ref o0), .val (.int (s0 - (1 : Int32)))] [(.ref va)])) st85 ?_
      refine Go.step (g' := (mkF m 69 #[.val (.ref o0), .val (.int (s0 - (1 : Int32)))] [(.int (0 : Int32)), (.ref va)])) (fun _ k => XS.iconst X85.here hx rfl (hb hby d12_68) k) ?_
      refine Go.step (g' := (mkF m 70 #[.val (.ref o0), .val (.int (s0 - (1 : Int32)))] [(.ref xc)])) (fun _ k => getAV X85 hx hZ e85 ((Av0.other W48 n_va_sa).other W75 (Ne.symm n_o0_va)) (j := (0 : Int32)) (v := (.ref xc)) (by decide) hvc (gf := (mkF m 69 #[.val (.ref o0), .val (.int (s0 - (1 : Int32)))] [(.int (0 : Int32)), (.ref va)])) rfl rfl (hb hby d12_69) k) ?_
      refine Go.step (g' := (mkF m 71 #[.val (.ref o0), .val (.int (s0 - (1 : Int32)))] [(.int (s0 - (1 : Int32))), (.ref xc)])) (fun _ k => XS.iloadN X85.here hx rfl (hb hby d12_70) rfl  k) ?_
      refine Go.step (g' := (mkF m 72 #[.val (.ref o0), .val (.int (s0 - (1 : Int32)))] [(.long (gv (s0 - (1 : Int32)).toNatClampNeg))])) (fun _ k => getAJ X85 hx hZ e85 Q83 (j := (s0 - (1 : Int32))) hleft (gf := (mkF m 71 #[.val (.ref o0), .val (.int (s0 - (1 : Int32)))] [(.int (s0 - (1 : Int32))), (.ref xc)])) rfl rfl (hb hby d12_71) k) ?_
      exact Go.retW X85 hx hlk (t := .long) Bd.returns rfl (Or.inr (Or.inl ⟨rfl, rfl, _, rfl⟩)) (hb hby d12_72) (by decide) (by decide) (by rw [e85]; exact ⟨_, rfl, N75, own_takeEnd ⟨((E0.wr W48).wr W75), Q76, Q77, Q78, Q79, Q80, Q81, Fw75, ((Ak0.other W48 n_ka_sa).other W75 (Ne.symm n_o0_ka)), ((Av0.other W48 n_va_sa).other W75 (Ne.symm n_o0_va)), (V48.other W75 (Ne.symm n_o0_sa)), Q82⟩ G0 J0 (Q49.wr W75 (Or.inl (List.mem_of_getElem? (i := 0) rfl))) (own_ws2 G0) hw0 hwM hz0 hz1 hs0 hsy46 (Or.inr ⟨hc39d12, rfl⟩) hka hvc t_xa t_xc Aa Ac hg⟩)

theorem own_irr (x : Int64) : ¬ x < x := by rw [Int64.lt_iff_toInt_lt]; omega
theorem own_min1 (x : Int32) : x + (-1 : Int32) = x - (1 : Int32) := by
  apply Int32.toInt_inj.mp
  have a := c_iadd x (-1)
  have b := c_isub x 1
  have z1 : (-1 : Int32).toInt = -1 := by decide
  have z2 : (1 : Int32).toInt = 1 := by decide
  have r1 := rng32 (x + (-1 : Int32))
  have r2 := rng32 (x - (1 : Int32))
  omega
theorem own_ad3 (x : Int32) : 0 ≤ (x &&& (3 : Int32)).toInt ∧ (x &&& (3 : Int32)).toInt ≤ 3 := by
  have e : (x &&& (3 : Int32)).toInt = x.toInt % (2 ^ 2 : Nat) := c_mask x 3 2 (by decide) (by decide)
  omega
theorem own_key (x : Int64) : ¬ (x &&& (9223372036854775807 : Int64)) < 0 := by
  have e := (c_andSL x 9223372036854775807).2.2 (by decide)
  rw [Int64.lt_iff_toInt_lt, show (0 : Int64).toInt = 0 from rfl]; omega
theorem own_max (x y : Int64) : ¬ f1_0 x y < x ∧ ¬ f1_0 x y < y := by
  unfold f1_0
  by_cases c : lcmpW x y < (0 : Int32)
  · rw [if_pos c]; rw [lw_lt] at c
    show ¬ y < x ∧ ¬ y < y
    rw [Int64.lt_iff_toInt_lt] at *; rw [Int64.lt_iff_toInt_lt]; omega
  · rw [if_neg c]; rw [lw_lt] at c
    show ¬ x < x ∧ ¬ x < y
    rw [Int64.lt_iff_toInt_lt] at *; rw [Int64.lt_iff_toInt_lt]; omega
theorem own_dd {q a b c d : Int64} (h : f1_0 q (f1_0 a (f1_0 b c)) = d) : ¬ d < a ∧ ¬ d < b ∧ ¬ d < c := by
  have h1 := own_max q (f1_0 a (f1_0 b c))
  have h2 := own_max a (f1_0 b c)
  have h3 := own_max b c
  rw [h] at h1
  simp only [Int64.lt_iff_toInt_lt] at *
  omega
theorem own_dd0 {a d : Int64} (ha : ¬ a < 0) (hd : ¬ d < a) : ¬ d < 0 := by rw [Int64.lt_iff_toInt_lt] at *; omega
def Cnt (v ad : Int32) (k : Int) : Prop := 0 ≤ v.toInt ∧ ((ad.toInt < k ∧ v.toInt = ad.toInt) ∨ (k ≤ ad.toInt ∧ v.toInt = k))
def Tak (v ad tk : Int32) (k : Int) : Prop := 0 ≤ v.toInt ∧ v.toInt ≤ 3 ∧ ((k ≤ tk.toInt ∧ v.toInt + k = ad.toInt) ∨ tk.toInt < k)
section OwnCount
variable {v ad tk K : Int32} {k k' : Int}
theorem Cnt.zero (h : 0 ≤ ad.toInt) : Cnt 0 ad 0 := ⟨by decide, Or.inr ⟨h, by decide⟩⟩
theorem Cnt.stay (C : Cnt v ad k) (h : ad < K) (e : K.toInt = k') (e' : k' = k + 1) : Cnt v ad k' := by
  obtain ⟨c0, c1⟩ := C
  rw [Int32.lt_iff_toInt_lt] at h
  refine ⟨c0, Or.inl ?_⟩
  omega
theorem Cnt.go (C : Cnt v ad k) (h : ¬ ad < K) (e : K.toInt = k') (e' : k' = k + 1) (k0 : 0 ≤ k) (k3 : k ≤ 3) : Cnt (v + (1 : Int32)) ad k' := by
  obtain ⟨c0, c1⟩ := C
  rw [Int32.lt_iff_toInt_lt] at h
  have s := (own_succ (i := v) c0 (by omega)).1
  refine ⟨by omega, Or.inr ?_⟩
  omega
theorem Cnt.le (C : Cnt v ad k) (h3 : ad.toInt ≤ 3) : v.toInt ≤ 8 := by
  obtain ⟨c0, c1⟩ := C; omega
theorem Cnt.tak (C : Cnt v ad 3) (h0 : 0 ≤ ad.toInt) (h3 : ad.toInt ≤ 3) : Tak v ad tk 0 := by
  obtain ⟨c0, c1⟩ := C
  refine ⟨c0, by omega, ?_⟩
  omega
theorem Tak.stay (C : Tak v ad tk k) (h : tk < K) (e : K.toInt = k') (e' : k' = k + 1) (htk : ¬ ad < tk) (h3 : ad.toInt ≤ 3) (k0 : 0 ≤ k) : Tak v ad tk k' := by
  obtain ⟨c0, c1, c2⟩ := C
  rw [Int32.lt_iff_toInt_lt] at h htk
  refine ⟨c0, c1, Or.inr ?_⟩
  omega
theorem Tak.one (C : Tak v ad tk k) (h : ¬ tk < K) (e : K.toInt = k + 1) (htk : ¬ ad < tk) : 1 ≤ v.toInt := by
  obtain ⟨c0, c1, c2⟩ := C
  rw [Int32.lt_iff_toInt_lt] at h htk
  omega
theorem Tak.three (C : Tak v ad tk k) (h : ¬ tk < K) (e : K.toInt = k + 1) (htk : ¬ ad < tk) (h3 : ad.toInt ≤ 3) (k0 : 0 ≤ k) : v.toInt ≤ ((3 : Nat) : Int) := by
  obtain ⟨c0, c1, c2⟩ := C; omega
theorem Tak.go (C : Tak v ad tk k) (h : ¬ tk < K) (e : K.toInt = k') (e' : k' = k + 1) (htk : ¬ ad < tk) (h3 : ad.toInt ≤ 3) (k0 : 0 ≤ k) : Tak (v - (1 : Int32)) ad tk k' := by
  have o := C.one h (e.trans e') htk
  have s := (own_pred (i := v) o).1
  obtain ⟨c0, c1, c2⟩ := C
  rw [Int32.lt_iff_toInt_lt] at h htk
  refine ⟨by omega, by omega, ?_⟩
  omega
theorem Tak.le8 (C : Tak v ad tk k) (htk : ¬ ad < tk) (h3 : ad.toInt ≤ 3) : v.toInt ≤ 8 := by obtain ⟨c0, c1, c2⟩ := C; omega
theorem Tak.p1 (C : Tak v ad tk k) (htk : ¬ ad < tk) (h3 : ad.toInt ≤ 3) : 1 ≤ (v + (1 : Int32)).toInt := by
  obtain ⟨c0, c1, c2⟩ := C
  have s := (own_succ (i := v) c0 (by omega)).1
  omega
theorem Tak.p4 (C : Tak v ad tk k) (htk : ¬ ad < tk) (h3 : ad.toInt ≤ 3) : (v + (1 : Int32)).toInt ≤ ((4 : Nat) : Int) := by
  obtain ⟨c0, c1, c2⟩ := C
  have s := (own_succ (i := v) c0 (by omega)).1
  omega
end OwnCount
theorem pn_0 : plainName "com/example/redelivery/redelivery/RadixHeapIsEmptyPinLaw" = true := by first | (simp [plainName, overriddenIn]; done) | decide +kernel
theorem ef_0 (m : MethodId) (p0 : Int32) (q1 : Int64) (q2 : Int64) (q3 : Int64) (q4 : Int64) (q5 : Int64) : entryFrame m #[(.int p0), (.long q1), (.long q2), (.long q3), (.long q4), (.long q5)] maxLocals = mkF m 0 #[.val (.int p0), .val (.long q1), .second, .val (.long q2), .second, .val (.long q3), .second, .val (.long q4), .second, .val (.long q5), .second, .unset, .unset, .unset, .unset, .unset, .unset, .unset, .unset, .unset, .unset, .unset, .unset, .unset, .unset, .unset] [] := by first | (simp [entryFrame, mkF, argsToLocals, Value.category, maxLocals]; done) | rfl
set_option maxRecDepth 65536 in
set_option maxHeartbeats 40000000 in
theorem rm0 (l : Launch) (Z : State) (a0 : Array Value) (hw : ∀ d ∈ tables_1, d.before a0 Z = true) (ws : List Jvm.Cond) (p0 : Int32) (q1 : Int64) (q2 : Int64) (q3 : Int64) (q4 : Int64) (q5 : Int64)  (h0 : Heap) (n0 : Nat) (Z0 : n0 ≤ h0.size) :
    MetFree l x (head1 (Jvm.Cond.code x code maxLocals ret :: ws) room_1) (fun a U => a = #[(.int p0), (.long q1), (.long q2), (.long q3), (.long q4), (.long q5)] ∧ Z.Warmed39 U.vm ∧ U.heap = h0) (fun _ _ _ _ _ => True) (fun _ U o U' => ∃ v L, o = .returned v ∧ (LawQ (some (.int (1 : Int32))) n0) v U'.heap L ∧ FrameEnd U o U' L room_1.cells room_1.slots) := by
  refine MetFree.of_bodySF (plainFor_of_name pn_0) hisR ?_
  intro p e s m args below meth c s₁ Bd hml0 hP hK
  obtain ⟨rfl, hZ, hh⟩ := hP
  have hx := Bd.exec
  have hby := Bd.bytes
  have hlk : meth.locks = false := BodyLoose.notSynchronized Bd
  have hml : c.maxLocals = 26 := hml0
  have hown : s.vm.findClass "com/example/redelivery/redelivery/RadixHeapIsEmptyPinLaw" = some m.cls := findClass_of_methodNamed Bd.named
  have hnm := (name_of_methodNamed Bd.named Bd.method).1
  have X0 : Stand p l e room_1 s m #[(.int p0), (.long q1), (.long q2), (.long q3), (.long q4), (.long q5)] below meth c s₁ ([] : List Loc) 0 0 := Stand.of_body Bd
  have e0 : s₁.heap = h0 := by rw [← hh, Bd.state]; rfl
  show Go p e below s room_1.cells room_1.slots (LawQ (some (.int (1 : Int32))) n0) s₁ (entryFrame m #[(.int p0), (.long q1), (.long q2), (.long q3), (.long q4), (.long q5)] maxLocals)
  rw [ef_0 m p0 q1 q2 q3 q4 q5]
  have N0 := Fr.nil n0
  refine Go.step (g' := (mkF m 1 #[.val (.int p0), .val (.long q1), .second, .val (.long q2), .second, .val (.long q3), .second, .val (.long q4), .second, .val (.long q5), .second, .unset, .unset, .unset, .unset, .unset, .unset, .unset, .unset, .unset, .unset, .unset, .unset, .unset, .unset, .unset] [(.int p0)])) (fun _ k => XS.iloadN X0.here hx rfl (hb hby at_0) rfl  k) ?_
  refine Go.step (g' := (mkF m 2 #[.val (.int p0), .val (.long q1), .second, .val (.long q2), .second, .val (.long q3), .second, .val (.long q4), .second, .val (.long q5), .second, .unset, .unset, .unset, .unset, .unset, .unset, .unset, .unset, .unset, .unset, .unset, .unset, .unset, .unset, .unset] [(.int (3 : Int32)), (.int p0)])) (fun _ k => XS.iconst X0.here hx rfl (hb hby at_1) k) ?_
  refine Go.step (g' := (mkF m 3 #[.val (.int p0), .val (.long q1), .second, .val (.long q2), .second, .val (.long q3), .second, .val (.long q4), .second, .val (.long q5), .second, .unset, .unset, .unset, .unset, .unset, .unset, .unset, .unset, .unset, .unset, .unset, .unset, .unset, .unset, .unset] [(.int (p0 &&& (3 : Int32)))])) (fun _ k => XS.iand X0.here hx rfl (hb hby at_2) rfl k) ?_
  refine Go.step (g' := (mkF m 5 #[.val (.int p0), .val (.long q1), .second, .val (.long q2), .second, .val (.long q3), .second, .val (.long q4), .second, .val (.long q5), .second, .val (.int (p0 &&& (3 : Int32))), .unset, .unset, .unset, .unset, .unset, .unset, .unset, .unset, .unset, .unset, .unset, .unset, .unset, .unset] [])) (fun _ k => XS.istore X0.here hx rfl (hb hby at_3) rfl (l' := #[.val (.int p0), .val (.long q1), .second, .val (.long q2), .second, .val (.long q3), .second, .val (.long q4), .second, .val (.long q5), .second, .val (.int (p0 &&& (3 : Int32))), .unset, .unset, .unset, .unset, .unset, .unset, .unset, .unset, .unset, .unset, .unset, .unset, .unset, .unset]) rfl k) ?_
  generalize had : (p0 &&& (3 : Int32)) = ad
  obtain ⟨ad0, ad3⟩ := own_ad3 p0
  rw [had] at ad0 ad3
  refine Go.step (g' := (mkF m 6 #[.val (.int p0), .val (.long q1), .second, .val (.long q2), .second, .val (.long q3), .second, .val (.long q4), .second, .val (.long q5), .second, .val (.int ad), .unset, .unset, .unset, .unset, .unset, .unset, .unset, .unset, .unset, .unset, .unset, .unset, .unset, .unset] [(.int p0)])) (fun _ k => XS.iloadN X0.here hx rfl (hb hby at_5) rfl  k) ?_
  refine Go.step (g' := (mkF m 7 #[.val (.int p0), .val (.long q1), .second, .val (.long q2), .second, .val (.long q3), .second, .val (.long q4), .second, .val (.long q5), .second, .val (.int ad), .unset, .unset, .unset, .unset, .unset, .unset, .unset, .unset, .unset, .unset, .unset, .unset, .unset, .unset] [(.int (2 : Int32)), (.int p0)])) (fun _ k => XS.iconst X0.here hx rfl (hb hby at_6) k) ?_
  refine Go.step (g' := (mkF m 8 #[.val (.int p0), .val (.long q1), .second, .val (.long q2), .second, .val (.long q3), .second, .val (.long q4), .second, .val (.long q5), .second, .val (.int ad), .unset, .unset, .unset, .unset, .unset, .unset, .unset, .unset, .unset, .unset, .unset, .unset, .unset, .unset] [(.int ((p0.toUInt32 >>> ((2 : Int32) &&& 31).toUInt32).toInt32))])) (fun _ k => XS.iushr X0.here hx rfl (hb hby at_7) rfl k) ?_
  refine Go.step (g' := (mkF m 9 #[.val (.int p0), .val (.long q1), .second, .val (.long q2), .second, .val (.long q3), .second, .val (.long q4), .second, .val (.long q5), .second, .val (.int ad), .unset, .unset, .unset, .unset, .unset, .unset, .unset, .unset, .unset, .unset, .unset, .unset, .unset, .unset] [(.int (3 : Int32)), (.int ((p0.toUInt32 >>> ((2 : Int32) &&& 31).toUInt32).toInt32))])) (fun _ k => XS.iconst X0.here hx rfl (hb hby at_8) k) ?_
  refine Go.step (g' := (mkF m 10 #[.val (.int p0), .val (.long q1), .second, .val (.long q2), .second, .val (.long q3), .second, .val (.long q4), .second, .val (.long q5), .second, .val (.int ad), .unset, .unset, .unset, .unset, .unset, .unset, .unset, .unset, .unset, .unset, .unset, .unset, .unset, .unset] [(.int (((p0.toUInt32 >>> ((2 : Int32) &&& 31).toUInt32).toInt32) &&& (3 : Int32)))])) (fun _ k => XS.iand X0.here hx rfl (hb hby at_9) rfl k) ?_
  refine Go.step (g' := (mkF m 12 #[.val (.int p0), .val (.long q1), .second, .val (.long q2), .second, .val (.long q3), .second, .val (.long q4), .second, .val (.long q5), .second, .val (.int ad), .val (.int (((p0.toUInt32 >>> ((2 : Int32) &&& 31).toUInt32).toInt32) &&& (3 : Int32))), .unset, .unset, .unset, .unset, .unset, .unset, .unset, .unset, .unset, .unset, .unset, .unset, .unset] [])) (fun _ k => XS.istore X0.here hx rfl (hb hby at_10) rfl (l' := #[.val (.int p0), .val (.long q1), .second, .val (.long q2), .second, .val (.long q3), .second, .val (.long q4), .second, .val (.long q5), .second, .val (.int ad), .val (.int (((p0.toUInt32 >>> ((2 : Int32) &&& 31).toUInt32).toInt32) &&& (3 : Int32))), .unset, .unset, .unset, .unset, .unset, .unset, .unset, .unset, .unset, .unset, .unset, .unset, .unset]) rfl k) ?_
  refine Go.step (g' := (mkF m 14 #[.val (.int p0), .val (.long q1), .second, .val (.long q2), .second, .val (.long q3), .second, .val (.long q4), .second, .val (.long q5), .second, .val (.int ad), .val (.int (((p0.toUInt32 >>> ((2 : Int32) &&& 31).toUInt32).toInt32) &&& (3 : Int32))), .unset, .unset, .unset, .unset, .unset, .unset, .unset, .unset, .unset, .unset, .unset, .unset, .unset] [(.int (((p0.toUInt32 >>> ((2 : Int32) &&& 31).toUInt32).toInt32) &&& (3 : Int32)))])) (fun _ k => XS.iload X0.here hx rfl (hb hby at_12) rfl  k) ?_
  refine Go.step (g' := (mkF m 16 #[.val (.int p0), .val (.long q1), .second, .val (.long q2), .second, .val (.long q3), .second, .val (.long q4), .second, .val (.long q5), .second, .val (.int ad), .val (.int (((p0.toUInt32 >>> ((2 : Int32) &&& 31).toUInt32).toInt32) &&& (3 : Int32))), .unset, .unset, .unset, .unset, .unset, .unset, .unset, .unset, .unset, .unset, .unset, .unset, .unset] [(.int ad), (.int (((p0.toUInt32 >>> ((2 : Int32) &&& 31).toUInt32).toInt32) &&& (3 : Int32)))])) (fun _ k => XS.iload X0.here hx rfl (hb hby at_14) rfl  k) ?_
  have t23 : ∀ (v23_12 : Int32) (htk : ¬ ad < v23_12), Go p e below s room_1.cells room_1.slots (LawQ (some (.int (1 : Int32))) n0) s₁ (mkF m 23 #[.val (.int p0), .val (.long q1), .second, .val (.long q2), .second, .val (.long q3), .second, .val (.long q4), .second, .val (.long q5), .second, .val (.int ad), .val (.int v23_12), .unset, .unset, .unset, .unset, .unset, .unset, .unset, .unset, .unset, .unset, .unset, .unset, .unset] []) := by
    intro v23_12 htk
    refine Go.step (g' := (mkF m 24 #[.val (.int p0), .val (.long q1), .second, .val (.long q2), .second, .val (.long q3), .second, .val (.long q4), .second, .val (.long q5), .second, .val (.int ad), .val (.int v23_12), .unset, .unset, .unset, .unset, .unset, .unset, .unset, .unset, .unset, .unset, .unset, .unset, .unset] [(.int p0)])) (fun _ k => XS.iloadN X0.here hx rfl (hb hby at_23) rfl  k) ?_
    refine Go.step (g' := (mkF m 25 #[.val (.int p0), .val (.long q1), .second, .val (.long q2), .second, .val (.long q3), .second, .val (.long q4), .second, .val (.long q5), .second, .val (.int ad), .val (.int v23_12), .unset, .unset, .unset, .unset, .unset, .unset, .unset, .unset, .unset, .unset, .unset, .unset, .unset] [(.int (4 : Int32)), (.int p0)])) (fun _ k => XS.iconst X0.here hx rfl (hb hby at_24) k) ?_
    refine Go.step (g' := (mkF m 26 #[.val (.int p0), .val (.long q1), .second, .val (.long q2), .second, .val (.long q3), .second, .val (.long q4), .second, .val (.long q5), .second, .val (.int ad), .val (.int v23_12), .unset, .unset, .unset, .unset, .unset, .unset, .unset, .unset, .unset, .unset, .unset, .unset, .unset] [(.int ((p0.toUInt32 >>> ((4 : Int32) &&& 31).toUInt32).toInt32))])) (fun _ k => XS.iushr X0.here hx rfl (hb hby at_25) rfl k) ?_
    refine Go.step (g' := (mkF m 27 #[.val (.int p0), .val (.long q1), .second, .val (.long q2), .second, .val (.long q3), .second, .val (.long q4), .second, .val (.long q5), .second, .val (.int ad), .val (.int v23_12), .unset, .unset, .unset, .unset, .unset, .unset, .unset, .unset, .unset, .unset, .unset, .unset, .unset] [(.int (1 : Int32)), (.int ((p0.toUInt32 >>> ((4 : Int32) &&& 31).toUInt32).toInt32))])) (fun _ k => XS.iconst X0.here hx rfl (hb hby at_26) k) ?_
    refine Go.step (g' := (mkF m 28 #[.val (.int p0), .val (.long q1), .second, .val (.long q2), .second, .val (.long q3), .second, .val (.long q4), .second, .val (.long q5), .second, .val (.int ad), .val (.int v23_12), .unset, .unset, .unset, .unset, .unset, .unset, .unset, .unset, .unset, .unset, .unset, .unset, .unset] [(.int (((p0.toUInt32 >>> ((4 : Int32) &&& 31).toUInt32).toInt32) &&& (1 : Int32)))])) (fun _ k => XS.iand X0.here hx rfl (hb hby at_27) rfl k) ?_
    have t36 : ∀ (v36_s0 : Int32), Go p e below s room_1.cells room_1.slots (LawQ (some (.int (1 : Int32))) n0) s₁ (mkF m 36 #[.val (.int p0), .val (.long q1), .second, .val (.long q2), .second, .val (.long q3), .second, .val (.long q4), .second, .val (.long q5), .second, .val (.int ad), .val (.int v23_12), .unset, .unset, .unset, .unset, .unset, .unset, .unset, .unset, .unset, .unset, .unset, .unset, .unset] [(.int v36_s0)]) := by
      intro v36_s0
      refine Go.step (g' := (mkF m 38 #[.val (.int p0), .val (.long q1), .second, .val (.long q2), .second, .val (.long q3), .second, .val (.long q4), .second, .val (.long q5), .second, .val (.int ad), .val (.int v23_12), .val (.int v36_s0), .unset, .unset, .unset, .unset, .unset, .unset, .unset, .unset, .unset, .unset, .unset, .unset] [])) (fun _ k => XS.istore X0.here hx rfl (hb hby at_36) rfl (l' := #[.val (.int p0), .val (.long q1), .second, .val (.long q2), .second, .val (.long q3), .second, .val (.long q4), .second, .val (.long q5), .second, .val (.int ad), .val (.int v23_12), .val (.int v36_s0), .unset, .unset, .unset, .unset, .unset, .unset, .unset, .unset, .unset, .unset, .unset, .unset]) rfl k) ?_
      refine Go.step (g' := (mkF m 39 #[.val (.int p0), .val (.long q1), .second, .val (.long q2), .second, .val (.long q3), .second, .val (.long q4), .second, .val (.long q5), .second, .val (.int ad), .val (.int v23_12), .val (.int v36_s0), .unset, .unset, .unset, .unset, .unset, .unset, .unset, .unset, .unset, .unset, .unset, .unset] [(.int p0)])) (fun _ k => XS.iloadN X0.here hx rfl (hb hby at_38) rfl  k) ?_
      refine Go.step (g' := (mkF m 40 #[.val (.int p0), .val (.long q1), .second, .val (.long q2), .second, .val (.long q3), .second, .val (.long q4), .second, .val (.long q5), .second, .val (.int ad), .val (.int v23_12), .val (.int v36_s0), .unset, .unset, .unset, .unset, .unset, .unset, .unset, .unset, .unset, .unset, .unset, .unset] [(.int (5 : Int32)), (.int p0)])) (fun _ k => XS.iconst X0.here hx rfl (hb hby at_39) k) ?_
      refine Go.step (g' := (mkF m 41 #[.val (.int p0), .val (.long q1), .second, .val (.long q2), .second, .val (.long q3), .second, .val (.long q4), .second, .val (.long q5), .second, .val (.int ad), .val (.int v23_12), .val (.int v36_s0), .unset, .unset, .unset, .unset, .unset, .unset, .unset, .unset, .unset, .unset, .unset, .unset] [(.int ((p0.toUInt32 >>> ((5 : Int32) &&& 31).toUInt32).toInt32))])) (fun _ k => XS.iushr X0.here hx rfl (hb hby at_40) rfl k) ?_
      refine Go.step (g' := (mkF m 42 #[.val (.int p0), .val (.long q1), .second, .val (.long q2), .second, .val (.long q3), .second, .val (.long q4), .second, .val (.long q5), .second, .val (.int ad), .val (.int v23_12), .val (.int v36_s0), .unset, .unset, .unset, .unset, .unset, .unset, .unset, .unset, .unset, .unset, .unset, .unset] [(.int (1 : Int32)), (.int ((p0.toUInt32 >>> ((5 : Int32) &&& 31).toUInt32).toInt32))])) (fun _ k => XS.iconst X0.here hx rfl (hb hby at_41) k) ?_
      refine Go.step (g' := (mkF m 43 #[.val (.int p0), .val (.long q1), .second, .val (.long q2), .second, .val (.long q3), .second, .val (.long q4), .second, .val (.long q5), .second, .val (.int ad), .val (.int v23_12), .val (.int v36_s0), .unset, .unset, .unset, .unset, .unset, .unset, .unset, .unset, .unset, .unset, .unset, .unset] [(.int (((p0.toUInt32 >>> ((5 : Int32) &&& 31).toUInt32).toInt32) &&& (1 : Int32)))])) (fun _ k => XS.iand X0.here hx rfl (hb hby at_42) rfl k) ?_
      have t51 : ∀ (v51_s0 : Int32), Go p e below s room_1.cells room_1.slots (LawQ (some (.int (1 : Int32))) n0) s₁ (mkF m 51 #[.val (.int p0), .val (.long q1), .second, .val (.long q2), .second, .val (.long q3), .second, .val (.long q4), .second, .val (.long q5), .second, .val (.int ad), .val (.int v23_12), .val (.int v36_s0), .unset, .unset, .unset, .unset, .unset, .unset, .unset, .unset, .unset, .unset, .unset, .unset] [(.int v51_s0)]) := by
        intro v51_s0
        refine Go.step (g' := (mkF m 53 #[.val (.int p0), .val (.long q1), .second, .val (.long q2), .second, .val (.long q3), .second, .val (.long q4), .second, .val (.long q5), .second, .val (.int ad), .val (.int v23_12), .val (.int v36_s0), .val (.int v51_s0), .unset, .unset, .unset, .unset, .unset, .unset, .unset, .unset, .unset, .unset, .unset] [])) (fun _ k => XS.istore X0.here hx rfl (hb hby at_51) rfl (l' := #[.val (.int p0), .val (.long q1), .second, .val (.long q2), .second, .val (.long q3), .second, .val (.long q4), .second, .val (.long q5), .second, .val (.int ad), .val (.int v23_12), .val (.int v36_s0), .val (.int v51_s0), .unset, .unset, .unset, .unset, .unset, .unset, .unset, .unset, .unset, .unset, .unset]) rfl k) ?_
        refine Go.step (g' := (mkF m 54 #[.val (.int p0), .val (.long q1), .second, .val (.long q2), .second, .val (.long q3), .second, .val (.long q4), .second, .val (.long q5), .second, .val (.int ad), .val (.int v23_12), .val (.int v36_s0), .val (.int v51_s0), .unset, .unset, .unset, .unset, .unset, .unset, .unset, .unset, .unset, .unset, .unset] [(.long q1)])) (fun _ k => XS.lloadN X0.here hx rfl (hb hby at_53) rfl  k) ?_
        refine Go.step (g' := (mkF m 57 #[.val (.int p0), .val (.long q1), .second, .val (.long q2), .second, .val (.long q3), .second, .val (.long q4), .second, .val (.long q5), .second, .val (.int ad), .val (.int v23_12), .val (.int v36_s0), .val (.int v51_s0), .unset, .unset, .unset, .unset, .unset, .unset, .unset, .unset, .unset, .unset, .unset] [(.long (9223372036854775807 : Int64)), (.long q1)])) (fun _ k => X0.ldc2J hx hown (mvT hZ (hw _ (List.mem_of_getElem? (i := 0) rfl))) rfl (hb hby at_54) k) ?_
        refine Go.step (g' := (mkF m 58 #[.val (.int p0), .val (.long q1), .second, .val (.long q2), .second, .val (.long q3), .second, .val (.long q4), .second, .val (.long q5), .second, .val (.int ad), .val (.int v23_12), .val (.int v36_s0), .val (.int v51_s0), .unset, .unset, .unset, .unset, .unset, .unset, .unset, .unset, .unset, .unset, .unset] [(.long (q1 &&& (9223372036854775807 : Int64)))])) (fun _ k => XS.land X0.here hx rfl (hb hby at_57) rfl k) ?_
        refine Go.step (g' := (mkF m 60 #[.val (.int p0), .val (.long q1), .second, .val (.long q2), .second, .val (.long q3), .second, .val (.long q4), .second, .val (.long q5), .second, .val (.int ad), .val (.int v23_12), .val (.int v36_s0), .val (.int v51_s0), .val (.long (q1 &&& (9223372036854775807 : Int64))), .second, .unset, .unset, .unset, .unset, .unset, .unset, .unset, .unset, .unset] [])) (fun _ k => XS.lstore X0.here hx rfl (hb hby at_58) rfl (l' := #[.val (.int p0), .val (.long q1), .second, .val (.long q2), .second, .val (.long q3), .second, .val (.long q4), .second, .val (.long q5), .second, .val (.int ad), .val (.int v23_12), .val (.int v36_s0), .val (.int v51_s0), .val (.long (q1 &&& (9223372036854775807 : Int64))), .second, .unset, .unset, .unset, .unset, .unset, .unset, .unset, .unset, .unset]) rfl k) ?_
        generalize haa : (q1 &&& (9223372036854775807 : Int64)) = aa
        have aa0 : ¬ aa < 0 := haa ▸ own_key _
        refine Go.step (g' := (mkF m 61 #[.val (.int p0), .val (.long q1), .second, .val (.long q2), .second, .val (.long q3), .second, .val (.long q4), .second, .val (.long q5), .second, .val (.int ad), .val (.int v23_12), .val (.int v36_s0), .val (.int v51_s0), .val (.long aa), .second, .unset, .unset, .unset, .unset, .unset, .unset, .unset, .unset, .unset] [(.long q2)])) (fun _ k => XS.lloadN X0.here hx rfl (hb hby at_60) rfl  k) ?_
        refine Go.step (g' := (mkF m 64 #[.val (.int p0), .val (.long q1), .second, .val (.long q2), .second, .val (.long q3), .second, .val (.long q4), .second, .val (.long q5), .second, .val (.int ad), .val (.int v23_12), .val (.int v36_s0), .val (.int v51_s0), .val (.long aa), .second, .unset, .unset, .unset, .unset, .unset, .unset, .unset, .unset, .unset] [(.long (9223372036854775807 : Int64)), (.long q2)])) (fun _ k => X0.ldc2J hx hown (mvT hZ (hw _ (List.mem_of_getElem? (i := 0) rfl))) rfl (hb hby at_61) k) ?_
        refine Go.step (g' := (mkF m 65 #[.val (.int p0), .val (.long q1), .second, .val (.long q2), .second, .val (.long q3), .second, .val (.long q4), .second, .val (.long q5), .second, .val (.int ad), .val (.int v23_12), .val (.int v36_s0), .val (.int v51_s0), .val (.long aa), .second, .unset, .unset, .unset, .unset, .unset, .unset, .unset, .unset, .unset] [(.long (q2 &&& (9223372036854775807 : Int64)))])) (fun _ k => XS.land X0.here hx rfl (hb hby at_64) rfl k) ?_
        refine Go.step (g' := (mkF m 67 #[.val (.int p0), .val (.long q1), .second, .val (.long q2), .second, .val (.long q3), .second, .val (.long q4), .second, .val (.long q5), .second, .val (.int ad), .val (.int v23_12), .val (.int v36_s0), .val (.int v51_s0), .val (.long aa), .second, .val (.long (q2 &&& (9223372036854775807 : Int64))), .second, .unset, .unset, .unset, .unset, .unset, .unset, .unset] [])) (fun _ k => XS.lstore X0.here hx rfl (hb hby at_65) rfl (l' := #[.val (.int p0), .val (.long q1), .second, .val (.long q2), .second, .val (.long q3), .second, .val (.long q4), .second, .val (.long q5), .second, .val (.int ad), .val (.int v23_12), .val (.int v36_s0), .val (.int v51_s0), .val (.long aa), .second, .val (.long (q2 &&& (9223372036854775807 : Int64))), .second, .unset, .unset, .unset, .unset, .unset, .unset, .unset]) rfl k) ?_
        generalize hbb : (q2 &&& (9223372036854775807 : Int64)) = bb
        have bb0 : ¬ bb < 0 := hbb ▸ own_key _
        refine Go.step (g' := (mkF m 69 #[.val (.int p0), .val (.long q1), .second, .val (.long q2), .second, .val (.long q3), .second, .val (.long q4), .second, .val (.long q5), .second, .val (.int ad), .val (.int v23_12), .val (.int v36_s0), .val (.int v51_s0), .val (.long aa), .second, .val (.long bb), .second, .unset, .unset, .unset, .unset, .unset, .unset, .unset] [(.long q3)])) (fun _ k => XS.lload X0.here hx rfl (hb hby at_67) rfl  k) ?_
        refine Go.step (g' := (mkF m 72 #[.val (.int p0), .val (.long q1), .second, .val (.long q2), .second, .val (.long q3), .second, .val (.long q4), .second, .val (.long q5), .second, .val (.int ad), .val (.int v23_12), .val (.int v36_s0), .val (.int v51_s0), .val (.long aa), .second, .val (.long bb), .second, .unset, .unset, .unset, .unset, .unset, .unset, .unset] [(.long (9223372036854775807 : Int64)), (.long q3)])) (fun _ k => X0.ldc2J hx hown (mvT hZ (hw _ (List.mem_of_getElem? (i := 0) rfl))) rfl (hb hby at_69) k) ?_
        refine Go.step (g' := (mkF m 73 #[.val (.int p0), .val (.long q1), .second, .val (.long q2), .second, .val (.long q3), .second, .val (.long q4), .second, .val (.long q5), .second, .val (.int ad), .val (.int v23_12), .val (.int v36_s0), .val (.int v51_s0), .val (.long aa), .second, .val (.long bb), .second, .unset, .unset, .unset, .unset, .unset, .unset, .unset] [(.long (q3 &&& (9223372036854775807 : Int64)))])) (fun _ k => XS.land X0.here hx rfl (hb hby at_72) rfl k) ?_
        refine Go.step (g' := (mkF m 75 #[.val (.int p0), .val (.long q1), .second, .val (.long q2), .second, .val (.long q3), .second, .val (.long q4), .second, .val (.long q5), .second, .val (.int ad), .val (.int v23_12), .val (.int v36_s0), .val (.int v51_s0), .val (.long aa), .second, .val (.long bb), .second, .val (.long (q3 &&& (9223372036854775807 : Int64))), .second, .unset, .unset, .unset, .unset, .unset] [])) (fun _ k => XS.lstore X0.here hx rfl (hb hby at_73) rfl (l' := #[.val (.int p0), .val (.long q1), .second, .val (.long q2), .second, .val (.long q3), .second, .val (.long q4), .second, .val (.long q5), .second, .val (.int ad), .val (.int v23_12), .val (.int v36_s0), .val (.int v51_s0), .val (.long aa), .second, .val (.long bb), .second, .val (.long (q3 &&& (9223372036854775807 : Int64))), .second, .unset, .unset, .unset, .unset, .unset]) rfl k) ?_
        generalize hcc : (q3 &&& (9223372036854775807 : Int64)) = cc
        have cc0 : ¬ cc < 0 := hcc ▸ own_key _
        refine Go.step (g' := (mkF m 77 #[.val (.int p0), .val (.long q1), .second, .val (.long q2), .second, .val (.long q3), .second, .val (.long q4), .second, .val (.long q5), .second, .val (.int ad), .val (.int v23_12), .val (.int v36_s0), .val (.int v51_s0), .val (.long aa), .second, .val (.long bb), .second, .val (.long cc), .second, .unset, .unset, .unset, .unset, .unset] [(.long q4)])) (fun _ k => XS.lload X0.here hx rfl (hb hby at_75) rfl  k) ?_
        refine Go.step (g' := (mkF m 80 #[.val (.int p0), .val (.long q1), .second, .val (.long q2), .second, .val (.long q3), .second, .val (.long q4), .second, .val (.long q5), .second, .val (.int ad), .val (.int v23_12), .val (.int v36_s0), .val (.int v51_s0), .val (.long aa), .second, .val (.long bb), .second, .val (.long cc), .second, .unset, .unset, .unset, .unset, .unset] [(.long (9223372036854775807 : Int64)), (.long q4)])) (fun _ k => X0.ldc2J hx hown (mvT hZ (hw _ (List.mem_of_getElem? (i := 0) rfl))) rfl (hb hby at_77) k) ?_
        refine Go.step (g' := (mkF m 81 #[.val (.int p0), .val (.long q1), .second, .val (.long q2), .second, .val (.long q3), .second, .val (.long q4), .second, .val (.long q5), .second, .val (.int ad), .val (.int v23_12), .val (.int v36_s0), .val (.int v51_s0), .val (.long aa), .second, .val (.long bb), .second, .val (.long cc), .second, .unset, .unset, .unset, .unset, .unset] [(.long (q4 &&& (9223372036854775807 : Int64)))])) (fun _ k => XS.land X0.here hx rfl (hb hby at_80) rfl k) ?_
        refine Go.step (g' := (mkF m 83 #[.val (.int p0), .val (.long q1), .second, .val (.long q2), .second, .val (.long q3), .second, .val (.long q4), .second, .val (.long q5), .second, .val (.int ad), .val (.int v23_12), .val (.int v36_s0), .val (.int v51_s0), .val (.long aa), .second, .val (.long bb), .second, .val (.long cc), .second, .unset, .unset, .unset, .unset, .unset] [(.long aa), (.long (q4 &&& (9223372036854775807 : Int64)))])) (fun _ k => XS.lload X0.here hx rfl (hb hby at_81) rfl  k) ?_
        refine Go.step (g' := (mkF m 85 #[.val (.int p0), .val (.long q1), .second, .val (.long q2), .second, .val (.long q3), .second, .val (.long q4), .second, .val (.long q5), .second, .val (.int ad), .val (.int v23_12), .val (.int v36_s0), .val (.int v51_s0), .val (.long aa), .second, .val (.long bb), .second, .val (.long cc), .second, .unset, .unset, .unset, .unset, .unset] [(.long bb), (.long aa), (.long (q4 &&& (9223372036854775807 : Int64)))])) (fun _ k => XS.lload X0.here hx rfl (hb hby at_83) rfl  k) ?_
        refine Go.step (g' := (mkF m 87 #[.val (.int p0), .val (.long q1), .second, .val (.long q2), .second, .val (.long q3), .second, .val (.long q4), .second, .val (.long q5), .second, .val (.int ad), .val (.int v23_12), .val (.int v36_s0), .val (.int v51_s0), .val (.long aa), .second, .val (.long bb), .second, .val (.long cc), .second, .unset, .unset, .unset, .unset, .unset] [(.long cc), (.long bb), (.long aa), (.long (q4 &&& (9223372036854775807 : Int64)))])) (fun _ k => XS.lload X0.here hx rfl (hb hby at_85) rfl  k) ?_
        obtain ⟨_, _, ⟨T1, L1, k1, n1⟩, -, X1, ⟨Lc1, hQ1, l1, y1, z1⟩, st1⟩ := Jvm.LawKit.callS X0 hx (y := (⟨"java/lang/Math", "max", "(JJ)J"⟩ : MethodName)) hown (mvT hZ (hw _ (List.mem_of_getElem? (i := 1) rfl))) (mvT hZ (hw _ (List.mem_of_getElem? (i := 2) rfl))) (mvT hZ (hw _ (List.mem_of_getElem? (i := 3) rfl))) (mvT hZ (hw _ (List.mem_of_getElem? (i := 4) rfl))) (by decide) (backOf (W := 4) (rm1 l Z a0 hw [] bb cc h0 ) hZ (hw _ (List.mem_of_getElem? (i := 4) rfl)) (hw _ (List.mem_of_getElem? (i := 3) rfl)) (by decide) (by decide)) (g := (mkF m 87 #[.val (.int p0), .val (.long q1), .second, .val (.long q2), .second, .val (.long q3), .second, .val (.long q4), .second, .val (.long q5), .second, .val (.int ad), .val (.int v23_12), .val (.int v36_s0), .val (.int v51_s0), .val (.long aa), .second, .val (.long bb), .second, .val (.long cc), .second, .unset, .unset, .unset, .unset, .unset] [(.long cc), (.long bb), (.long aa), (.long (q4 &&& (9223372036854775807 : Int64)))])) rfl (by rw [hml]; rfl) (argsL := [(.long bb), (.long cc)]) (rest := [(.long aa), (.long (q4 &&& (9223372036854775807 : Int64)))]) (lenOf pd_3 rfl) rfl (by show 2 * 0 + _ ≤ _; exact Nat.le_of_eq rfl) (hb hby at_87) (fun _ _ => ⟨rfl, e0, (by decide : 0 + 0 ≤ _), (by decide : 0 + 0 ≤ _)⟩)
        dsimp only [Pt.U, Pt.locs, Pt.cells, Pt.slots] at X1 l1 y1 z1 st1 hQ1
        subst l1 y1 z1
        obtain ⟨rfl, rfl, e1⟩ := hQ1
        try rw [List.append_nil] at X1
        refine Go.step (g' := (mkF m 90 #[.val (.int p0), .val (.long q1), .second, .val (.long q2), .second, .val (.long q3), .second, .val (.long q4), .second, .val (.long q5), .second, .val (.int ad), .val (.int v23_12), .val (.int v36_s0), .val (.int v51_s0), .val (.long aa), .second, .val (.long bb), .second, .val (.long cc), .second, .unset, .unset, .unset, .unset, .unset] [(.long (f1_0 bb cc)), (.long aa), (.long (q4 &&& (9223372036854775807 : Int64)))])) st1 ?_
        obtain ⟨_, _, ⟨T2, L2, k2, n2⟩, -, X2, ⟨Lc2, hQ2, l2, y2, z2⟩, st2⟩ := Jvm.LawKit.callS X1 hx (y := (⟨"java/lang/Math", "max", "(JJ)J"⟩ : MethodName)) hown (mvT hZ (hw _ (List.mem_of_getElem? (i := 1) rfl))) (mvT hZ (hw _ (List.mem_of_getElem? (i := 2) rfl))) (mvT hZ (hw _ (List.mem_of_getElem? (i := 3) rfl))) (mvT hZ (hw _ (List.mem_of_getElem? (i := 4) rfl))) (by decide) (backOf (W := 2) (rm1 l Z a0 hw [] aa (f1_0 bb cc) h0 ) hZ (hw _ (List.mem_of_getElem? (i := 4) rfl)) (hw _ (List.mem_of_getElem? (i := 3) rfl)) (by decide) (by decide)) (g := (mkF m 90 #[.val (.int p0), .val (.long q1), .second, .val (.long q2), .second, .val (.long q3), .second, .val (.long q4), .second, .val (.long q5), .second, .val (.int ad), .val (.int v23_12), .val (.int v36_s0), .val (.int v51_s0), .val (.long aa), .second, .val (.long bb), .second, .val (.long cc), .second, .unset, .unset, .unset, .unset, .unset] [(.long (f1_0 bb cc)), (.long aa), (.long (q4 &&& (9223372036854775807 : Int64)))])) rfl (by rw [hml]; rfl) (argsL := [(.long aa), (.long (f1_0 bb cc))]) (rest := [(.long (q4 &&& (9223372036854775807 : Int64)))]) (lenOf pd_3 rfl) rfl (by show 2 * 0 + _ ≤ _; exact Nat.le_of_eq rfl) (hb hby at_90) (fun _ _ => ⟨rfl, e1, (by decide : 0 + 0 ≤ _), (by decide : 0 + 0 ≤ _)⟩)
        dsimp only [Pt.U, Pt.locs, Pt.cells, Pt.slots] at X2 l2 y2 z2 st2 hQ2
        subst l2 y2 z2
        obtain ⟨rfl, rfl, e2⟩ := hQ2
        try rw [List.append_nil] at X2
        refine Go.step (g' := (mkF m 93 #[.val (.int p0), .val (.long q1), .second, .val (.long q2), .second, .val (.long q3), .second, .val (.long q4), .second, .val (.long q5), .second, .val (.int ad), .val (.int v23_12), .val (.int v36_s0), .val (.int v51_s0), .val (.long aa), .second, .val (.long bb), .second, .val (.long cc), .second, .unset, .unset, .unset, .unset, .unset] [(.long (f1_0 aa (f1_0 bb cc))), (.long (q4 &&& (9223372036854775807 : Int64)))])) st2 ?_
        obtain ⟨_, _, ⟨T3, L3, k3, n3⟩, -, X3, ⟨Lc3, hQ3, l3, y3, z3⟩, st3⟩ := Jvm.LawKit.callS X2 hx (y := (⟨"java/lang/Math", "max", "(JJ)J"⟩ : MethodName)) hown (mvT hZ (hw _ (List.mem_of_getElem? (i := 1) rfl))) (mvT hZ (hw _ (List.mem_of_getElem? (i := 2) rfl))) (mvT hZ (hw _ (List.mem_of_getElem? (i := 3) rfl))) (mvT hZ (hw _ (List.mem_of_getElem? (i := 4) rfl))) (by decide) (backOf (W := 0) (rm1 l Z a0 hw [] (q4 &&& (9223372036854775807 : Int64)) (f1_0 aa (f1_0 bb cc)) h0 ) hZ (hw _ (List.mem_of_getElem? (i := 4) rfl)) (hw _ (List.mem_of_getElem? (i := 3) rfl)) (by decide) (by decide)) (g := (mkF m 93 #[.val (.int p0), .val (.long q1), .second, .val (.long q2), .second, .val (.long q3), .second, .val (.long q4), .second, .val (.long q5), .second, .val (.int ad), .val (.int v23_12), .val (.int v36_s0), .val (.int v51_s0), .val (.long aa), .second, .val (.long bb), .second, .val (.long cc), .second, .unset, .unset, .unset, .unset, .unset] [(.long (f1_0 aa (f1_0 bb cc))), (.long (q4 &&& (9223372036854775807 : Int64)))])) rfl (by rw [hml]; rfl) (argsL := [(.long (q4 &&& (9223372036854775807 : Int64))), (.long (f1_0 aa (f1_0 bb cc)))]) (rest := []) (lenOf pd_3 rfl) rfl (by show 2 * 0 + _ ≤ _; exact Nat.le_of_eq rfl) (hb hby at_93) (fun _ _ => ⟨rfl, e2, (by decide : 0 + 0 ≤ _), (by decide : 0 + 0 ≤ _)⟩)
        dsimp only [Pt.U, Pt.locs, Pt.cells, Pt.slots] at X3 l3 y3 z3 st3 hQ3
        subst l3 y3 z3
        obtain ⟨rfl, rfl, e3⟩ := hQ3
        try rw [List.append_nil] at X3
        refine Go.step (g' := (mkF m 96 #[.val (.int p0), .val (.long q1), .second, .val (.long q2), .second, .val (.long q3), .second, .val (.long q4), .second, .val (.long q5), .second, .val (.int ad), .val (.int v23_12), .val (.int v36_s0), .val (.int v51_s0), .val (.long aa), .second, .val (.long bb), .second, .val (.long cc), .second, .unset, .unset, .unset, .unset, .unset] [(.long (f1_0 (q4 &&& (9223372036854775807 : Int64)) (f1_0 aa (f1_0 bb cc))))])) st3 ?_
        refine Go.step (g' := (mkF m 98 #[.val (.int p0), .val (.long q1), .second, .val (.long q2), .second, .val (.long q3), .second, .val (.long q4), .second, .val (.long q5), .second, .val (.int ad), .val (.int v23_12), .val (.int v36_s0), .val (.int v51_s0), .val (.long aa), .second, .val (.long bb), .second, .val (.long cc), .second, .val (.long (f1_0 (q4 &&& (9223372036854775807 : Int64)) (f1_0 aa (f1_0 bb cc)))), .second, .unset, .unset, .unset] [])) (fun _ k => XS.lstore X3.here hx rfl (hb hby at_96) rfl (l' := #[.val (.int p0), .val (.long q1), .second, .val (.long q2), .second, .val (.long q3), .second, .val (.long q4), .second, .val (.long q5), .second, .val (.int ad), .val (.int v23_12), .val (.int v36_s0), .val (.int v51_s0), .val (.long aa), .second, .val (.long bb), .second, .val (.long cc), .second, .val (.long (f1_0 (q4 &&& (9223372036854775807 : Int64)) (f1_0 aa (f1_0 bb cc)))), .second, .unset, .unset, .unset]) rfl k) ?_
        generalize hdd : (f1_0 (q4 &&& (9223372036854775807 : Int64)) (f1_0 aa (f1_0 bb cc))) = dd
        obtain ⟨dd1, dd2, dd3⟩ := own_dd hdd
        have dd0 := own_dd0 aa0 dd1
        obtain ⟨T4, h4, X4, e4, E4, A4, D4, -, st4⟩ := newO X3 hx hZ hown (hw _ (List.mem_of_getElem? (i := 5) rfl)) (hw _ (List.mem_of_getElem? (i := 6) rfl)) (hw _ (List.mem_of_getElem? (i := 7) rfl)) e3 (g := (mkF m 98 #[.val (.int p0), .val (.long q1), .second, .val (.long q2), .second, .val (.long q3), .second, .val (.long q4), .second, .val (.long q5), .second, .val (.int ad), .val (.int v23_12), .val (.int v36_s0), .val (.int v51_s0), .val (.long aa), .second, .val (.long bb), .second, .val (.long cc), .second, .val (.long dd), .second, .unset, .unset, .unset] [])) rfl (hb hby at_98) (by decide) (by decide)
        obtain ⟨b4, g4⟩ : ∃ z, z = h0.size := ⟨_, rfl⟩
        rw [← g4] at A4 D4 st4
        have g_b4 : n0 ≤ b4 := Nat.le_trans Z0 (Nat.le_of_eq g4.symm)
        have sz_b4 : h0.size ≤ b4 := Nat.le_trans (Keep.refl h0 []).1 (Nat.le_of_eq g4.symm)
        have F4_keys : Fld Z h4 b4 "com/example/redelivery/redelivery/RadixHeap" "keys" "[[J" .null := D4 (Or.inr (hw _ (List.mem_of_getElem? (i := 17) rfl))) (ty := (.array (.array .long))) (by decide)
        have F4_values : Fld Z h4 b4 "com/example/redelivery/redelivery/RadixHeap" "values" "[[J" .null := D4 (Or.inr (hw _ (List.mem_of_getElem? (i := 19) rfl))) (ty := (.array (.array .long))) (by decide)
        have F4_sizes : Fld Z h4 b4 "com/example/redelivery/redelivery/RadixHeap" "sizes" "[I" .null := D4 (Or.inr (hw _ (List.mem_of_getElem? (i := 22) rfl))) (ty := (.array .int)) (by decide)
        have F4_leastKeys : Fld Z h4 b4 "com/example/redelivery/redelivery/RadixHeap" "leastKeys" "[J" .null := D4 (Or.inr (hw _ (List.mem_of_getElem? (i := 25) rfl))) (ty := (.array .long)) (by decide)
        have F4_size : Fld Z h4 b4 "com/example/redelivery/redelivery/RadixHeap" "size" "I" (.int (0 : Int32)) := D4 (Or.inl (hw _ (List.mem_of_getElem? (i := 36) rfl))) (ty := .int) (by decide)
        have F4_last : Fld Z h4 b4 "com/example/redelivery/redelivery/RadixHeap" "last" "J" (.long (0 : Int64)) := D4 (Or.inl (hw _ (List.mem_of_getElem? (i := 43) rfl))) (ty := .long) (by decide)
        have F4_inUse : Fld Z h4 b4 "com/example/redelivery/redelivery/RadixHeap" "inUse" "J" (.long (0 : Int64)) := D4 (Or.inl (hw _ (List.mem_of_getElem? (i := 63) rfl))) (ty := .long) (by decide)
        refine Go.step (g' := (mkF m 101 #[.val (.int p0), .val (.long q1), .second, .val (.long q2), .second, .val (.long q3), .second, .val (.long q4), .second, .val (.long q5), .second, .val (.int ad), .val (.int v23_12), .val (.int v36_s0), .val (.int v51_s0), .val (.long aa), .second, .val (.long bb), .second, .val (.long cc), .second, .val (.long dd), .second, .unset, .unset, .unset] [(.ref b4)])) st4 ?_
        refine Go.step (g' := (mkF m 102 #[.val (.int p0), .val (.long q1), .second, .val (.long q2), .second, .val (.long q3), .second, .val (.long q4), .second, .val (.long q5), .second, .val (.int ad), .val (.int v23_12), .val (.int v36_s0), .val (.int v51_s0), .val (.long aa), .second, .val (.long bb), .second, .val (.long cc), .second, .val (.long dd), .second, .unset, .unset, .unset] [(.ref b4), (.ref b4)])) (fun _ k => XS.dup X4.here hx rfl (hb hby at_101) rfl rfl k) ?_
        obtain ⟨_, _, ⟨T5, L5, k5, n5⟩, -, X5, ⟨Lc5, hQ5, l5, y5, z5⟩, st5⟩ := X4.specialBack hx (y := (⟨"com/example/redelivery/redelivery/RadixHeap", "<init>", "()V"⟩ : MethodName)) rfl hown (mvT hZ (hw _ (List.mem_of_getElem? (i := 8) rfl))) (mvT hZ (hw _ (List.mem_of_getElem? (i := 9) rfl))) (mvT hZ (hw _ (List.mem_of_getElem? (i := 10) rfl))) (by decide) (backOf (W := 1) (rm2 l Z a0 hw [] b4 dd h4 n0 (Nat.le_trans Z0 E4.1) A4 g_b4 F4_keys F4_values F4_sizes F4_leastKeys F4_inUse F4_last F4_size) hZ (hw _ (List.mem_of_getElem? (i := 10) rfl)) (hw _ (List.mem_of_getElem? (i := 7) rfl)) (by decide) (by decide)) (g := (mkF m 102 #[.val (.int p0), .val (.long q1), .second, .val (.long q2), .second, .val (.long q3), .second, .val (.long q4), .second, .val (.long q5), .second, .val (.int ad), .val (.int v23_12), .val (.int v36_s0), .val (.int v51_s0), .val (.long aa), .second, .val (.long bb), .second, .val (.long cc), .second, .val (.long dd), .second, .unset, .unset, .unset] [(.ref b4), (.ref b4)])) rfl (by rw [hml]; rfl) (Steps.refl _) (a := b4) (argsL := []) (rest := [(.ref b4)]) (lenOf pd_5 rfl) rfl (by show 2 * 0 + _ ≤ _; exact Nat.le_of_eq rfl) (hb hby at_102) (fun _ _ => ⟨rfl, e4, (by decide : (0 + 1) + 4 ≤ _), (by decide : (0 + 7) + 256 ≤ _)⟩)
        dsimp only [Pt.U, Pt.locs, Pt.cells, Pt.slots] at X5 l5 y5 z5 st5 hQ5
        subst l5 y5 z5
        obtain ⟨rfl, N5q, R5⟩ := hQ5
        obtain ⟨lc5, X5, N5⟩ := own_pack X5 (Fr.app N0 N5q)
        refine Go.step (g' := (mkF m 105 #[.val (.int p0), .val (.long q1), .second, .val (.long q2), .second, .val (.long q3), .second, .val (.long q4), .second, .val (.long q5), .second, .val (.int ad), .val (.int v23_12), .val (.int v36_s0), .val (.int v51_s0), .val (.long aa), .second, .val (.long bb), .second, .val (.long cc), .second, .val (.long dd), .second, .unset, .unset, .unset] [(.ref b4)])) (fun _ k => st5.trans k) ?_
        refine Go.step (g' := (mkF m 107 #[.val (.int p0), .val (.long q1), .second, .val (.long q2), .second, .val (.long q3), .second, .val (.long q4), .second, .val (.long q5), .second, .val (.int ad), .val (.int v23_12), .val (.int v36_s0), .val (.int v51_s0), .val (.long aa), .second, .val (.long bb), .second, .val (.long cc), .second, .val (.long dd), .second, .val (.ref b4), .unset, .unset] [])) (fun _ k => XS.astore X5.here hx rfl (hb hby at_105) rfl rfl (l' := #[.val (.int p0), .val (.long q1), .second, .val (.long q2), .second, .val (.long q3), .second, .val (.long q4), .second, .val (.long q5), .second, .val (.int ad), .val (.int v23_12), .val (.int v36_s0), .val (.int v51_s0), .val (.long aa), .second, .val (.long bb), .second, .val (.long cc), .second, .val (.long dd), .second, .val (.ref b4), .unset, .unset]) rfl k) ?_
        refine Go.step (g' := (mkF m 108 #[.val (.int p0), .val (.long q1), .second, .val (.long q2), .second, .val (.long q3), .second, .val (.long q4), .second, .val (.long q5), .second, .val (.int ad), .val (.int v23_12), .val (.int v36_s0), .val (.int v51_s0), .val (.long aa), .second, .val (.long bb), .second, .val (.long cc), .second, .val (.long dd), .second, .val (.ref b4), .unset, .unset] [(.int (0 : Int32))])) (fun _ k => XS.iconst X5.here hx rfl (hb hby at_107) k) ?_
        refine Go.step (g' := (mkF m 110 #[.val (.int p0), .val (.long q1), .second, .val (.long q2), .second, .val (.long q3), .second, .val (.long q4), .second, .val (.long q5), .second, .val (.int ad), .val (.int v23_12), .val (.int v36_s0), .val (.int v51_s0), .val (.long aa), .second, .val (.long bb), .second, .val (.long cc), .second, .val (.long dd), .second, .val (.ref b4), .val (.int (0 : Int32)), .unset] [])) (fun _ k => XS.istore X5.here hx rfl (hb hby at_108) rfl (l' := #[.val (.int p0), .val (.long q1), .second, .val (.long q2), .second, .val (.long q3), .second, .val (.long q4), .second, .val (.long q5), .second, .val (.int ad), .val (.int v23_12), .val (.int v36_s0), .val (.int v51_s0), .val (.long aa), .second, .val (.long bb), .second, .val (.long cc), .second, .val (.long dd), .second, .val (.ref b4), .val (.int (0 : Int32)), .unset]) rfl k) ?_
        refine Go.step (g' := (mkF m 112 #[.val (.int p0), .val (.long q1), .second, .val (.long q2), .second, .val (.long q3), .second, .val (.long q4), .second, .val (.long q5), .second, .val (.int ad), .val (.int v23_12), .val (.int v36_s0), .val (.int v51_s0), .val (.long aa), .second, .val (.long bb), .second, .val (.long cc), .second, .val (.long dd), .second, .val (.ref b4), .val (.int (0 : Int32)), .unset] [(.ref b4)])) (fun _ k => XS.aload X5.here hx rfl (hb hby at_110) rfl rfl  k) ?_
        refine Go.step (g' := (mkF m 114 #[.val (.int p0), .val (.long q1), .second, .val (.long q2), .second, .val (.long q3), .second, .val (.long q4), .second, .val (.long q5), .second, .val (.int ad), .val (.int v23_12), .val (.int v36_s0), .val (.int v51_s0), .val (.long aa), .second, .val (.long bb), .second, .val (.long cc), .second, .val (.long dd), .second, .val (.ref b4), .val (.int (0 : Int32)), .unset] [(.int (0 : Int32)), (.ref b4)])) (fun _ k => XS.iload X5.here hx rfl (hb hby at_112) rfl  k) ?_
        obtain ⟨_, _, ⟨T6, L6, k6, n6⟩, -, X6, ⟨Lc6, hQ6, l6, y6, z6⟩, st6⟩ := Jvm.LawKit.callS X5 hx (y := (⟨"com/example/redelivery/redelivery/RadixHeapIsEmptyPinLaw", "agree", "(Lcom/example/redelivery/redelivery/RadixHeap;I)Z"⟩ : MethodName)) hown (mvT hZ (hw _ (List.mem_of_getElem? (i := 26) rfl))) (mvT hZ (hw _ (List.mem_of_getElem? (i := 27) rfl))) (mvT hZ (hw _ (List.mem_of_getElem? (i := 28) rfl))) (mvT hZ (hw _ (List.mem_of_getElem? (i := 29) rfl))) (by decide) (backOf (W := 0) (rm4 l Z a0 hw [] b4 (0 : Int32) (0 : Int32) T5.heap R5.size R5.exa) hZ (hw _ (List.mem_of_getElem? (i := 29) rfl)) (hw _ (List.mem_of_getElem? (i := 28) rfl)) (by decide) (by decide)) (g := (mkF m 114 #[.val (.int p0), .val (.long q1), .second, .val (.long q2), .second, .val (.long q3), .second, .val (.long q4), .second, .val (.long q5), .second, .val (.int ad), .val (.int v23_12), .val (.int v36_s0), .val (.int v51_s0), .val (.long aa), .second, .val (.long bb), .second, .val (.long cc), .second, .val (.long dd), .second, .val (.ref b4), .val (.int (0 : Int32)), .unset] [(.int (0 : Int32)), (.ref b4)])) rfl (by rw [hml]; rfl) (argsL := [(.ref b4), (.int (0 : Int32))]) (rest := []) (lenOf pd_7 rfl) rfl (by show 2 * 0 + _ ≤ _; exact Nat.le_of_eq rfl) (hb hby at_114) (fun _ _ => ⟨rfl, rfl, (by decide : ((0 + 1) + 4) + 0 ≤ _), (by decide : ((0 + 7) + 256) + 0 ≤ _)⟩)
        dsimp only [Pt.U, Pt.locs, Pt.cells, Pt.slots] at X6 l6 y6 z6 st6 hQ6
        subst l6 y6 z6
        obtain ⟨rfl, rfl, e6⟩ := hQ6
        try rw [List.append_nil] at X6
        refine Go.step (g' := (mkF m 117 #[.val (.int p0), .val (.long q1), .second, .val (.long q2), .second, .val (.long q3), .second, .val (.long q4), .second, .val (.long q5), .second, .val (.int ad), .val (.int v23_12), .val (.int v36_s0), .val (.int v51_s0), .val (.long aa), .second, .val (.long bb), .second, .val (.long cc), .second, .val (.long dd), .second, .val (.ref b4), .val (.int (0 : Int32)), .unset] [(.int (f4_0 (0 : Int32) (0 : Int32)))])) st6 ?_
        rw [show (f4_0 (0 : Int32) (0 : Int32)) = (1 : Int32) from own_agree _]
        refine Go.step (g' := (mkF m 119 #[.val (.int p0), .val (.long q1), .second, .val (.long q2), .second, .val (.long q3), .second, .val (.long q4), .second, .val (.long q5), .second, .val (.int ad), .val (.int v23_12), .val (.int v36_s0), .val (.int v51_s0), .val (.long aa), .second, .val (.long bb), .second, .val (.long cc), .second, .val (.long dd), .second, .val (.ref b4), .val (.int (0 : Int32)), .val (.int (1 : Int32))] [])) (fun _ k => XS.istore X6.here hx rfl (hb hby at_117) rfl (l' := #[.val (.int p0), .val (.long q1), .second, .val (.long q2), .second, .val (.long q3), .second, .val (.long q4), .second, .val (.long q5), .second, .val (.int ad), .val (.int v23_12), .val (.int v36_s0), .val (.int v51_s0), .val (.long aa), .second, .val (.long bb), .second, .val (.long cc), .second, .val (.long dd), .second, .val (.ref b4), .val (.int (0 : Int32)), .val (.int (1 : Int32))]) rfl k) ?_
        refine Go.step (g' := (mkF m 121 #[.val (.int p0), .val (.long q1), .second, .val (.long q2), .second, .val (.long q3), .second, .val (.long q4), .second, .val (.long q5), .second, .val (.int ad), .val (.int v23_12), .val (.int v36_s0), .val (.int v51_s0), .val (.long aa), .second, .val (.long bb), .second, .val (.long cc), .second, .val (.long dd), .second, .val (.ref b4), .val (.int (0 : Int32)), .val (.int (1 : Int32))] [(.int ad)])) (fun _ k => XS.iload X6.here hx rfl (hb hby at_119) rfl  k) ?_
        refine Go.step (g' := (mkF m 122 #[.val (.int p0), .val (.long q1), .second, .val (.long q2), .second, .val (.long q3), .second, .val (.long q4), .second, .val (.long q5), .second, .val (.int ad), .val (.int v23_12), .val (.int v36_s0), .val (.int v51_s0), .val (.long aa), .second, .val (.long bb), .second, .val (.long cc), .second, .val (.long dd), .second, .val (.ref b4), .val (.int (0 : Int32)), .val (.int (1 : Int32))] [(.int (1 : Int32)), (.int ad)])) (fun _ k => XS.iconst X6.here hx rfl (hb hby at_121) k) ?_
        have t159 : ∀ (T_159 : State) (h_159 : Heap) (lc_159 : List Loc) (X_159 : Stand p l e room_1 s m #[(.int p0), (.long q1), (.long q2), (.long q3), (.long q4), (.long q5)] below meth c T_159 lc_159 7 295) (e_159 : T_159.heap = h_159) (N_159 : Fr n0 lc_159) (ZH_159 : n0 ≤ h_159.size) (v159_24 : Int32) (R_159 : RH Z h_159 n0 b4 v159_24 (0 : Int64) dd) (C_159 : Cnt v159_24 ad 1), Go p e below s room_1.cells room_1.slots (LawQ (some (.int (1 : Int32))) n0) T_159 (mkF m 159 #[.val (.int p0), .val (.long q1), .second, .val (.long q2), .second, .val (.long q3), .second, .val (.long q4), .second, .val (.long q5), .second, .val (.int ad), .val (.int v23_12), .val (.int v36_s0), .val (.int v51_s0), .val (.long aa), .second, .val (.long bb), .second, .val (.long cc), .second, .val (.long dd), .second, .val (.ref b4), .val (.int v159_24), .val (.int (1 : Int32))] []) := by
          intro T_159 h_159 lc_159 X_159 e_159 N_159 ZH_159 v159_24 R_159 C_159
          refine Go.step (g' := (mkF m 161 #[.val (.int p0), .val (.long q1), .second, .val (.long q2), .second, .val (.long q3), .second, .val (.long q4), .second, .val (.long q5), .second, .val (.int ad), .val (.int v23_12), .val (.int v36_s0), .val (.int v51_s0), .val (.long aa), .second, .val (.long bb), .second, .val (.long cc), .second, .val (.long dd), .second, .val (.ref b4), .val (.int v159_24), .val (.int (1 : Int32))] [(.int ad)])) (fun _ k => XS.iload X_159.here hx rfl (hb hby at_159) rfl  k) ?_
          refine Go.step (g' := (mkF m 162 #[.val (.int p0), .val (.long q1), .second, .val (.long q2), .second, .val (.long q3), .second, .val (.long q4), .second, .val (.long q5), .second, .val (.int ad), .val (.int v23_12), .val (.int v36_s0), .val (.int v51_s0), .val (.long aa), .second, .val (.long bb), .second, .val (.long cc), .second, .val (.long dd), .second, .val (.ref b4), .val (.int v159_24), .val (.int (1 : Int32))] [(.int (2 : Int32)), (.int ad)])) (fun _ k => XS.iconst X_159.here hx rfl (hb hby at_161) k) ?_
          have t201 : ∀ (T_201 : State) (h_201 : Heap) (lc_201 : List Loc) (X_201 : Stand p l e room_1 s m #[(.int p0), (.long q1), (.long q2), (.long q3), (.long q4), (.long q5)] below meth c T_201 lc_201 9 327) (e_201 : T_201.heap = h_201) (N_201 : Fr n0 lc_201) (ZH_201 : n0 ≤ h_201.size) (v201_24 : Int32) (R_201 : RH Z h_201 n0 b4 v201_24 (0 : Int64) dd) (C_201 : Cnt v201_24 ad 2), Go p e below s room_1.cells room_1.slots (LawQ (some (.int (1 : Int32))) n0) T_201 (mkF m 201 #[.val (.int p0), .val (.long q1), .second, .val (.long q2), .second, .val (.long q3), .second, .val (.long q4), .second, .val (.long q5), .second, .val (.int ad), .val (.int v23_12), .val (.int v36_s0), .val (.int v51_s0), .val (.long aa), .second, .val (.long bb), .second, .val (.long cc), .second, .val (.long dd), .second, .val (.ref b4), .val (.int v201_24), .val (.int (1 : Int32))] []) := by
            intro T_201 h_201 lc_201 X_201 e_201 N_201 ZH_201 v201_24 R_201 C_201
            refine Go.step (g' := (mkF m 203 #[.val (.int p0), .val (.long q1), .second, .val (.long q2), .second, .val (.long q3), .second, .val (.long q4), .second, .val (.long q5), .second, .val (.int ad), .val (.int v23_12), .val (.int v36_s0), .val (.int v51_s0), .val (.long aa), .second, .val (.long bb), .second, .val (.long cc), .second, .val (.long dd), .second, .val (.ref b4), .val (.int v201_24), .val (.int (1 : Int32))] [(.int ad)])) (fun _ k => XS.iload X_201.here hx rfl (hb hby at_201) rfl  k) ?_
            refine Go.step (g' := (mkF m 204 #[.val (.int p0), .val (.long q1), .second, .val (.long q2), .second, .val (.long q3), .second, .val (.long q4), .second, .val (.long q5), .second, .val (.int ad), .val (.int v23_12), .val (.int v36_s0), .val (.int v51_s0), .val (.long aa), .second, .val (.long bb), .second, .val (.long cc), .second, .val (.long dd), .second, .val (.ref b4), .val (.int v201_24), .val (.int (1 : Int32))] [(.int (3 : Int32)), (.int ad)])) (fun _ k => XS.iconst X_201.here hx rfl (hb hby at_203) k) ?_
            have t244 : ∀ (T_244 : State) (h_244 : Heap) (lc_244 : List Loc) (X_244 : Stand p l e room_1 s m #[(.int p0), (.long q1), (.long q2), (.long q3), (.long q4), (.long q5)] below meth c T_244 lc_244 11 359) (e_244 : T_244.heap = h_244) (N_244 : Fr n0 lc_244) (ZH_244 : n0 ≤ h_244.size) (v244_24 : Int32) (R_244 : RH Z h_244 n0 b4 v244_24 dd dd) (C_244 : Tak v244_24 ad v23_12 0), Go p e below s room_1.cells room_1.slots (LawQ (some (.int (1 : Int32))) n0) T_244 (mkF m 244 #[.val (.int p0), .val (.long q1), .second, .val (.long q2), .second, .val (.long q3), .second, .val (.long q4), .second, .val (.long q5), .second, .val (.int ad), .val (.int v23_12), .val (.int v36_s0), .val (.int v51_s0), .val (.long aa), .second, .val (.long bb), .second, .val (.long cc), .second, .val (.long dd), .second, .val (.ref b4), .val (.int v244_24), .val (.int (1 : Int32))] []) := by
              intro T_244 h_244 lc_244 X_244 e_244 N_244 ZH_244 v244_24 R_244 C_244
              refine Go.step (g' := (mkF m 246 #[.val (.int p0), .val (.long q1), .second, .val (.long q2), .second, .val (.long q3), .second, .val (.long q4), .second, .val (.long q5), .second, .val (.int ad), .val (.int v23_12), .val (.int v36_s0), .val (.int v51_s0), .val (.long aa), .second, .val (.long bb), .second, .val (.long cc), .second, .val (.long dd), .second, .val (.ref b4), .val (.int v244_24), .val (.int (1 : Int32))] [(.int v23_12)])) (fun _ k => XS.iload X_244.here hx rfl (hb hby at_244) rfl  k) ?_
              refine Go.step (g' := (mkF m 247 #[.val (.int p0), .val (.long q1), .second, .val (.long q2), .second, .val (.long q3), .second, .val (.long q4), .second, .val (.long q5), .second, .val (.int ad), .val (.int v23_12), .val (.int v36_s0), .val (.int v51_s0), .val (.long aa), .second, .val (.long bb), .second, .val (.long cc), .second, .val (.long dd), .second, .val (.ref b4), .val (.int v244_24), .val (.int (1 : Int32))] [(.int (1 : Int32)), (.int v23_12)])) (fun _ k => XS.iconst X_244.here hx rfl (hb hby at_246) k) ?_
              have t281 : ∀ (T_281 : State) (h_281 : Heap) (lc_281 : List Loc) (X_281 : Stand p l e room_1 s m #[(.int p0), (.long q1), (.long q2), (.long q3), (.long q4), (.long q5)] below meth c T_281 lc_281 17 455) (e_281 : T_281.heap = h_281) (N_281 : Fr n0 lc_281) (ZH_281 : n0 ≤ h_281.size) (v281_24 : Int32) (R_281 : RH Z h_281 n0 b4 v281_24 dd dd) (C_281 : Tak v281_24 ad v23_12 1), Go p e below s room_1.cells room_1.slots (LawQ (some (.int (1 : Int32))) n0) T_281 (mkF m 281 #[.val (.int p0), .val (.long q1), .second, .val (.long q2), .second, .val (.long q3), .second, .val (.long q4), .second, .val (.long q5), .second, .val (.int ad), .val (.int v23_12), .val (.int v36_s0), .val (.int v51_s0), .val (.long aa), .second, .val (.long bb), .second, .val (.long cc), .second, .val (.long dd), .second, .val (.ref b4), .val (.int v281_24), .val (.int (1 : Int32))] []) := by
                intro T_281 h_281 lc_281 X_281 e_281 N_281 ZH_281 v281_24 R_281 C_281
                refine Go.step (g' := (mkF m 283 #[.val (.int p0), .val (.long q1), .second, .val (.long q2), .second, .val (.long q3), .second, .val (.long q4), .second, .val (.long q5), .second, .val (.int ad), .val (.int v23_12), .val (.int v36_s0), .val (.int v51_s0), .val (.long aa), .second, .val (.long bb), .second, .val (.long cc), .second, .val (.long dd), .second, .val (.ref b4), .val (.int v281_24), .val (.int (1 : Int32))] [(.int v23_12)])) (fun _ k => XS.iload X_281.here hx rfl (hb hby at_281) rfl  k) ?_
                refine Go.step (g' := (mkF m 284 #[.val (.int p0), .val (.long q1), .second, .val (.long q2), .second, .val (.long q3), .second, .val (.long q4), .second, .val (.long q5), .second, .val (.int ad), .val (.int v23_12), .val (.int v36_s0), .val (.int v51_s0), .val (.long aa), .second, .val (.long bb), .second, .val (.long cc), .second, .val (.long dd), .second, .val (.ref b4), .val (.int v281_24), .val (.int (1 : Int32))] [(.int (2 : Int32)), (.int v23_12)])) (fun _ k => XS.iconst X_281.here hx rfl (hb hby at_283) k) ?_
                have t318 : ∀ (T_318 : State) (h_318 : Heap) (lc_318 : List Loc) (X_318 : Stand p l e room_1 s m #[(.int p0), (.long q1), (.long q2), (.long q3), (.long q4), (.long q5)] below meth c T_318 lc_318 23 551) (e_318 : T_318.heap = h_318) (N_318 : Fr n0 lc_318) (ZH_318 : n0 ≤ h_318.size) (v318_24 : Int32) (R_318 : RH Z h_318 n0 b4 v318_24 dd dd) (C_318 : Tak v318_24 ad v23_12 2), Go p e below s room_1.cells room_1.slots (LawQ (some (.int (1 : Int32))) n0) T_318 (mkF m 318 #[.val (.int p0), .val (.long q1), .second, .val (.long q2), .second, .val (.long q3), .second, .val (.long q4), .second, .val (.long q5), .second, .val (.int ad), .val (.int v23_12), .val (.int v36_s0), .val (.int v51_s0), .val (.long aa), .second, .val (.long bb), .second, .val (.long cc), .second, .val (.long dd), .second, .val (.ref b4), .val (.int v318_24), .val (.int (1 : Int32))] []) := by
                  intro T_318 h_318 lc_318 X_318 e_318 N_318 ZH_318 v318_24 R_318 C_318
                  refine Go.step (g' := (mkF m 320 #[.val (.int p0), .val (.long q1), .second, .val (.long q2), .second, .val (.long q3), .second, .val (.long q4), .second, .val (.long q5), .second, .val (.int ad), .val (.int v23_12), .val (.int v36_s0), .val (.int v51_s0), .val (.long aa), .second, .val (.long bb), .second, .val (.long cc), .second, .val (.long dd), .second, .val (.ref b4), .val (.int v318_24), .val (.int (1 : Int32))] [(.int v23_12)])) (fun _ k => XS.iload X_318.here hx rfl (hb hby at_318) rfl  k) ?_
                  refine Go.step (g' := (mkF m 321 #[.val (.int p0), .val (.long q1), .second, .val (.long q2), .second, .val (.long q3), .second, .val (.long q4), .second, .val (.long q5), .second, .val (.int ad), .val (.int v23_12), .val (.int v36_s0), .val (.int v51_s0), .val (.long aa), .second, .val (.long bb), .second, .val (.long cc), .second, .val (.long dd), .second, .val (.ref b4), .val (.int v318_24), .val (.int (1 : Int32))] [(.int (3 : Int32)), (.int v23_12)])) (fun _ k => XS.iconst X_318.here hx rfl (hb hby at_320) k) ?_
                  have t355 : ∀ (T_355 : State) (h_355 : Heap) (lc_355 : List Loc) (X_355 : Stand p l e room_1 s m #[(.int p0), (.long q1), (.long q2), (.long q3), (.long q4), (.long q5)] below meth c T_355 lc_355 29 647) (e_355 : T_355.heap = h_355) (N_355 : Fr n0 lc_355) (ZH_355 : n0 ≤ h_355.size) (v355_24 : Int32) (R_355 : RH Z h_355 n0 b4 v355_24 dd dd) (C_355 : Tak v355_24 ad v23_12 3), Go p e below s room_1.cells room_1.slots (LawQ (some (.int (1 : Int32))) n0) T_355 (mkF m 355 #[.val (.int p0), .val (.long q1), .second, .val (.long q2), .second, .val (.long q3), .second, .val (.long q4), .second, .val (.long q5), .second, .val (.int ad), .val (.int v23_12), .val (.int v36_s0), .val (.int v51_s0), .val (.long aa), .second, .val (.long bb), .second, .val (.long cc), .second, .val (.long dd), .second, .val (.ref b4), .val (.int v355_24), .val (.int (1 : Int32))] []) := by
                    intro T_355 h_355 lc_355 X_355 e_355 N_355 ZH_355 v355_24 R_355 C_355
                    refine Go.step (g' := (mkF m 357 #[.val (.int p0), .val (.long q1), .second, .val (.long q2), .second, .val (.long q3), .second, .val (.long q4), .second, .val (.long q5), .second, .val (.int ad), .val (.int v23_12), .val (.int v36_s0), .val (.int v51_s0), .val (.long aa), .second, .val (.long bb), .second, .val (.long cc), .second, .val (.long dd), .second, .val (.ref b4), .val (.int v355_24), .val (.int (1 : Int32))] [(.int v36_s0)])) (fun _ k => XS.iload X_355.here hx rfl (hb hby at_355) rfl  k) ?_
                    by_cases hc357 : v36_s0 = (0 : Int32)
                    · skip
                      refine Go.step (g' := (mkF m 433 #[.val (.int p0), .val (.long q1), .second, .val (.long q2), .second, .val (.long q3), .second, .val (.long q4), .second, .val (.long q5), .second, .val (.int ad), .val (.int v23_12), .val (.int v36_s0), .val (.int v51_s0), .val (.long aa), .second, .val (.long bb), .second, .val (.long cc), .second, .val (.long dd), .second, .val (.ref b4), .val (.int v355_24), .val (.int (1 : Int32))] [])) (fun _ k => XS.ifYes X_355.here hx rfl (pc0 := 357) (pc' := 433) rfl (hb hby at_357) rfl ((if0 _ _).trans (teq hc357).1) (by decide) (by decide) k) ?_
                      refine Go.step (g' := (mkF m 435 #[.val (.int p0), .val (.long q1), .second, .val (.long q2), .second, .val (.long q3), .second, .val (.long q4), .second, .val (.long q5), .second, .val (.int ad), .val (.int v23_12), .val (.int v36_s0), .val (.int v51_s0), .val (.long aa), .second, .val (.long bb), .second, .val (.long cc), .second, .val (.long dd), .second, .val (.ref b4), .val (.int v355_24), .val (.int (1 : Int32))] [(.int (1 : Int32))])) (fun _ k => XS.iload X_355.here hx rfl (hb hby at_433) rfl  k) ?_
                      exact Go.retN X_355 hx hlk (t := .boolean) Bd.returns (by simp) (hb hby at_435) (by decide) (by decide) (by rw [e_355]; exact ⟨congrArg (fun x => some (Value.int x)) (by decide : nar .boolean (1 : Int32) = 1), N_355⟩)
                    · skip
                      refine Go.step (g' := (mkF m 360 #[.val (.int p0), .val (.long q1), .second, .val (.long q2), .second, .val (.long q3), .second, .val (.long q4), .second, .val (.long q5), .second, .val (.int ad), .val (.int v23_12), .val (.int v36_s0), .val (.int v51_s0), .val (.long aa), .second, .val (.long bb), .second, .val (.long cc), .second, .val (.long dd), .second, .val (.ref b4), .val (.int v355_24), .val (.int (1 : Int32))] [])) (fun _ k => XS.ifNo X_355.here hx rfl (hb hby at_357) rfl ((if0 _ _).trans (feq hc357).1) k) ?_
                      refine Go.step (g' := (mkF m 362 #[.val (.int p0), .val (.long q1), .second, .val (.long q2), .second, .val (.long q3), .second, .val (.long q4), .second, .val (.long q5), .second, .val (.int ad), .val (.int v23_12), .val (.int v36_s0), .val (.int v51_s0), .val (.long aa), .second, .val (.long bb), .second, .val (.long cc), .second, .val (.long dd), .second, .val (.ref b4), .val (.int v355_24), .val (.int (1 : Int32))] [(.ref b4)])) (fun _ k => XS.aload X_355.here hx rfl (hb hby at_360) rfl rfl  k) ?_
                      refine Go.step (g' := (mkF m 364 #[.val (.int p0), .val (.long q1), .second, .val (.long q2), .second, .val (.long q3), .second, .val (.long q4), .second, .val (.long q5), .second, .val (.int ad), .val (.int v23_12), .val (.int v36_s0), .val (.int v51_s0), .val (.long aa), .second, .val (.long bb), .second, .val (.long cc), .second, .val (.long dd), .second, .val (.ref b4), .val (.int v355_24), .val (.int (1 : Int32))] [(.long dd), (.ref b4)])) (fun _ k => XS.lload X_355.here hx rfl (hb hby at_362) rfl  k) ?_
                      refine Go.step (g' := (mkF m 366 #[.val (.int p0), .val (.long q1), .second, .val (.long q2), .second, .val (.long q3), .second, .val (.long q4), .second, .val (.long q5), .second, .val (.int ad), .val (.int v23_12), .val (.int v36_s0), .val (.int v51_s0), .val (.long aa), .second, .val (.long bb), .second, .val (.long cc), .second, .val (.long dd), .second, .val (.ref b4), .val (.int v355_24), .val (.int (1 : Int32))] [(.long q5), (.long dd), (.ref b4)])) (fun _ k => XS.lload X_355.here hx rfl (hb hby at_364) rfl  k) ?_
                      refine Go.step (g' := (mkF m 368 #[.val (.int p0), .val (.long q1), .second, .val (.long q2), .second, .val (.long q3), .second, .val (.long q4), .second, .val (.long q5), .second, .val (.int ad), .val (.int v23_12), .val (.int v36_s0), .val (.int v51_s0), .val (.long aa), .second, .val (.long bb), .second, .val (.long cc), .second, .val (.long dd), .second, .val (.ref b4), .val (.int v355_24), .val (.int (1 : Int32))] [(.long q4), (.long q5), (.long dd), (.ref b4)])) (fun _ k => XS.lload X_355.here hx rfl (hb hby at_366) rfl  k) ?_
                      refine Go.step (g' := (mkF m 369 #[.val (.int p0), .val (.long q1), .second, .val (.long q2), .second, .val (.long q3), .second, .val (.long q4), .second, .val (.long q5), .second, .val (.int ad), .val (.int v23_12), .val (.int v36_s0), .val (.int v51_s0), .val (.long aa), .second, .val (.long bb), .second, .val (.long cc), .second, .val (.long dd), .second, .val (.ref b4), .val (.int v355_24), .val (.int (1 : Int32))] [(.long (q5 ^^^ q4)), (.long dd), (.ref b4)])) (fun _ k => XS.lxor X_355.here hx rfl (hb hby at_368) rfl k) ?_
                      obtain ⟨cq19, kq19, q19a, q19b, q19c⟩ := isOf hZ e_355 R_355.exa
                      obtain ⟨_, _, ⟨T19, L19, k19, n19⟩, -, X19, ⟨Lc19, hQ19, l19, y19, z19⟩, st19⟩ := X_355.virtualBack hx (y := (⟨"com/example/redelivery/redelivery/RadixHeap", "add", "(JJ)V"⟩ : MethodName)) (z := (⟨"com/example/redelivery/redelivery/RadixHeap", "add", "(JJ)V"⟩ : MethodName)) hown (mvT hZ (hw _ (List.mem_of_getElem? (i := 37) rfl))) (mvT hZ (hw _ (List.mem_of_getElem? (i := 38) rfl))) (notFace_of_selects (args := #[]) (mvT hZ (hw _ (List.mem_of_getElem? (i := 40) rfl)))) (mvT hZ (hw _ (List.mem_of_getElem? (i := 40) rfl))) (mvT hZ (hw _ (List.mem_of_getElem? (i := 39) rfl))) (by decide) (backOf (W := 0) (rm6 l Z a0 hw [] b4 dd (q5 ^^^ q4) v355_24 dd dd h_355 n0 ZH_355 R_355 (Tak.le8 C_355 htk ad3) (own_irr dd) (own_irr dd)) hZ (hw _ (List.mem_of_getElem? (i := 41) rfl)) (hw _ (List.mem_of_getElem? (i := 7) rfl)) (by decide) (by decide)) q19a q19c (g := (mkF m 369 #[.val (.int p0), .val (.long q1), .second, .val (.long q2), .second, .val (.long q3), .second, .val (.long q4), .second, .val (.long q5), .second, .val (.int ad), .val (.int v23_12), .val (.int v36_s0), .val (.int v51_s0), .val (.long aa), .second, .val (.long bb), .second, .val (.long cc), .second, .val (.long dd), .second, .val (.ref b4), .val (.int v355_24), .val (.int (1 : Int32))] [(.long (q5 ^^^ q4)), (.long dd), (.ref b4)])) rfl (by rw [hml]; rfl) (Steps.refl _) (argsL := [(.long dd), (.long (q5 ^^^ q4))]) (rest := []) (lenOf pd_8 rfl) rfl (by show 2 * 0 + _ ≤ _; exact Nat.le_of_eq rfl) (hb hby at_369) (fun _ _ => ⟨rfl, e_355, (by decide : 29 + 2 ≤ _), (by decide : 647 + 32 ≤ _)⟩)
                      dsimp only [Pt.U, Pt.locs, Pt.cells, Pt.slots] at X19 l19 y19 z19 st19 hQ19
                      subst l19 y19 z19
                      obtain ⟨rfl, N19q, R19⟩ := hQ19
                      obtain ⟨lc19, X19, N19⟩ := own_pack X19 (Fr.app N_355 N19q)
                      refine Go.step (g' := (mkF m 372 #[.val (.int p0), .val (.long q1), .second, .val (.long q2), .second, .val (.long q3), .second, .val (.long q4), .second, .val (.long q5), .second, .val (.int ad), .val (.int v23_12), .val (.int v36_s0), .val (.int v51_s0), .val (.long aa), .second, .val (.long bb), .second, .val (.long cc), .second, .val (.long dd), .second, .val (.ref b4), .val (.int v355_24), .val (.int (1 : Int32))] [])) (fun _ k => st19.trans k) ?_
                      refine Go.step (g' := (mkF m 375 #[.val (.int p0), .val (.long q1), .second, .val (.long q2), .second, .val (.long q3), .second, .val (.long q4), .second, .val (.long q5), .second, .val (.int ad), .val (.int v23_12), .val (.int v36_s0), .val (.int v51_s0), .val (.long aa), .second, .val (.long bb), .second, .val (.long cc), .second, .val (.long dd), .second, .val (.ref b4), .val (.int (v355_24 + (1 : Int32))), .val (.int (1 : Int32))] [])) (fun _ k => XS.iinc X19.here hx rfl (hb hby at_372) rfl (l' := #[.val (.int p0), .val (.long q1), .second, .val (.long q2), .second, .val (.long q3), .second, .val (.long q4), .second, .val (.long q5), .second, .val (.int ad), .val (.int v23_12), .val (.int v36_s0), .val (.int v51_s0), .val (.long aa), .second, .val (.long bb), .second, .val (.long cc), .second, .val (.long dd), .second, .val (.ref b4), .val (.int (v355_24 + (1 : Int32))), .val (.int (1 : Int32))]) rfl k) ?_
                      refine Go.step (g' := (mkF m 377 #[.val (.int p0), .val (.long q1), .second, .val (.long q2), .second, .val (.long q3), .second, .val (.long q4), .second, .val (.long q5), .second, .val (.int ad), .val (.int v23_12), .val (.int v36_s0), .val (.int v51_s0), .val (.long aa), .second, .val (.long bb), .second, .val (.long cc), .second, .val (.long dd), .second, .val (.ref b4), .val (.int (v355_24 + (1 : Int32))), .val (.int (1 : Int32))] [(.int (1 : Int32))])) (fun _ k => XS.iload X19.here hx rfl (hb hby at_375) rfl  k) ?_
                      refine Go.step (g' := (mkF m 380 #[.val (.int p0), .val (.long q1), .second, .val (.long q2), .second, .val (.long q3), .second, .val (.long q4), .second, .val (.long q5), .second, .val (.int ad), .val (.int v23_12), .val (.int v36_s0), .val (.int v51_s0), .val (.long aa), .second, .val (.long bb), .second, .val (.long cc), .second, .val (.long dd), .second, .val (.ref b4), .val (.int (v355_24 + (1 : Int32))), .val (.int (1 : Int32))] [])) (fun _ k => XS.ifNo X19.here hx rfl (hb hby at_377) rfl ((if0 _ _).trans (feq (by decide : ¬ ((1 : Int32) = (0 : Int32)))).1) k) ?_
                      skip
                      refine Go.step (g' := (mkF m 382 #[.val (.int p0), .val (.long q1), .second, .val (.long q2), .second, .val (.long q3), .second, .val (.long q4), .second, .val (.long q5), .second, .val (.int ad), .val (.int v23_12), .val (.int v36_s0), .val (.int v51_s0), .val (.long aa), .second, .val (.long bb), .second, .val (.long cc), .second, .val (.long dd), .second, .val (.ref b4), .val (.int (v355_24 + (1 : Int32))), .val (.int (1 : Int32))] [(.ref b4)])) (fun _ k => XS.aload X19.here hx rfl (hb hby at_380) rfl rfl  k) ?_
                      refine Go.step (g' := (mkF m 384 #[.val (.int p0), .val (.long q1), .second, .val (.long q2), .second, .val (.long q3), .second, .val (.long q4), .second, .val (.long q5), .second, .val (.int ad), .val (.int v23_12), .val (.int v36_s0), .val (.int v51_s0), .val (.long aa), .second, .val (.long bb), .second, .val (.long cc), .second, .val (.long dd), .second, .val (.ref b4), .val (.int (v355_24 + (1 : Int32))), .val (.int (1 : Int32))] [(.int (v355_24 + (1 : Int32))), (.ref b4)])) (fun _ k => XS.iload X19.here hx rfl (hb hby at_382) rfl  k) ?_
                      obtain ⟨_, _, ⟨T20, L20, k20, n20⟩, -, X20, ⟨Lc20, hQ20, l20, y20, z20⟩, st20⟩ := Jvm.LawKit.callS X19 hx (y := (⟨"com/example/redelivery/redelivery/RadixHeapIsEmptyPinLaw", "agree", "(Lcom/example/redelivery/redelivery/RadixHeap;I)Z"⟩ : MethodName)) hown (mvT hZ (hw _ (List.mem_of_getElem? (i := 26) rfl))) (mvT hZ (hw _ (List.mem_of_getElem? (i := 27) rfl))) (mvT hZ (hw _ (List.mem_of_getElem? (i := 28) rfl))) (mvT hZ (hw _ (List.mem_of_getElem? (i := 29) rfl))) (by decide) (backOf (W := 0) (rm4 l Z a0 hw [] b4 (v355_24 + (1 : Int32)) (v355_24 + (1 : Int32)) T19.heap R19.size R19.exa) hZ (hw _ (List.mem_of_getElem? (i := 29) rfl)) (hw _ (List.mem_of_getElem? (i := 28) rfl)) (by decide) (by decide)) (g := (mkF m 384 #[.val (.int p0), .val (.long q1), .second, .val (.long q2), .second, .val (.long q3), .second, .val (.long q4), .second, .val (.long q5), .second, .val (.int ad), .val (.int v23_12), .val (.int v36_s0), .val (.int v51_s0), .val (.long aa), .second, .val (.long bb), .second, .val (.long cc), .second, .val (.long dd), .second, .val (.ref b4), .val (.int (v355_24 + (1 : Int32))), .val (.int (1 : Int32))] [(.int (v355_24 + (1 : Int32))), (.ref b4)])) rfl (by rw [hml]; rfl) (argsL := [(.ref b4), (.int (v355_24 + (1 : Int32)))]) (rest := []) (lenOf pd_7 rfl) rfl (by show 2 * 0 + _ ≤ _; exact Nat.le_of_eq rfl) (hb hby at_384) (fun _ _ => ⟨rfl, rfl, (by decide : (29 + 2) + 0 ≤ _), (by decide : (647 + 32) + 0 ≤ _)⟩)
                      dsimp only [Pt.U, Pt.locs, Pt.cells, Pt.slots] at X20 l20 y20 z20 st20 hQ20
                      subst l20 y20 z20
                      obtain ⟨rfl, rfl, e20⟩ := hQ20
                      try rw [List.append_nil] at X20
                      refine Go.step (g' := (mkF m 387 #[.val (.int p0), .val (.long q1), .second, .val (.long q2), .second, .val (.long q3), .second, .val (.long q4), .second, .val (.long q5), .second, .val (.int ad), .val (.int v23_12), .val (.int v36_s0), .val (.int v51_s0), .val (.long aa), .second, .val (.long bb), .second, .val (.long cc), .second, .val (.long dd), .second, .val (.ref b4), .val (.int (v355_24 + (1 : Int32))), .val (.int (1 : Int32))] [(.int (f4_0 (v355_24 + (1 : Int32)) (v355_24 + (1 : Int32))))])) st20 ?_
                      rw [show (f4_0 (v355_24 + (1 : Int32)) (v355_24 + (1 : Int32))) = (1 : Int32) from own_agree _]
                      refine Go.step (g' := (mkF m 390 #[.val (.int p0), .val (.long q1), .second, .val (.long q2), .second, .val (.long q3), .second, .val (.long q4), .second, .val (.long q5), .second, .val (.int ad), .val (.int v23_12), .val (.int v36_s0), .val (.int v51_s0), .val (.long aa), .second, .val (.long bb), .second, .val (.long cc), .second, .val (.long dd), .second, .val (.ref b4), .val (.int (v355_24 + (1 : Int32))), .val (.int (1 : Int32))] [])) (fun _ k => XS.ifNo X20.here hx rfl (hb hby at_387) rfl ((if0 _ _).trans (feq (by decide : ¬ ((1 : Int32) = (0 : Int32)))).1) k) ?_
                      skip
                      refine Go.step (g' := (mkF m 391 #[.val (.int p0), .val (.long q1), .second, .val (.long q2), .second, .val (.long q3), .second, .val (.long q4), .second, .val (.long q5), .second, .val (.int ad), .val (.int v23_12), .val (.int v36_s0), .val (.int v51_s0), .val (.long aa), .second, .val (.long bb), .second, .val (.long cc), .second, .val (.long dd), .second, .val (.ref b4), .val (.int (v355_24 + (1 : Int32))), .val (.int (1 : Int32))] [(.int (1 : Int32))])) (fun _ k => XS.iconst X20.here hx rfl (hb hby at_390) k) ?_
                      refine Go.step (g' := (mkF m 395 #[.val (.int p0), .val (.long q1), .second, .val (.long q2), .second, .val (.long q3), .second, .val (.long q4), .second, .val (.long q5), .second, .val (.int ad), .val (.int v23_12), .val (.int v36_s0), .val (.int v51_s0), .val (.long aa), .second, .val (.long bb), .second, .val (.long cc), .second, .val (.long dd), .second, .val (.ref b4), .val (.int (v355_24 + (1 : Int32))), .val (.int (1 : Int32))] [(.int (1 : Int32))])) (fun _ k => XS.goto X20.here hx rfl (pc0 := 391) (pc' := 395) rfl (hb hby at_391) (by decide) (by decide) k) ?_
                      skip
                      refine Go.step (g' := (mkF m 397 #[.val (.int p0), .val (.long q1), .second, .val (.long q2), .second, .val (.long q3), .second, .val (.long q4), .second, .val (.long q5), .second, .val (.int ad), .val (.int v23_12), .val (.int v36_s0), .val (.int v51_s0), .val (.long aa), .second, .val (.long bb), .second, .val (.long cc), .second, .val (.long dd), .second, .val (.ref b4), .val (.int (v355_24 + (1 : Int32))), .val (.int (1 : Int32))] [])) (fun _ k => XS.istore X20.here hx rfl (hb hby at_395) rfl (l' := #[.val (.int p0), .val (.long q1), .second, .val (.long q2), .second, .val (.long q3), .second, .val (.long q4), .second, .val (.long q5), .second, .val (.int ad), .val (.int v23_12), .val (.int v36_s0), .val (.int v51_s0), .val (.long aa), .second, .val (.long bb), .second, .val (.long cc), .second, .val (.long dd), .second, .val (.ref b4), .val (.int (v355_24 + (1 : Int32))), .val (.int (1 : Int32))]) rfl k) ?_
                      refine Go.step (g' := (mkF m 399 #[.val (.int p0), .val (.long q1), .second, .val (.long q2), .second, .val (.long q3), .second, .val (.long q4), .second, .val (.long q5), .second, .val (.int ad), .val (.int v23_12), .val (.int v36_s0), .val (.int v51_s0), .val (.long aa), .second, .val (.long bb), .second, .val (.long cc), .second, .val (.long dd), .second, .val (.ref b4), .val (.int (v355_24 + (1 : Int32))), .val (.int (1 : Int32))] [(.int v51_s0)])) (fun _ k => XS.iload X20.here hx rfl (hb hby at_397) rfl  k) ?_
                      by_cases hc399 : v51_s0 = (0 : Int32)
                      · skip
                        refine Go.step (g' := (mkF m 433 #[.val (.int p0), .val (.long q1), .second, .val (.long q2), .second, .val (.long q3), .second, .val (.long q4), .second, .val (.long q5), .second, .val (.int ad), .val (.int v23_12), .val (.int v36_s0), .val (.int v51_s0), .val (.long aa), .second, .val (.long bb), .second, .val (.long cc), .second, .val (.long dd), .second, .val (.ref b4), .val (.int (v355_24 + (1 : Int32))), .val (.int (1 : Int32))] [])) (fun _ k => XS.ifYes X20.here hx rfl (pc0 := 399) (pc' := 433) rfl (hb hby at_399) rfl ((if0 _ _).trans (teq hc399).1) (by decide) (by decide) k) ?_
                        refine Go.step (g' := (mkF m 435 #[.val (.int p0), .val (.long q1), .second, .val (.long q2), .second, .val (.long q3), .second, .val (.long q4), .second, .val (.long q5), .second, .val (.int ad), .val (.int v23_12), .val (.int v36_s0), .val (.int v51_s0), .val (.long aa), .second, .val (.long bb), .second, .val (.long cc), .second, .val (.long dd), .second, .val (.ref b4), .val (.int (v355_24 + (1 : Int32))), .val (.int (1 : Int32))] [(.int (1 : Int32))])) (fun _ k => XS.iload X20.here hx rfl (hb hby at_433) rfl  k) ?_
                        exact Go.retN X20 hx hlk (t := .boolean) Bd.returns (by simp) (hb hby at_435) (by decide) (by decide) (by rw [e20]; exact ⟨congrArg (fun x => some (Value.int x)) (by decide : nar .boolean (1 : Int32) = 1), N19⟩)
                      · skip
                        refine Go.step (g' := (mkF m 402 #[.val (.int p0), .val (.long q1), .second, .val (.long q2), .second, .val (.long q3), .second, .val (.long q4), .second, .val (.long q5), .second, .val (.int ad), .val (.int v23_12), .val (.int v36_s0), .val (.int v51_s0), .val (.long aa), .second, .val (.long bb), .second, .val (.long cc), .second, .val (.long dd), .second, .val (.ref b4), .val (.int (v355_24 + (1 : Int32))), .val (.int (1 : Int32))] [])) (fun _ k => XS.ifNo X20.here hx rfl (hb hby at_399) rfl ((if0 _ _).trans (feq hc399).1) k) ?_
                        refine Go.step (g' := (mkF m 404 #[.val (.int p0), .val (.long q1), .second, .val (.long q2), .second, .val (.long q3), .second, .val (.long q4), .second, .val (.long q5), .second, .val (.int ad), .val (.int v23_12), .val (.int v36_s0), .val (.int v51_s0), .val (.long aa), .second, .val (.long bb), .second, .val (.long cc), .second, .val (.long dd), .second, .val (.ref b4), .val (.int (v355_24 + (1 : Int32))), .val (.int (1 : Int32))] [(.ref b4)])) (fun _ k => XS.aload X20.here hx rfl (hb hby at_402) rfl rfl  k) ?_
                        obtain ⟨cq21, kq21, q21a, q21b, q21c⟩ := isOf hZ e20 R19.exa
                        obtain ⟨_, _, ⟨T21, L21, k21, n21⟩, -, X21, ⟨Lc21, hQ21, l21, y21, z21⟩, st21⟩ := X20.virtualBack hx (y := (⟨"com/example/redelivery/redelivery/RadixHeap", "takeLeast", "()J"⟩ : MethodName)) (z := (⟨"com/example/redelivery/redelivery/RadixHeap", "takeLeast", "()J"⟩ : MethodName)) hown (mvT hZ (hw _ (List.mem_of_getElem? (i := 67) rfl))) (mvT hZ (hw _ (List.mem_of_getElem? (i := 68) rfl))) (notFace_of_selects (args := #[]) (mvT hZ (hw _ (List.mem_of_getElem? (i := 70) rfl)))) (mvT hZ (hw _ (List.mem_of_getElem? (i := 70) rfl))) (mvT hZ (hw _ (List.mem_of_getElem? (i := 69) rfl))) (by decide) (backOf (W := 0) (rm12b l Z a0 hw [] b4 (v355_24 + (1 : Int32)) dd dd T19.heap n0 R19.zh R19 (Tak.p1 C_355 htk ad3) (Tak.p4 C_355 htk ad3) (own_irr dd)) hZ (hw _ (List.mem_of_getElem? (i := 71) rfl)) (hw _ (List.mem_of_getElem? (i := 7) rfl)) (by decide) (by decide)) q21a q21c (g := (mkF m 404 #[.val (.int p0), .val (.long q1), .second, .val (.long q2), .second, .val (.long q3), .second, .val (.long q4), .second, .val (.long q5), .second, .val (.int ad), .val (.int v23_12), .val (.int v36_s0), .val (.int v51_s0), .val (.long aa), .second, .val (.long bb), .second, .val (.long cc), .second, .val (.long dd), .second, .val (.ref b4), .val (.int (v355_24 + (1 : Int32))), .val (.int (1 : Int32))] [(.ref b4)])) rfl (by rw [hml]; rfl) (Steps.refl _) (argsL := []) (rest := []) (lenOf pd_9 rfl) rfl (by show 2 * 0 + _ ≤ _; exact Nat.le_of_eq rfl) (hb hby at_404) (fun _ _ => ⟨rfl, e20, (by decide : (29 + 2) + 8 ≤ _), (by decide : (647 + 32) + 128 ≤ _)⟩)
                        dsimp only [Pt.U, Pt.locs, Pt.cells, Pt.slots] at X21 l21 y21 z21 st21 hQ21
                        subst l21 y21 z21
                        obtain ⟨r21, rfl, N21q, R21⟩ := hQ21
                        obtain ⟨lc21, X21, N21⟩ := own_pack X21 (Fr.app N19 N21q)
                        refine Go.step (g' := (mkF m 407 #[.val (.int p0), .val (.long q1), .second, .val (.long q2), .second, .val (.long q3), .second, .val (.long q4), .second, .val (.long q5), .second, .val (.int ad), .val (.int v23_12), .val (.int v36_s0), .val (.int v51_s0), .val (.long aa), .second, .val (.long bb), .second, .val (.long cc), .second, .val (.long dd), .second, .val (.ref b4), .val (.int (v355_24 + (1 : Int32))), .val (.int (1 : Int32))] [(.long r21)])) (fun _ k => st21.trans k) ?_
                        refine Go.step (g' := (mkF m 408 #[.val (.int p0), .val (.long q1), .second, .val (.long q2), .second, .val (.long q3), .second, .val (.long q4), .second, .val (.long q5), .second, .val (.int ad), .val (.int v23_12), .val (.int v36_s0), .val (.int v51_s0), .val (.long aa), .second, .val (.long bb), .second, .val (.long cc), .second, .val (.long dd), .second, .val (.ref b4), .val (.int (v355_24 + (1 : Int32))), .val (.int (1 : Int32))] [])) (fun _ k => own_pop2 X21.here hx rfl (hb hby at_407) rfl k) ?_
                        refine Go.step (g' := (mkF m 411 #[.val (.int p0), .val (.long q1), .second, .val (.long q2), .second, .val (.long q3), .second, .val (.long q4), .second, .val (.long q5), .second, .val (.int ad), .val (.int v23_12), .val (.int v36_s0), .val (.int v51_s0), .val (.long aa), .second, .val (.long bb), .second, .val (.long cc), .second, .val (.long dd), .second, .val (.ref b4), .val (.int ((v355_24 + (1 : Int32)) + (-1 : Int32))), .val (.int (1 : Int32))] [])) (fun _ k => XS.iinc X21.here hx rfl (hb hby at_408) rfl (l' := #[.val (.int p0), .val (.long q1), .second, .val (.long q2), .second, .val (.long q3), .second, .val (.long q4), .second, .val (.long q5), .second, .val (.int ad), .val (.int v23_12), .val (.int v36_s0), .val (.int v51_s0), .val (.long aa), .second, .val (.long bb), .second, .val (.long cc), .second, .val (.long dd), .second, .val (.ref b4), .val (.int ((v355_24 + (1 : Int32)) + (-1 : Int32))), .val (.int (1 : Int32))]) rfl k) ?_
                        rw [show ((v355_24 + (1 : Int32)) + (-1 : Int32)) = ((v355_24 + (1 : Int32)) - (1 : Int32)) from own_min1 _]
                        refine Go.step (g' := (mkF m 413 #[.val (.int p0), .val (.long q1), .second, .val (.long q2), .second, .val (.long q3), .second, .val (.long q4), .second, .val (.long q5), .second, .val (.int ad), .val (.int v23_12), .val (.int v36_s0), .val (.int v51_s0), .val (.long aa), .second, .val (.long bb), .second, .val (.long cc), .second, .val (.long dd), .second, .val (.ref b4), .val (.int ((v355_24 + (1 : Int32)) - (1 : Int32))), .val (.int (1 : Int32))] [(.int (1 : Int32))])) (fun _ k => XS.iload X21.here hx rfl (hb hby at_411) rfl  k) ?_
                        refine Go.step (g' := (mkF m 416 #[.val (.int p0), .val (.long q1), .second, .val (.long q2), .second, .val (.long q3), .second, .val (.long q4), .second, .val (.long q5), .second, .val (.int ad), .val (.int v23_12), .val (.int v36_s0), .val (.int v51_s0), .val (.long aa), .second, .val (.long bb), .second, .val (.long cc), .second, .val (.long dd), .second, .val (.ref b4), .val (.int ((v355_24 + (1 : Int32)) - (1 : Int32))), .val (.int (1 : Int32))] [])) (fun _ k => XS.ifNo X21.here hx rfl (hb hby at_413) rfl ((if0 _ _).trans (feq (by decide : ¬ ((1 : Int32) = (0 : Int32)))).1) k) ?_
                        skip
                        refine Go.step (g' := (mkF m 418 #[.val (.int p0), .val (.long q1), .second, .val (.long q2), .second, .val (.long q3), .second, .val (.long q4), .second, .val (.long q5), .second, .val (.int ad), .val (.int v23_12), .val (.int v36_s0), .val (.int v51_s0), .val (.long aa), .second, .val (.long bb), .second, .val (.long cc), .second, .val (.long dd), .second, .val (.ref b4), .val (.int ((v355_24 + (1 : Int32)) - (1 : Int32))), .val (.int (1 : Int32))] [(.ref b4)])) (fun _ k => XS.aload X21.here hx rfl (hb hby at_416) rfl rfl  k) ?_
                        refine Go.step (g' := (mkF m 420 #[.val (.int p0), .val (.long q1), .second, .val (.long q2), .second, .val (.long q3), .second, .val (.long q4), .second, .val (.long q5), .second, .val (.int ad), .val (.int v23_12), .val (.int v36_s0), .val (.int v51_s0), .val (.long aa), .second, .val (.long bb), .second, .val (.long cc), .second, .val (.long dd), .second, .val (.ref b4), .val (.int ((v355_24 + (1 : Int32)) - (1 : Int32))), .val (.int (1 : Int32))] [(.int ((v355_24 + (1 : Int32)) - (1 : Int32))), (.ref b4)])) (fun _ k => XS.iload X21.here hx rfl (hb hby at_418) rfl  k) ?_
                        obtain ⟨_, _, ⟨T22, L22, k22, n22⟩, -, X22, ⟨Lc22, hQ22, l22, y22, z22⟩, st22⟩ := Jvm.LawKit.callS X21 hx (y := (⟨"com/example/redelivery/redelivery/RadixHeapIsEmptyPinLaw", "agree", "(Lcom/example/redelivery/redelivery/RadixHeap;I)Z"⟩ : MethodName)) hown (mvT hZ (hw _ (List.mem_of_getElem? (i := 26) rfl))) (mvT hZ (hw _ (List.mem_of_getElem? (i := 27) rfl))) (mvT hZ (hw _ (List.mem_of_getElem? (i := 28) rfl))) (mvT hZ (hw _ (List.mem_of_getElem? (i := 29) rfl))) (by decide) (backOf (W := 0) (rm4 l Z a0 hw [] b4 ((v355_24 + (1 : Int32)) - (1 : Int32)) ((v355_24 + (1 : Int32)) - (1 : Int32)) T21.heap R21.size R21.exa) hZ (hw _ (List.mem_of_getElem? (i := 29) rfl)) (hw _ (List.mem_of_getElem? (i := 28) rfl)) (by decide) (by decide)) (g := (mkF m 420 #[.val (.int p0), .val (.long q1), .second, .val (.long q2), .second, .val (.long q3), .second, .val (.long q4), .second, .val (.long q5), .second, .val (.int ad), .val (.int v23_12), .val (.int v36_s0), .val (.int v51_s0), .val (.long aa), .second, .val (.long bb), .second, .val (.long cc), .second, .val (.long dd), .second, .val (.ref b4), .val (.int ((v355_24 + (1 : Int32)) - (1 : Int32))), .val (.int (1 : Int32))] [(.int ((v355_24 + (1 : Int32)) - (1 : Int32))), (.ref b4)])) rfl (by rw [hml]; rfl) (argsL := [(.ref b4), (.int ((v355_24 + (1 : Int32)) - (1 : Int32)))]) (rest := []) (lenOf pd_7 rfl) rfl (by show 2 * 0 + _ ≤ _; exact Nat.le_of_eq rfl) (hb hby at_420) (fun _ _ => ⟨rfl, rfl, (by decide : ((29 + 2) + 8) + 0 ≤ _), (by decide : ((647 + 32) + 128) + 0 ≤ _)⟩)
                        dsimp only [Pt.U, Pt.locs, Pt.cells, Pt.slots] at X22 l22 y22 z22 st22 hQ22
                        subst l22 y22 z22
                        obtain ⟨rfl, rfl, e22⟩ := hQ22
                        try rw [List.append_nil] at X22
                        refine Go.step (g' := (mkF m 423 #[.val (.int p0), .val (.long q1), .second, .val (.long q2), .second, .val (.long q3), .second, .val (.long q4), .second, .val (.long q5), .second, .val (.int ad), .val (.int v23_12), .val (.int v36_s0), .val (.int v51_s0), .val (.long aa), .second, .val (.long bb), .second, .val (.long cc), .second, .val (.long dd), .second, .val (.ref b4), .val (.int ((v355_24 + (1 : Int32)) - (1 : Int32))), .val (.int (1 : Int32))] [(.int (f4_0 ((v355_24 + (1 : Int32)) - (1 : Int32)) ((v355_24 + (1 : Int32)) - (1 : Int32))))])) st22 ?_
                        rw [show (f4_0 ((v355_24 + (1 : Int32)) - (1 : Int32)) ((v355_24 + (1 : Int32)) - (1 : Int32))) = (1 : Int32) from own_agree _]
                        refine Go.step (g' := (mkF m 426 #[.val (.int p0), .val (.long q1), .second, .val (.long q2), .second, .val (.long q3), .second, .val (.long q4), .second, .val (.long q5), .second, .val (.int ad), .val (.int v23_12), .val (.int v36_s0), .val (.int v51_s0), .val (.long aa), .second, .val (.long bb), .second, .val (.long cc), .second, .val (.long dd), .second, .val (.ref b4), .val (.int ((v355_24 + (1 : Int32)) - (1 : Int32))), .val (.int (1 : Int32))] [])) (fun _ k => XS.ifNo X22.here hx rfl (hb hby at_423) rfl ((if0 _ _).trans (feq (by decide : ¬ ((1 : Int32) = (0 : Int32)))).1) k) ?_
                        skip
                        refine Go.step (g' := (mkF m 427 #[.val (.int p0), .val (.long q1), .second, .val (.long q2), .second, .val (.long q3), .second, .val (.long q4), .second, .val (.long q5), .second, .val (.int ad), .val (.int v23_12), .val (.int v36_s0), .val (.int v51_s0), .val (.long aa), .second, .val (.long bb), .second, .val (.long cc), .second, .val (.long dd), .second, .val (.ref b4), .val (.int ((v355_24 + (1 : Int32)) - (1 : Int32))), .val (.int (1 : Int32))] [(.int (1 : Int32))])) (fun _ k => XS.iconst X22.here hx rfl (hb hby at_426) k) ?_
                        refine Go.step (g' := (mkF m 431 #[.val (.int p0), .val (.long q1), .second, .val (.long q2), .second, .val (.long q3), .second, .val (.long q4), .second, .val (.long q5), .second, .val (.int ad), .val (.int v23_12), .val (.int v36_s0), .val (.int v51_s0), .val (.long aa), .second, .val (.long bb), .second, .val (.long cc), .second, .val (.long dd), .second, .val (.ref b4), .val (.int ((v355_24 + (1 : Int32)) - (1 : Int32))), .val (.int (1 : Int32))] [(.int (1 : Int32))])) (fun _ k => XS.goto X22.here hx rfl (pc0 := 427) (pc' := 431) rfl (hb hby at_427) (by decide) (by decide) k) ?_
                        skip
                        refine Go.step (g' := (mkF m 433 #[.val (.int p0), .val (.long q1), .second, .val (.long q2), .second, .val (.long q3), .second, .val (.long q4), .second, .val (.long q5), .second, .val (.int ad), .val (.int v23_12), .val (.int v36_s0), .val (.int v51_s0), .val (.long aa), .second, .val (.long bb), .second, .val (.long cc), .second, .val (.long dd), .second, .val (.ref b4), .val (.int ((v355_24 + (1 : Int32)) - (1 : Int32))), .val (.int (1 : Int32))] [])) (fun _ k => XS.istore X22.here hx rfl (hb hby at_431) rfl (l' := #[.val (.int p0), .val (.long q1), .second, .val (.long q2), .second, .val (.long q3), .second, .val (.long q4), .second, .val (.long q5), .second, .val (.int ad), .val (.int v23_12), .val (.int v36_s0), .val (.int v51_s0), .val (.long aa), .second, .val (.long bb), .second, .val (.long cc), .second, .val (.long dd), .second, .val (.ref b4), .val (.int ((v355_24 + (1 : Int32)) - (1 : Int32))), .val (.int (1 : Int32))]) rfl k) ?_
                        skip
                        refine Go.step (g' := (mkF m 435 #[.val (.int p0), .val (.long q1), .second, .val (.long q2), .second, .val (.long q3), .second, .val (.long q4), .second, .val (.long q5), .second, .val (.int ad), .val (.int v23_12), .val (.int v36_s0), .val (.int v51_s0), .val (.long aa), .second, .val (.long bb), .second, .val (.long cc), .second, .val (.long dd), .second, .val (.ref b4), .val (.int ((v355_24 + (1 : Int32)) - (1 : Int32))), .val (.int (1 : Int32))] [(.int (1 : Int32))])) (fun _ k => XS.iload X22.here hx rfl (hb hby at_433) rfl  k) ?_
                        exact Go.retN X22 hx hlk (t := .boolean) Bd.returns (by simp) (hb hby at_435) (by decide) (by decide) (by rw [e22]; exact ⟨congrArg (fun x => some (Value.int x)) (by decide : nar .boolean (1 : Int32) = 1), N21⟩)
                  by_cases hc321 : v23_12 < (3 : Int32)
                  · skip
                    refine Go.step (g' := (mkF m 355 #[.val (.int p0), .val (.long q1), .second, .val (.long q2), .second, .val (.long q3), .second, .val (.long q4), .second, .val (.long q5), .second, .val (.int ad), .val (.int v23_12), .val (.int v36_s0), .val (.int v51_s0), .val (.long aa), .second, .val (.long bb), .second, .val (.long cc), .second, .val (.long dd), .second, .val (.ref b4), .val (.int v318_24), .val (.int (1 : Int32))] [])) (fun _ k => XS.icmpYes X_318.here hx rfl (pc0 := 321) (pc' := 355) rfl (hb hby at_321) rfl (tlt hc321).1 (by decide) (by decide) k) ?_
                    exact t355 T_318 h_318 lc_318 (own_more X_318 (by decide) (by decide)) e_318 N_318 ZH_318 v318_24 R_318 (Tak.stay C_318 hc321 (by decide) (by decide) htk ad3 (by decide))
                  · skip
                    refine Go.step (g' := (mkF m 324 #[.val (.int p0), .val (.long q1), .second, .val (.long q2), .second, .val (.long q3), .second, .val (.long q4), .second, .val (.long q5), .second, .val (.int ad), .val (.int v23_12), .val (.int v36_s0), .val (.int v51_s0), .val (.long aa), .second, .val (.long bb), .second, .val (.long cc), .second, .val (.long dd), .second, .val (.ref b4), .val (.int v318_24), .val (.int (1 : Int32))] [])) (fun _ k => XS.icmpNo X_318.here hx rfl (hb hby at_321) rfl (flt hc321).1 k) ?_
                    refine Go.step (g' := (mkF m 326 #[.val (.int p0), .val (.long q1), .second, .val (.long q2), .second, .val (.long q3), .second, .val (.long q4), .second, .val (.long q5), .second, .val (.int ad), .val (.int v23_12), .val (.int v36_s0), .val (.int v51_s0), .val (.long aa), .second, .val (.long bb), .second, .val (.long cc), .second, .val (.long dd), .second, .val (.ref b4), .val (.int v318_24), .val (.int (1 : Int32))] [(.ref b4)])) (fun _ k => XS.aload X_318.here hx rfl (hb hby at_324) rfl rfl  k) ?_
                    obtain ⟨cq17, kq17, q17a, q17b, q17c⟩ := isOf hZ e_318 R_318.exa
                    obtain ⟨_, _, ⟨T17, L17, k17, n17⟩, -, X17, ⟨Lc17, hQ17, l17, y17, z17⟩, st17⟩ := X_318.virtualBack hx (y := (⟨"com/example/redelivery/redelivery/RadixHeap", "takeLeast", "()J"⟩ : MethodName)) (z := (⟨"com/example/redelivery/redelivery/RadixHeap", "takeLeast", "()J"⟩ : MethodName)) hown (mvT hZ (hw _ (List.mem_of_getElem? (i := 67) rfl))) (mvT hZ (hw _ (List.mem_of_getElem? (i := 68) rfl))) (notFace_of_selects (args := #[]) (mvT hZ (hw _ (List.mem_of_getElem? (i := 70) rfl)))) (mvT hZ (hw _ (List.mem_of_getElem? (i := 70) rfl))) (mvT hZ (hw _ (List.mem_of_getElem? (i := 69) rfl))) (by decide) (backOf (W := 0) (rm12a l Z a0 hw [] b4 v318_24 dd dd h_318 n0 ZH_318 R_318 (Tak.one C_318 hc321 (by decide) htk) (Tak.three C_318 hc321 (by decide) htk ad3 (by decide)) (own_irr dd)) hZ (hw _ (List.mem_of_getElem? (i := 71) rfl)) (hw _ (List.mem_of_getElem? (i := 7) rfl)) (by decide) (by decide)) q17a q17c (g := (mkF m 326 #[.val (.int p0), .val (.long q1), .second, .val (.long q2), .second, .val (.long q3), .second, .val (.long q4), .second, .val (.long q5), .second, .val (.int ad), .val (.int v23_12), .val (.int v36_s0), .val (.int v51_s0), .val (.long aa), .second, .val (.long bb), .second, .val (.long cc), .second, .val (.long dd), .second, .val (.ref b4), .val (.int v318_24), .val (.int (1 : Int32))] [(.ref b4)])) rfl (by rw [hml]; rfl) (Steps.refl _) (argsL := []) (rest := []) (lenOf pd_9 rfl) rfl (by show 2 * 0 + _ ≤ _; exact Nat.le_of_eq rfl) (hb hby at_326) (fun _ _ => ⟨rfl, e_318, (by decide : 23 + 6 ≤ _), (by decide : 551 + 96 ≤ _)⟩)
                    dsimp only [Pt.U, Pt.locs, Pt.cells, Pt.slots] at X17 l17 y17 z17 st17 hQ17
                    subst l17 y17 z17
                    obtain ⟨r17, rfl, N17q, R17⟩ := hQ17
                    obtain ⟨lc17, X17, N17⟩ := own_pack X17 (Fr.app N_318 N17q)
                    refine Go.step (g' := (mkF m 329 #[.val (.int p0), .val (.long q1), .second, .val (.long q2), .second, .val (.long q3), .second, .val (.long q4), .second, .val (.long q5), .second, .val (.int ad), .val (.int v23_12), .val (.int v36_s0), .val (.int v51_s0), .val (.long aa), .second, .val (.long bb), .second, .val (.long cc), .second, .val (.long dd), .second, .val (.ref b4), .val (.int v318_24), .val (.int (1 : Int32))] [(.long r17)])) (fun _ k => st17.trans k) ?_
                    refine Go.step (g' := (mkF m 330 #[.val (.int p0), .val (.long q1), .second, .val (.long q2), .second, .val (.long q3), .second, .val (.long q4), .second, .val (.long q5), .second, .val (.int ad), .val (.int v23_12), .val (.int v36_s0), .val (.int v51_s0), .val (.long aa), .second, .val (.long bb), .second, .val (.long cc), .second, .val (.long dd), .second, .val (.ref b4), .val (.int v318_24), .val (.int (1 : Int32))] [])) (fun _ k => own_pop2 X17.here hx rfl (hb hby at_329) rfl k) ?_
                    refine Go.step (g' := (mkF m 333 #[.val (.int p0), .val (.long q1), .second, .val (.long q2), .second, .val (.long q3), .second, .val (.long q4), .second, .val (.long q5), .second, .val (.int ad), .val (.int v23_12), .val (.int v36_s0), .val (.int v51_s0), .val (.long aa), .second, .val (.long bb), .second, .val (.long cc), .second, .val (.long dd), .second, .val (.ref b4), .val (.int (v318_24 + (-1 : Int32))), .val (.int (1 : Int32))] [])) (fun _ k => XS.iinc X17.here hx rfl (hb hby at_330) rfl (l' := #[.val (.int p0), .val (.long q1), .second, .val (.long q2), .second, .val (.long q3), .second, .val (.long q4), .second, .val (.long q5), .second, .val (.int ad), .val (.int v23_12), .val (.int v36_s0), .val (.int v51_s0), .val (.long aa), .second, .val (.long bb), .second, .val (.long cc), .second, .val (.long dd), .second, .val (.ref b4), .val (.int (v318_24 + (-1 : Int32))), .val (.int (1 : Int32))]) rfl k) ?_
                    rw [show (v318_24 + (-1 : Int32)) = (v318_24 - (1 : Int32)) from own_min1 _]
                    refine Go.step (g' := (mkF m 335 #[.val (.int p0), .val (.long q1), .second, .val (.long q2), .second, .val (.long q3), .second, .val (.long q4), .second, .val (.long q5), .second, .val (.int ad), .val (.int v23_12), .val (.int v36_s0), .val (.int v51_s0), .val (.long aa), .second, .val (.long bb), .second, .val (.long cc), .second, .val (.long dd), .second, .val (.ref b4), .val (.int (v318_24 - (1 : Int32))), .val (.int (1 : Int32))] [(.int (1 : Int32))])) (fun _ k => XS.iload X17.here hx rfl (hb hby at_333) rfl  k) ?_
                    refine Go.step (g' := (mkF m 338 #[.val (.int p0), .val (.long q1), .second, .val (.long q2), .second, .val (.long q3), .second, .val (.long q4), .second, .val (.long q5), .second, .val (.int ad), .val (.int v23_12), .val (.int v36_s0), .val (.int v51_s0), .val (.long aa), .second, .val (.long bb), .second, .val (.long cc), .second, .val (.long dd), .second, .val (.ref b4), .val (.int (v318_24 - (1 : Int32))), .val (.int (1 : Int32))] [])) (fun _ k => XS.ifNo X17.here hx rfl (hb hby at_335) rfl ((if0 _ _).trans (feq (by decide : ¬ ((1 : Int32) = (0 : Int32)))).1) k) ?_
                    skip
                    refine Go.step (g' := (mkF m 340 #[.val (.int p0), .val (.long q1), .second, .val (.long q2), .second, .val (.long q3), .second, .val (.long q4), .second, .val (.long q5), .second, .val (.int ad), .val (.int v23_12), .val (.int v36_s0), .val (.int v51_s0), .val (.long aa), .second, .val (.long bb), .second, .val (.long cc), .second, .val (.long dd), .second, .val (.ref b4), .val (.int (v318_24 - (1 : Int32))), .val (.int (1 : Int32))] [(.ref b4)])) (fun _ k => XS.aload X17.here hx rfl (hb hby at_338) rfl rfl  k) ?_
                    refine Go.step (g' := (mkF m 342 #[.val (.int p0), .val (.long q1), .second, .val (.long q2), .second, .val (.long q3), .second, .val (.long q4), .second, .val (.long q5), .second, .val (.int ad), .val (.int v23_12), .val (.int v36_s0), .val (.int v51_s0), .val (.long aa), .second, .val (.long bb), .second, .val (.long cc), .second, .val (.long dd), .second, .val (.ref b4), .val (.int (v318_24 - (1 : Int32))), .val (.int (1 : Int32))] [(.int (v318_24 - (1 : Int32))), (.ref b4)])) (fun _ k => XS.iload X17.here hx rfl (hb hby at_340) rfl  k) ?_
                    obtain ⟨_, _, ⟨T18, L18, k18, n18⟩, -, X18, ⟨Lc18, hQ18, l18, y18, z18⟩, st18⟩ := Jvm.LawKit.callS X17 hx (y := (⟨"com/example/redelivery/redelivery/RadixHeapIsEmptyPinLaw", "agree", "(Lcom/example/redelivery/redelivery/RadixHeap;I)Z"⟩ : MethodName)) hown (mvT hZ (hw _ (List.mem_of_getElem? (i := 26) rfl))) (mvT hZ (hw _ (List.mem_of_getElem? (i := 27) rfl))) (mvT hZ (hw _ (List.mem_of_getElem? (i := 28) rfl))) (mvT hZ (hw _ (List.mem_of_getElem? (i := 29) rfl))) (by decide) (backOf (W := 0) (rm4 l Z a0 hw [] b4 (v318_24 - (1 : Int32)) (v318_24 - (1 : Int32)) T17.heap R17.size R17.exa) hZ (hw _ (List.mem_of_getElem? (i := 29) rfl)) (hw _ (List.mem_of_getElem? (i := 28) rfl)) (by decide) (by decide)) (g := (mkF m 342 #[.val (.int p0), .val (.long q1), .second, .val (.long q2), .second, .val (.long q3), .second, .val (.long q4), .second, .val (.long q5), .second, .val (.int ad), .val (.int v23_12), .val (.int v36_s0), .val (.int v51_s0), .val (.long aa), .second, .val (.long bb), .second, .val (.long cc), .second, .val (.long dd), .second, .val (.ref b4), .val (.int (v318_24 - (1 : Int32))), .val (.int (1 : Int32))] [(.int (v318_24 - (1 : Int32))), (.ref b4)])) rfl (by rw [hml]; rfl) (argsL := [(.ref b4), (.int (v318_24 - (1 : Int32)))]) (rest := []) (lenOf pd_7 rfl) rfl (by show 2 * 0 + _ ≤ _; exact Nat.le_of_eq rfl) (hb hby at_342) (fun _ _ => ⟨rfl, rfl, (by decide : (23 + 6) + 0 ≤ _), (by decide : (551 + 96) + 0 ≤ _)⟩)
                    dsimp only [Pt.U, Pt.locs, Pt.cells, Pt.slots] at X18 l18 y18 z18 st18 hQ18
                    subst l18 y18 z18
                    obtain ⟨rfl, rfl, e18⟩ := hQ18
                    try rw [List.append_nil] at X18
                    refine Go.step (g' := (mkF m 345 #[.val (.int p0), .val (.long q1), .second, .val (.long q2), .second, .val (.long q3), .second, .val (.long q4), .second, .val (.long q5), .second, .val (.int ad), .val (.int v23_12), .val (.int v36_s0), .val (.int v51_s0), .val (.long aa), .second, .val (.long bb), .second, .val (.long cc), .second, .val (.long dd), .second, .val (.ref b4), .val (.int (v318_24 - (1 : Int32))), .val (.int (1 : Int32))] [(.int (f4_0 (v318_24 - (1 : Int32)) (v318_24 - (1 : Int32))))])) st18 ?_
                    rw [show (f4_0 (v318_24 - (1 : Int32)) (v318_24 - (1 : Int32))) = (1 : Int32) from own_agree _]
                    refine Go.step (g' := (mkF m 348 #[.val (.int p0), .val (.long q1), .second, .val (.long q2), .second, .val (.long q3), .second, .val (.long q4), .second, .val (.long q5), .second, .val (.int ad), .val (.int v23_12), .val (.int v36_s0), .val (.int v51_s0), .val (.long aa), .second, .val (.long bb), .second, .val (.long cc), .second, .val (.long dd), .second, .val (.ref b4), .val (.int (v318_24 - (1 : Int32))), .val (.int (1 : Int32))] [])) (fun _ k => XS.ifNo X18.here hx rfl (hb hby at_345) rfl ((if0 _ _).trans (feq (by decide : ¬ ((1 : Int32) = (0 : Int32)))).1) k) ?_
                    skip
                    refine Go.step (g' := (mkF m 349 #[.val (.int p0), .val (.long q1), .second, .val (.long q2), .second, .val (.long q3), .second, .val (.long q4), .second, .val (.long q5), .second, .val (.int ad), .val (.int v23_12), .val (.int v36_s0), .val (.int v51_s0), .val (.long aa), .second, .val (.long bb), .second, .val (.long cc), .second, .val (.long dd), .second, .val (.ref b4), .val (.int (v318_24 - (1 : Int32))), .val (.int (1 : Int32))] [(.int (1 : Int32))])) (fun _ k => XS.iconst X18.here hx rfl (hb hby at_348) k) ?_
                    refine Go.step (g' := (mkF m 353 #[.val (.int p0), .val (.long q1), .second, .val (.long q2), .second, .val (.long q3), .second, .val (.long q4), .second, .val (.long q5), .second, .val (.int ad), .val (.int v23_12), .val (.int v36_s0), .val (.int v51_s0), .val (.long aa), .second, .val (.long bb), .second, .val (.long cc), .second, .val (.long dd), .second, .val (.ref b4), .val (.int (v318_24 - (1 : Int32))), .val (.int (1 : Int32))] [(.int (1 : Int32))])) (fun _ k => XS.goto X18.here hx rfl (pc0 := 349) (pc' := 353) rfl (hb hby at_349) (by decide) (by decide) k) ?_
                    skip
                    refine Go.step (g' := (mkF m 355 #[.val (.int p0), .val (.long q1), .second, .val (.long q2), .second, .val (.long q3), .second, .val (.long q4), .second, .val (.long q5), .second, .val (.int ad), .val (.int v23_12), .val (.int v36_s0), .val (.int v51_s0), .val (.long aa), .second, .val (.long bb), .second, .val (.long cc), .second, .val (.long dd), .second, .val (.ref b4), .val (.int (v318_24 - (1 : Int32))), .val (.int (1 : Int32))] [])) (fun _ k => XS.istore X18.here hx rfl (hb hby at_353) rfl (l' := #[.val (.int p0), .val (.long q1), .second, .val (.long q2), .second, .val (.long q3), .second, .val (.long q4), .second, .val (.long q5), .second, .val (.int ad), .val (.int v23_12), .val (.int v36_s0), .val (.int v51_s0), .val (.long aa), .second, .val (.long bb), .second, .val (.long cc), .second, .val (.long dd), .second, .val (.ref b4), .val (.int (v318_24 - (1 : Int32))), .val (.int (1 : Int32))]) rfl k) ?_
                    skip
                    exact t355 T18 T17.heap lc17 (own_more X18 (by decide) (by decide)) e18 N17 R17.zh (v318_24 - (1 : Int32)) R17 (Tak.go C_318 hc321 (by decide) (by decide) htk ad3 (by decide))
                by_cases hc284 : v23_12 < (2 : Int32)
                · skip
                  refine Go.step (g' := (mkF m 318 #[.val (.int p0), .val (.long q1), .second, .val (.long q2), .second, .val (.long q3), .second, .val (.long q4), .second, .val (.long q5), .second, .val (.int ad), .val (.int v23_12), .val (.int v36_s0), .val (.int v51_s0), .val (.long aa), .second, .val (.long bb), .second, .val (.long cc), .second, .val (.long dd), .second, .val (.ref b4), .val (.int v281_24), .val (.int (1 : Int32))] [])) (fun _ k => XS.icmpYes X_281.here hx rfl (pc0 := 284) (pc' := 318) rfl (hb hby at_284) rfl (tlt hc284).1 (by decide) (by decide) k) ?_
                  exact t318 T_281 h_281 lc_281 (own_more X_281 (by decide) (by decide)) e_281 N_281 ZH_281 v281_24 R_281 (Tak.stay C_281 hc284 (by decide) (by decide) htk ad3 (by decide))
                · skip
                  refine Go.step (g' := (mkF m 287 #[.val (.int p0), .val (.long q1), .second, .val (.long q2), .second, .val (.long q3), .second, .val (.long q4), .second, .val (.long q5), .second, .val (.int ad), .val (.int v23_12), .val (.int v36_s0), .val (.int v51_s0), .val (.long aa), .second, .val (.long bb), .second, .val (.long cc), .second, .val (.long dd), .second, .val (.ref b4), .val (.int v281_24), .val (.int (1 : Int32))] [])) (fun _ k => XS.icmpNo X_281.here hx rfl (hb hby at_284) rfl (flt hc284).1 k) ?_
                  refine Go.step (g' := (mkF m 289 #[.val (.int p0), .val (.long q1), .second, .val (.long q2), .second, .val (.long q3), .second, .val (.long q4), .second, .val (.long q5), .second, .val (.int ad), .val (.int v23_12), .val (.int v36_s0), .val (.int v51_s0), .val (.long aa), .second, .val (.long bb), .second, .val (.long cc), .second, .val (.long dd), .second, .val (.ref b4), .val (.int v281_24), .val (.int (1 : Int32))] [(.ref b4)])) (fun _ k => XS.aload X_281.here hx rfl (hb hby at_287) rfl rfl  k) ?_
                  obtain ⟨cq15, kq15, q15a, q15b, q15c⟩ := isOf hZ e_281 R_281.exa
                  obtain ⟨_, _, ⟨T15, L15, k15, n15⟩, -, X15, ⟨Lc15, hQ15, l15, y15, z15⟩, st15⟩ := X_281.virtualBack hx (y := (⟨"com/example/redelivery/redelivery/RadixHeap", "takeLeast", "()J"⟩ : MethodName)) (z := (⟨"com/example/redelivery/redelivery/RadixHeap", "takeLeast", "()J"⟩ : MethodName)) hown (mvT hZ (hw _ (List.mem_of_getElem? (i := 67) rfl))) (mvT hZ (hw _ (List.mem_of_getElem? (i := 68) rfl))) (notFace_of_selects (args := #[]) (mvT hZ (hw _ (List.mem_of_getElem? (i := 70) rfl)))) (mvT hZ (hw _ (List.mem_of_getElem? (i := 70) rfl))) (mvT hZ (hw _ (List.mem_of_getElem? (i := 69) rfl))) (by decide) (backOf (W := 0) (rm12a l Z a0 hw [] b4 v281_24 dd dd h_281 n0 ZH_281 R_281 (Tak.one C_281 hc284 (by decide) htk) (Tak.three C_281 hc284 (by decide) htk ad3 (by decide)) (own_irr dd)) hZ (hw _ (List.mem_of_getElem? (i := 71) rfl)) (hw _ (List.mem_of_getElem? (i := 7) rfl)) (by decide) (by decide)) q15a q15c (g := (mkF m 289 #[.val (.int p0), .val (.long q1), .second, .val (.long q2), .second, .val (.long q3), .second, .val (.long q4), .second, .val (.long q5), .second, .val (.int ad), .val (.int v23_12), .val (.int v36_s0), .val (.int v51_s0), .val (.long aa), .second, .val (.long bb), .second, .val (.long cc), .second, .val (.long dd), .second, .val (.ref b4), .val (.int v281_24), .val (.int (1 : Int32))] [(.ref b4)])) rfl (by rw [hml]; rfl) (Steps.refl _) (argsL := []) (rest := []) (lenOf pd_9 rfl) rfl (by show 2 * 0 + _ ≤ _; exact Nat.le_of_eq rfl) (hb hby at_289) (fun _ _ => ⟨rfl, e_281, (by decide : 17 + 6 ≤ _), (by decide : 455 + 96 ≤ _)⟩)
                  dsimp only [Pt.U, Pt.locs, Pt.cells, Pt.slots] at X15 l15 y15 z15 st15 hQ15
                  subst l15 y15 z15
                  obtain ⟨r15, rfl, N15q, R15⟩ := hQ15
                  obtain ⟨lc15, X15, N15⟩ := own_pack X15 (Fr.app N_281 N15q)
                  refine Go.step (g' := (mkF m 292 #[.val (.int p0), .val (.long q1), .second, .val (.long q2), .second, .val (.long q3), .second, .val (.long q4), .second, .val (.long q5), .second, .val (.int ad), .val (.int v23_12), .val (.int v36_s0), .val (.int v51_s0), .val (.long aa), .second, .val (.long bb), .second, .val (.long cc), .second, .val (.long dd), .second, .val (.ref b4), .val (.int v281_24), .val (.int (1 : Int32))] [(.long r15)])) (fun _ k => st15.trans k) ?_
                  refine Go.step (g' := (mkF m 293 #[.val (.int p0), .val (.long q1), .second, .val (.long q2), .second, .val (.long q3), .second, .val (.long q4), .second, .val (.long q5), .second, .val (.int ad), .val (.int v23_12), .val (.int v36_s0), .val (.int v51_s0), .val (.long aa), .second, .val (.long bb), .second, .val (.long cc), .second, .val (.long dd), .second, .val (.ref b4), .val (.int v281_24), .val (.int (1 : Int32))] [])) (fun _ k => own_pop2 X15.here hx rfl (hb hby at_292) rfl k) ?_
                  refine Go.step (g' := (mkF m 296 #[.val (.int p0), .val (.long q1), .second, .val (.long q2), .second, .val (.long q3), .second, .val (.long q4), .second, .val (.long q5), .second, .val (.int ad), .val (.int v23_12), .val (.int v36_s0), .val (.int v51_s0), .val (.long aa), .second, .val (.long bb), .second, .val (.long cc), .second, .val (.long dd), .second, .val (.ref b4), .val (.int (v281_24 + (-1 : Int32))), .val (.int (1 : Int32))] [])) (fun _ k => XS.iinc X15.here hx rfl (hb hby at_293) rfl (l' := #[.val (.int p0), .val (.long q1), .second, .val (.long q2), .second, .val (.long q3), .second, .val (.long q4), .second, .val (.long q5), .second, .val (.int ad), .val (.int v23_12), .val (.int v36_s0), .val (.int v51_s0), .val (.long aa), .second, .val (.long bb), .second, .val (.long cc), .second, .val (.long dd), .second, .val (.ref b4), .val (.int (v281_24 + (-1 : Int32))), .val (.int (1 : Int32))]) rfl k) ?_
                  rw [show (v281_24 + (-1 : Int32)) = (v281_24 - (1 : Int32)) from own_min1 _]
                  refine Go.step (g' := (mkF m 298 #[.val (.int p0), .val (.long q1), .second, .val (.long q2), .second, .val (.long q3), .second, .val (.long q4), .second, .val (.long q5), .second, .val (.int ad), .val (.int v23_12), .val (.int v36_s0), .val (.int v51_s0), .val (.long aa), .second, .val (.long bb), .second, .val (.long cc), .second, .val (.long dd), .second, .val (.ref b4), .val (.int (v281_24 - (1 : Int32))), .val (.int (1 : Int32))] [(.int (1 : Int32))])) (fun _ k => XS.iload X15.here hx rfl (hb hby at_296) rfl  k) ?_
                  refine Go.step (g' := (mkF m 301 #[.val (.int p0), .val (.long q1), .second, .val (.long q2), .second, .val (.long q3), .second, .val (.long q4), .second, .val (.long q5), .second, .val (.int ad), .val (.int v23_12), .val (.int v36_s0), .val (.int v51_s0), .val (.long aa), .second, .val (.long bb), .second, .val (.long cc), .second, .val (.long dd), .second, .val (.ref b4), .val (.int (v281_24 - (1 : Int32))), .val (.int (1 : Int32))] [])) (fun _ k => XS.ifNo X15.here hx rfl (hb hby at_298) rfl ((if0 _ _).trans (feq (by decide : ¬ ((1 : Int32) = (0 : Int32)))).1) k) ?_
                  skip
                  refine Go.step (g' := (mkF m 303 #[.val (.int p0), .val (.long q1), .second, .val (.long q2), .second, .val (.long q3), .second, .val (.long q4), .second, .val (.long q5), .second, .val (.int ad), .val (.int v23_12), .val (.int v36_s0), .val (.int v51_s0), .val (.long aa), .second, .val (.long bb), .second, .val (.long cc), .second, .val (.long dd), .second, .val (.ref b4), .val (.int (v281_24 - (1 : Int32))), .val (.int (1 : Int32))] [(.ref b4)])) (fun _ k => XS.aload X15.here hx rfl (hb hby at_301) rfl rfl  k) ?_
                  refine Go.step (g' := (mkF m 305 #[.val (.int p0), .val (.long q1), .second, .val (.long q2), .second, .val (.long q3), .second, .val (.long q4), .second, .val (.long q5), .second, .val (.int ad), .val (.int v23_12), .val (.int v36_s0), .val (.int v51_s0), .val (.long aa), .second, .val (.long bb), .second, .val (.long cc), .second, .val (.long dd), .second, .val (.ref b4), .val (.int (v281_24 - (1 : Int32))), .val (.int (1 : Int32))] [(.int (v281_24 - (1 : Int32))), (.ref b4)])) (fun _ k => XS.iload X15.here hx rfl (hb hby at_303) rfl  k) ?_
                  obtain ⟨_, _, ⟨T16, L16, k16, n16⟩, -, X16, ⟨Lc16, hQ16, l16, y16, z16⟩, st16⟩ := Jvm.LawKit.callS X15 hx (y := (⟨"com/example/redelivery/redelivery/RadixHeapIsEmptyPinLaw", "agree", "(Lcom/example/redelivery/redelivery/RadixHeap;I)Z"⟩ : MethodName)) hown (mvT hZ (hw _ (List.mem_of_getElem? (i := 26) rfl))) (mvT hZ (hw _ (List.mem_of_getElem? (i := 27) rfl))) (mvT hZ (hw _ (List.mem_of_getElem? (i := 28) rfl))) (mvT hZ (hw _ (List.mem_of_getElem? (i := 29) rfl))) (by decide) (backOf (W := 0) (rm4 l Z a0 hw [] b4 (v281_24 - (1 : Int32)) (v281_24 - (1 : Int32)) T15.heap R15.size R15.exa) hZ (hw _ (List.mem_of_getElem? (i := 29) rfl)) (hw _ (List.mem_of_getElem? (i := 28) rfl)) (by decide) (by decide)) (g := (mkF m 305 #[.val (.int p0), .val (.long q1), .second, .val (.long q2), .second, .val (.long q3), .second, .val (.long q4), .second, .val (.long q5), .second, .val (.int ad), .val (.int v23_12), .val (.int v36_s0), .val (.int v51_s0), .val (.long aa), .second, .val (.long bb), .second, .val (.long cc), .second, .val (.long dd), .second, .val (.ref b4), .val (.int (v281_24 - (1 : Int32))), .val (.int (1 : Int32))] [(.int (v281_24 - (1 : Int32))), (.ref b4)])) rfl (by rw [hml]; rfl) (argsL := [(.ref b4), (.int (v281_24 - (1 : Int32)))]) (rest := []) (lenOf pd_7 rfl) rfl (by show 2 * 0 + _ ≤ _; exact Nat.le_of_eq rfl) (hb hby at_305) (fun _ _ => ⟨rfl, rfl, (by decide : (17 + 6) + 0 ≤ _), (by decide : (455 + 96) + 0 ≤ _)⟩)
                  dsimp only [Pt.U, Pt.locs, Pt.cells, Pt.slots] at X16 l16 y16 z16 st16 hQ16
                  subst l16 y16 z16
                  obtain ⟨rfl, rfl, e16⟩ := hQ16
                  try rw [List.append_nil] at X16
                  refine Go.step (g' := (mkF m 308 #[.val (.int p0), .val (.long q1), .second, .val (.long q2), .second, .val (.long q3), .second, .val (.long q4), .second, .val (.long q5), .second, .val (.int ad), .val (.int v23_12), .val (.int v36_s0), .val (.int v51_s0), .val (.long aa), .second, .val (.long bb), .second, .val (.long cc), .second, .val (.long dd), .second, .val (.ref b4), .val (.int (v281_24 - (1 : Int32))), .val (.int (1 : Int32))] [(.int (f4_0 (v281_24 - (1 : Int32)) (v281_24 - (1 : Int32))))])) st16 ?_
                  rw [show (f4_0 (v281_24 - (1 : Int32)) (v281_24 - (1 : Int32))) = (1 : Int32) from own_agree _]
                  refine Go.step (g' := (mkF m 311 #[.val (.int p0), .val (.long q1), .second, .val (.long q2), .second, .val (.long q3), .second, .val (.long q4), .second, .val (.long q5), .second, .val (.int ad), .val (.int v23_12), .val (.int v36_s0), .val (.int v51_s0), .val (.long aa), .second, .val (.long bb), .second, .val (.long cc), .second, .val (.long dd), .second, .val (.ref b4), .val (.int (v281_24 - (1 : Int32))), .val (.int (1 : Int32))] [])) (fun _ k => XS.ifNo X16.here hx rfl (hb hby at_308) rfl ((if0 _ _).trans (feq (by decide : ¬ ((1 : Int32) = (0 : Int32)))).1) k) ?_
                  skip
                  refine Go.step (g' := (mkF m 312 #[.val (.int p0), .val (.long q1), .second, .val (.long q2), .second, .val (.long q3), .second, .val (.long q4), .second, .val (.long q5), .second, .val (.int ad), .val (.int v23_12), .val (.int v36_s0), .val (.int v51_s0), .val (.long aa), .second, .val (.long bb), .second, .val (.long cc), .second, .val (.long dd), .second, .val (.ref b4), .val (.int (v281_24 - (1 : Int32))), .val (.int (1 : Int32))] [(.int (1 : Int32))])) (fun _ k => XS.iconst X16.here hx rfl (hb hby at_311) k) ?_
                  refine Go.step (g' := (mkF m 316 #[.val (.int p0), .val (.long q1), .second, .val (.long q2), .second, .val (.long q3), .second, .val (.long q4), .second, .val (.long q5), .second, .val (.int ad), .val (.int v23_12), .val (.int v36_s0), .val (.int v51_s0), .val (.long aa), .second, .val (.long bb), .second, .val (.long cc), .second, .val (.long dd), .second, .val (.ref b4), .val (.int (v281_24 - (1 : Int32))), .val (.int (1 : Int32))] [(.int (1 : Int32))])) (fun _ k => XS.goto X16.here hx rfl (pc0 := 312) (pc' := 316) rfl (hb hby at_312) (by decide) (by decide) k) ?_
                  skip
                  refine Go.step (g' := (mkF m 318 #[.val (.int p0), .val (.long q1), .second, .val (.long q2), .second, .val (.long q3), .second, .val (.long q4), .second, .val (.long q5), .second, .val (.int ad), .val (.int v23_12), .val (.int v36_s0), .val (.int v51_s0), .val (.long aa), .second, .val (.long bb), .second, .val (.long cc), .second, .val (.long dd), .second, .val (.ref b4), .val (.int (v281_24 - (1 : Int32))), .val (.int (1 : Int32))] [])) (fun _ k => XS.istore X16.here hx rfl (hb hby at_316) rfl (l' := #[.val (.int p0), .val (.long q1), .second, .val (.long q2), .second, .val (.long q3), .second, .val (.long q4), .second, .val (.long q5), .second, .val (.int ad), .val (.int v23_12), .val (.int v36_s0), .val (.int v51_s0), .val (.long aa), .second, .val (.long bb), .second, .val (.long cc), .second, .val (.long dd), .second, .val (.ref b4), .val (.int (v281_24 - (1 : Int32))), .val (.int (1 : Int32))]) rfl k) ?_
                  skip
                  exact t318 T16 T15.heap lc15 (own_more X16 (by decide) (by decide)) e16 N15 R15.zh (v281_24 - (1 : Int32)) R15 (Tak.go C_281 hc284 (by decide) (by decide) htk ad3 (by decide))
              by_cases hc247 : v23_12 < (1 : Int32)
              · skip
                refine Go.step (g' := (mkF m 281 #[.val (.int p0), .val (.long q1), .second, .val (.long q2), .second, .val (.long q3), .second, .val (.long q4), .second, .val (.long q5), .second, .val (.int ad), .val (.int v23_12), .val (.int v36_s0), .val (.int v51_s0), .val (.long aa), .second, .val (.long bb), .second, .val (.long cc), .second, .val (.long dd), .second, .val (.ref b4), .val (.int v244_24), .val (.int (1 : Int32))] [])) (fun _ k => XS.icmpYes X_244.here hx rfl (pc0 := 247) (pc' := 281) rfl (hb hby at_247) rfl (tlt hc247).1 (by decide) (by decide) k) ?_
                exact t281 T_244 h_244 lc_244 (own_more X_244 (by decide) (by decide)) e_244 N_244 ZH_244 v244_24 R_244 (Tak.stay C_244 hc247 (by decide) (by decide) htk ad3 (by decide))
              · skip
                refine Go.step (g' := (mkF m 250 #[.val (.int p0), .val (.long q1), .second, .val (.long q2), .second, .val (.long q3), .second, .val (.long q4), .second, .val (.long q5), .second, .val (.int ad), .val (.int v23_12), .val (.int v36_s0), .val (.int v51_s0), .val (.long aa), .second, .val (.long bb), .second, .val (.long cc), .second, .val (.long dd), .second, .val (.ref b4), .val (.int v244_24), .val (.int (1 : Int32))] [])) (fun _ k => XS.icmpNo X_244.here hx rfl (hb hby at_247) rfl (flt hc247).1 k) ?_
                refine Go.step (g' := (mkF m 252 #[.val (.int p0), .val (.long q1), .second, .val (.long q2), .second, .val (.long q3), .second, .val (.long q4), .second, .val (.long q5), .second, .val (.int ad), .val (.int v23_12), .val (.int v36_s0), .val (.int v51_s0), .val (.long aa), .second, .val (.long bb), .second, .val (.long cc), .second, .val (.long dd), .second, .val (.ref b4), .val (.int v244_24), .val (.int (1 : Int32))] [(.ref b4)])) (fun _ k => XS.aload X_244.here hx rfl (hb hby at_250) rfl rfl  k) ?_
                obtain ⟨cq13, kq13, q13a, q13b, q13c⟩ := isOf hZ e_244 R_244.exa
                obtain ⟨_, _, ⟨T13, L13, k13, n13⟩, -, X13, ⟨Lc13, hQ13, l13, y13, z13⟩, st13⟩ := X_244.virtualBack hx (y := (⟨"com/example/redelivery/redelivery/RadixHeap", "takeLeast", "()J"⟩ : MethodName)) (z := (⟨"com/example/redelivery/redelivery/RadixHeap", "takeLeast", "()J"⟩ : MethodName)) hown (mvT hZ (hw _ (List.mem_of_getElem? (i := 67) rfl))) (mvT hZ (hw _ (List.mem_of_getElem? (i := 68) rfl))) (notFace_of_selects (args := #[]) (mvT hZ (hw _ (List.mem_of_getElem? (i := 70) rfl)))) (mvT hZ (hw _ (List.mem_of_getElem? (i := 70) rfl))) (mvT hZ (hw _ (List.mem_of_getElem? (i := 69) rfl))) (by decide) (backOf (W := 0) (rm12a l Z a0 hw [] b4 v244_24 dd dd h_244 n0 ZH_244 R_244 (Tak.one C_244 hc247 (by decide) htk) (Tak.three C_244 hc247 (by decide) htk ad3 (by decide)) (own_irr dd)) hZ (hw _ (List.mem_of_getElem? (i := 71) rfl)) (hw _ (List.mem_of_getElem? (i := 7) rfl)) (by decide) (by decide)) q13a q13c (g := (mkF m 252 #[.val (.int p0), .val (.long q1), .second, .val (.long q2), .second, .val (.long q3), .second, .val (.long q4), .second, .val (.long q5), .second, .val (.int ad), .val (.int v23_12), .val (.int v36_s0), .val (.int v51_s0), .val (.long aa), .second, .val (.long bb), .second, .val (.long cc), .second, .val (.long dd), .second, .val (.ref b4), .val (.int v244_24), .val (.int (1 : Int32))] [(.ref b4)])) rfl (by rw [hml]; rfl) (Steps.refl _) (argsL := []) (rest := []) (lenOf pd_9 rfl) rfl (by show 2 * 0 + _ ≤ _; exact Nat.le_of_eq rfl) (hb hby at_252) (fun _ _ => ⟨rfl, e_244, (by decide : 11 + 6 ≤ _), (by decide : 359 + 96 ≤ _)⟩)
                dsimp only [Pt.U, Pt.locs, Pt.cells, Pt.slots] at X13 l13 y13 z13 st13 hQ13
                subst l13 y13 z13
                obtain ⟨r13, rfl, N13q, R13⟩ := hQ13
                obtain ⟨lc13, X13, N13⟩ := own_pack X13 (Fr.app N_244 N13q)
                refine Go.step (g' := (mkF m 255 #[.val (.int p0), .val (.long q1), .second, .val (.long q2), .second, .val (.long q3), .second, .val (.long q4), .second, .val (.long q5), .second, .val (.int ad), .val (.int v23_12), .val (.int v36_s0), .val (.int v51_s0), .val (.long aa), .second, .val (.long bb), .second, .val (.long cc), .second, .val (.long dd), .second, .val (.ref b4), .val (.int v244_24), .val (.int (1 : Int32))] [(.long r13)])) (fun _ k => st13.trans k) ?_
                refine Go.step (g' := (mkF m 256 #[.val (.int p0), .val (.long q1), .second, .val (.long q2), .second, .val (.long q3), .second, .val (.long q4), .second, .val (.long q5), .second, .val (.int ad), .val (.int v23_12), .val (.int v36_s0), .val (.int v51_s0), .val (.long aa), .second, .val (.long bb), .second, .val (.long cc), .second, .val (.long dd), .second, .val (.ref b4), .val (.int v244_24), .val (.int (1 : Int32))] [])) (fun _ k => own_pop2 X13.here hx rfl (hb hby at_255) rfl k) ?_
                refine Go.step (g' := (mkF m 259 #[.val (.int p0), .val (.long q1), .second, .val (.long q2), .second, .val (.long q3), .second, .val (.long q4), .second, .val (.long q5), .second, .val (.int ad), .val (.int v23_12), .val (.int v36_s0), .val (.int v51_s0), .val (.long aa), .second, .val (.long bb), .second, .val (.long cc), .second, .val (.long dd), .second, .val (.ref b4), .val (.int (v244_24 + (-1 : Int32))), .val (.int (1 : Int32))] [])) (fun _ k => XS.iinc X13.here hx rfl (hb hby at_256) rfl (l' := #[.val (.int p0), .val (.long q1), .second, .val (.long q2), .second, .val (.long q3), .second, .val (.long q4), .second, .val (.long q5), .second, .val (.int ad), .val (.int v23_12), .val (.int v36_s0), .val (.int v51_s0), .val (.long aa), .second, .val (.long bb), .second, .val (.long cc), .second, .val (.long dd), .second, .val (.ref b4), .val (.int (v244_24 + (-1 : Int32))), .val (.int (1 : Int32))]) rfl k) ?_
                rw [show (v244_24 + (-1 : Int32)) = (v244_24 - (1 : Int32)) from own_min1 _]
                refine Go.step (g' := (mkF m 261 #[.val (.int p0), .val (.long q1), .second, .val (.long q2), .second, .val (.long q3), .second, .val (.long q4), .second, .val (.long q5), .second, .val (.int ad), .val (.int v23_12), .val (.int v36_s0), .val (.int v51_s0), .val (.long aa), .second, .val (.long bb), .second, .val (.long cc), .second, .val (.long dd), .second, .val (.ref b4), .val (.int (v244_24 - (1 : Int32))), .val (.int (1 : Int32))] [(.int (1 : Int32))])) (fun _ k => XS.iload X13.here hx rfl (hb hby at_259) rfl  k) ?_
                refine Go.step (g' := (mkF m 264 #[.val (.int p0), .val (.long q1), .second, .val (.long q2), .second, .val (.long q3), .second, .val (.long q4), .second, .val (.long q5), .second, .val (.int ad), .val (.int v23_12), .val (.int v36_s0), .val (.int v51_s0), .val (.long aa), .second, .val (.long bb), .second, .val (.long cc), .second, .val (.long dd), .second, .val (.ref b4), .val (.int (v244_24 - (1 : Int32))), .val (.int (1 : Int32))] [])) (fun _ k => XS.ifNo X13.here hx rfl (hb hby at_261) rfl ((if0 _ _).trans (feq (by decide : ¬ ((1 : Int32) = (0 : Int32)))).1) k) ?_
                skip
                refine Go.step (g' := (mkF m 266 #[.val (.int p0), .val (.long q1), .second, .val (.long q2), .second, .val (.long q3), .second, .val (.long q4), .second, .val (.long q5), .second, .val (.int ad), .val (.int v23_12), .val (.int v36_s0), .val (.int v51_s0), .val (.long aa), .second, .val (.long bb), .second, .val (.long cc), .second, .val (.long dd), .second, .val (.ref b4), .val (.int (v244_24 - (1 : Int32))), .val (.int (1 : Int32))] [(.ref b4)])) (fun _ k => XS.aload X13.here hx rfl (hb hby at_264) rfl rfl  k) ?_
                refine Go.step (g' := (mkF m 268 #[.val (.int p0), .val (.long q1), .second, .val (.long q2), .second, .val (.long q3), .second, .val (.long q4), .second, .val (.long q5), .second, .val (.int ad), .val (.int v23_12), .val (.int v36_s0), .val (.int v51_s0), .val (.long aa), .second, .val (.long bb), .second, .val (.long cc), .second, .val (.long dd), .second, .val (.ref b4), .val (.int (v244_24 - (1 : Int32))), .val (.int (1 : Int32))] [(.int (v244_24 - (1 : Int32))), (.ref b4)])) (fun _ k => XS.iload X13.here hx rfl (hb hby at_266) rfl  k) ?_
                obtain ⟨_, _, ⟨T14, L14, k14, n14⟩, -, X14, ⟨Lc14, hQ14, l14, y14, z14⟩, st14⟩ := Jvm.LawKit.callS X13 hx (y := (⟨"com/example/redelivery/redelivery/RadixHeapIsEmptyPinLaw", "agree", "(Lcom/example/redelivery/redelivery/RadixHeap;I)Z"⟩ : MethodName)) hown (mvT hZ (hw _ (List.mem_of_getElem? (i := 26) rfl))) (mvT hZ (hw _ (List.mem_of_getElem? (i := 27) rfl))) (mvT hZ (hw _ (List.mem_of_getElem? (i := 28) rfl))) (mvT hZ (hw _ (List.mem_of_getElem? (i := 29) rfl))) (by decide) (backOf (W := 0) (rm4 l Z a0 hw [] b4 (v244_24 - (1 : Int32)) (v244_24 - (1 : Int32)) T13.heap R13.size R13.exa) hZ (hw _ (List.mem_of_getElem? (i := 29) rfl)) (hw _ (List.mem_of_getElem? (i := 28) rfl)) (by decide) (by decide)) (g := (mkF m 268 #[.val (.int p0), .val (.long q1), .second, .val (.long q2), .second, .val (.long q3), .second, .val (.long q4), .second, .val (.long q5), .second, .val (.int ad), .val (.int v23_12), .val (.int v36_s0), .val (.int v51_s0), .val (.long aa), .second, .val (.long bb), .second, .val (.long cc), .second, .val (.long dd), .second, .val (.ref b4), .val (.int (v244_24 - (1 : Int32))), .val (.int (1 : Int32))] [(.int (v244_24 - (1 : Int32))), (.ref b4)])) rfl (by rw [hml]; rfl) (argsL := [(.ref b4), (.int (v244_24 - (1 : Int32)))]) (rest := []) (lenOf pd_7 rfl) rfl (by show 2 * 0 + _ ≤ _; exact Nat.le_of_eq rfl) (hb hby at_268) (fun _ _ => ⟨rfl, rfl, (by decide : (11 + 6) + 0 ≤ _), (by decide : (359 + 96) + 0 ≤ _)⟩)
                dsimp only [Pt.U, Pt.locs, Pt.cells, Pt.slots] at X14 l14 y14 z14 st14 hQ14
                subst l14 y14 z14
                obtain ⟨rfl, rfl, e14⟩ := hQ14
                try rw [List.append_nil] at X14
                refine Go.step (g' := (mkF m 271 #[.val (.int p0), .val (.long q1), .second, .val (.long q2), .second, .val (.long q3), .second, .val (.long q4), .second, .val (.long q5), .second, .val (.int ad), .val (.int v23_12), .val (.int v36_s0), .val (.int v51_s0), .val (.long aa), .second, .val (.long bb), .second, .val (.long cc), .second, .val (.long dd), .second, .val (.ref b4), .val (.int (v244_24 - (1 : Int32))), .val (.int (1 : Int32))] [(.int (f4_0 (v244_24 - (1 : Int32)) (v244_24 - (1 : Int32))))])) st14 ?_
                rw [show (f4_0 (v244_24 - (1 : Int32)) (v244_24 - (1 : Int32))) = (1 : Int32) from own_agree _]
                refine Go.step (g' := (mkF m 274 #[.val (.int p0), .val (.long q1), .second, .val (.long q2), .second, .val (.long q3), .second, .val (.long q4), .second, .val (.long q5), .second, .val (.int ad), .val (.int v23_12), .val (.int v36_s0), .val (.int v51_s0), .val (.long aa), .second, .val (.long bb), .second, .val (.long cc), .second, .val (.long dd), .second, .val (.ref b4), .val (.int (v244_24 - (1 : Int32))), .val (.int (1 : Int32))] [])) (fun _ k => XS.ifNo X14.here hx rfl (hb hby at_271) rfl ((if0 _ _).trans (feq (by decide : ¬ ((1 : Int32) = (0 : Int32)))).1) k) ?_
                skip
                refine Go.step (g' := (mkF m 275 #[.val (.int p0), .val (.long q1), .second, .val (.long q2), .second, .val (.long q3), .second, .val (.long q4), .second, .val (.long q5), .second, .val (.int ad), .val (.int v23_12), .val (.int v36_s0), .val (.int v51_s0), .val (.long aa), .second, .val (.long bb), .second, .val (.long cc), .second, .val (.long dd), .second, .val (.ref b4), .val (.int (v244_24 - (1 : Int32))), .val (.int (1 : Int32))] [(.int (1 : Int32))])) (fun _ k => XS.iconst X14.here hx rfl (hb hby at_274) k) ?_
                refine Go.step (g' := (mkF m 279 #[.val (.int p0), .val (.long q1), .second, .val (.long q2), .second, .val (.long q3), .second, .val (.long q4), .second, .val (.long q5), .second, .val (.int ad), .val (.int v23_12), .val (.int v36_s0), .val (.int v51_s0), .val (.long aa), .second, .val (.long bb), .second, .val (.long cc), .second, .val (.long dd), .second, .val (.ref b4), .val (.int (v244_24 - (1 : Int32))), .val (.int (1 : Int32))] [(.int (1 : Int32))])) (fun _ k => XS.goto X14.here hx rfl (pc0 := 275) (pc' := 279) rfl (hb hby at_275) (by decide) (by decide) k) ?_
                skip
                refine Go.step (g' := (mkF m 281 #[.val (.int p0), .val (.long q1), .second, .val (.long q2), .second, .val (.long q3), .second, .val (.long q4), .second, .val (.long q5), .second, .val (.int ad), .val (.int v23_12), .val (.int v36_s0), .val (.int v51_s0), .val (.long aa), .second, .val (.long bb), .second, .val (.long cc), .second, .val (.long dd), .second, .val (.ref b4), .val (.int (v244_24 - (1 : Int32))), .val (.int (1 : Int32))] [])) (fun _ k => XS.istore X14.here hx rfl (hb hby at_279) rfl (l' := #[.val (.int p0), .val (.long q1), .second, .val (.long q2), .second, .val (.long q3), .second, .val (.long q4), .second, .val (.long q5), .second, .val (.int ad), .val (.int v23_12), .val (.int v36_s0), .val (.int v51_s0), .val (.long aa), .second, .val (.long bb), .second, .val (.long cc), .second, .val (.long dd), .second, .val (.ref b4), .val (.int (v244_24 - (1 : Int32))), .val (.int (1 : Int32))]) rfl k) ?_
                skip
                exact t281 T14 T13.heap lc13 (own_more X14 (by decide) (by decide)) e14 N13 R13.zh (v244_24 - (1 : Int32)) R13 (Tak.go C_244 hc247 (by decide) (by decide) htk ad3 (by decide))
            by_cases hc204 : ad < (3 : Int32)
            · skip
              refine Go.step (g' := (mkF m 244 #[.val (.int p0), .val (.long q1), .second, .val (.long q2), .second, .val (.long q3), .second, .val (.long q4), .second, .val (.long q5), .second, .val (.int ad), .val (.int v23_12), .val (.int v36_s0), .val (.int v51_s0), .val (.long aa), .second, .val (.long bb), .second, .val (.long cc), .second, .val (.long dd), .second, .val (.ref b4), .val (.int v201_24), .val (.int (1 : Int32))] [])) (fun _ k => XS.icmpYes X_201.here hx rfl (pc0 := 204) (pc' := 244) rfl (hb hby at_204) rfl (tlt hc204).1 (by decide) (by decide) k) ?_
              exact t244 T_201 h_201 lc_201 (own_more X_201 (by decide) (by decide)) e_201 N_201 ZH_201 v201_24 (RH.mono R_201 dd0) (Cnt.tak (Cnt.stay C_201 hc204 (by decide) (by decide)) ad0 ad3)
            · skip
              refine Go.step (g' := (mkF m 207 #[.val (.int p0), .val (.long q1), .second, .val (.long q2), .second, .val (.long q3), .second, .val (.long q4), .second, .val (.long q5), .second, .val (.int ad), .val (.int v23_12), .val (.int v36_s0), .val (.int v51_s0), .val (.long aa), .second, .val (.long bb), .second, .val (.long cc), .second, .val (.long dd), .second, .val (.ref b4), .val (.int v201_24), .val (.int (1 : Int32))] [])) (fun _ k => XS.icmpNo X_201.here hx rfl (hb hby at_204) rfl (flt hc204).1 k) ?_
              refine Go.step (g' := (mkF m 209 #[.val (.int p0), .val (.long q1), .second, .val (.long q2), .second, .val (.long q3), .second, .val (.long q4), .second, .val (.long q5), .second, .val (.int ad), .val (.int v23_12), .val (.int v36_s0), .val (.int v51_s0), .val (.long aa), .second, .val (.long bb), .second, .val (.long cc), .second, .val (.long dd), .second, .val (.ref b4), .val (.int v201_24), .val (.int (1 : Int32))] [(.ref b4)])) (fun _ k => XS.aload X_201.here hx rfl (hb hby at_207) rfl rfl  k) ?_
              refine Go.step (g' := (mkF m 211 #[.val (.int p0), .val (.long q1), .second, .val (.long q2), .second, .val (.long q3), .second, .val (.long q4), .second, .val (.long q5), .second, .val (.int ad), .val (.int v23_12), .val (.int v36_s0), .val (.int v51_s0), .val (.long aa), .second, .val (.long bb), .second, .val (.long cc), .second, .val (.long dd), .second, .val (.ref b4), .val (.int v201_24), .val (.int (1 : Int32))] [(.long cc), (.ref b4)])) (fun _ k => XS.lload X_201.here hx rfl (hb hby at_209) rfl  k) ?_
              refine Go.step (g' := (mkF m 213 #[.val (.int p0), .val (.long q1), .second, .val (.long q2), .second, .val (.long q3), .second, .val (.long q4), .second, .val (.long q5), .second, .val (.int ad), .val (.int v23_12), .val (.int v36_s0), .val (.int v51_s0), .val (.long aa), .second, .val (.long bb), .second, .val (.long cc), .second, .val (.long dd), .second, .val (.ref b4), .val (.int v201_24), .val (.int (1 : Int32))] [(.long q5), (.long cc), (.ref b4)])) (fun _ k => XS.lload X_201.here hx rfl (hb hby at_211) rfl  k) ?_
              refine Go.step (g' := (mkF m 215 #[.val (.int p0), .val (.long q1), .second, .val (.long q2), .second, .val (.long q3), .second, .val (.long q4), .second, .val (.long q5), .second, .val (.int ad), .val (.int v23_12), .val (.int v36_s0), .val (.int v51_s0), .val (.long aa), .second, .val (.long bb), .second, .val (.long cc), .second, .val (.long dd), .second, .val (.ref b4), .val (.int v201_24), .val (.int (1 : Int32))] [(.long q3), (.long q5), (.long cc), (.ref b4)])) (fun _ k => XS.lload X_201.here hx rfl (hb hby at_213) rfl  k) ?_
              refine Go.step (g' := (mkF m 216 #[.val (.int p0), .val (.long q1), .second, .val (.long q2), .second, .val (.long q3), .second, .val (.long q4), .second, .val (.long q5), .second, .val (.int ad), .val (.int v23_12), .val (.int v36_s0), .val (.int v51_s0), .val (.long aa), .second, .val (.long bb), .second, .val (.long cc), .second, .val (.long dd), .second, .val (.ref b4), .val (.int v201_24), .val (.int (1 : Int32))] [(.long (q5 ^^^ q3)), (.long cc), (.ref b4)])) (fun _ k => XS.lxor X_201.here hx rfl (hb hby at_215) rfl k) ?_
              obtain ⟨cq11, kq11, q11a, q11b, q11c⟩ := isOf hZ e_201 R_201.exa
              obtain ⟨_, _, ⟨T11, L11, k11, n11⟩, -, X11, ⟨Lc11, hQ11, l11, y11, z11⟩, st11⟩ := X_201.virtualBack hx (y := (⟨"com/example/redelivery/redelivery/RadixHeap", "add", "(JJ)V"⟩ : MethodName)) (z := (⟨"com/example/redelivery/redelivery/RadixHeap", "add", "(JJ)V"⟩ : MethodName)) hown (mvT hZ (hw _ (List.mem_of_getElem? (i := 37) rfl))) (mvT hZ (hw _ (List.mem_of_getElem? (i := 38) rfl))) (notFace_of_selects (args := #[]) (mvT hZ (hw _ (List.mem_of_getElem? (i := 40) rfl)))) (mvT hZ (hw _ (List.mem_of_getElem? (i := 40) rfl))) (mvT hZ (hw _ (List.mem_of_getElem? (i := 39) rfl))) (by decide) (backOf (W := 0) (rm6 l Z a0 hw [] b4 cc (q5 ^^^ q3) v201_24 (0 : Int64) dd h_201 n0 ZH_201 R_201 (Cnt.le C_201 ad3) cc0 dd3) hZ (hw _ (List.mem_of_getElem? (i := 41) rfl)) (hw _ (List.mem_of_getElem? (i := 7) rfl)) (by decide) (by decide)) q11a q11c (g := (mkF m 216 #[.val (.int p0), .val (.long q1), .second, .val (.long q2), .second, .val (.long q3), .second, .val (.long q4), .second, .val (.long q5), .second, .val (.int ad), .val (.int v23_12), .val (.int v36_s0), .val (.int v51_s0), .val (.long aa), .second, .val (.long bb), .second, .val (.long cc), .second, .val (.long dd), .second, .val (.ref b4), .val (.int v201_24), .val (.int (1 : Int32))] [(.long (q5 ^^^ q3)), (.long cc), (.ref b4)])) rfl (by rw [hml]; rfl) (Steps.refl _) (argsL := [(.long cc), (.long (q5 ^^^ q3))]) (rest := []) (lenOf pd_8 rfl) rfl (by show 2 * 0 + _ ≤ _; exact Nat.le_of_eq rfl) (hb hby at_216) (fun _ _ => ⟨rfl, e_201, (by decide : 9 + 2 ≤ _), (by decide : 327 + 32 ≤ _)⟩)
              dsimp only [Pt.U, Pt.locs, Pt.cells, Pt.slots] at X11 l11 y11 z11 st11 hQ11
              subst l11 y11 z11
              obtain ⟨rfl, N11q, R11⟩ := hQ11
              obtain ⟨lc11, X11, N11⟩ := own_pack X11 (Fr.app N_201 N11q)
              refine Go.step (g' := (mkF m 219 #[.val (.int p0), .val (.long q1), .second, .val (.long q2), .second, .val (.long q3), .second, .val (.long q4), .second, .val (.long q5), .second, .val (.int ad), .val (.int v23_12), .val (.int v36_s0), .val (.int v51_s0), .val (.long aa), .second, .val (.long bb), .second, .val (.long cc), .second, .val (.long dd), .second, .val (.ref b4), .val (.int v201_24), .val (.int (1 : Int32))] [])) (fun _ k => st11.trans k) ?_
              refine Go.step (g' := (mkF m 222 #[.val (.int p0), .val (.long q1), .second, .val (.long q2), .second, .val (.long q3), .second, .val (.long q4), .second, .val (.long q5), .second, .val (.int ad), .val (.int v23_12), .val (.int v36_s0), .val (.int v51_s0), .val (.long aa), .second, .val (.long bb), .second, .val (.long cc), .second, .val (.long dd), .second, .val (.ref b4), .val (.int (v201_24 + (1 : Int32))), .val (.int (1 : Int32))] [])) (fun _ k => XS.iinc X11.here hx rfl (hb hby at_219) rfl (l' := #[.val (.int p0), .val (.long q1), .second, .val (.long q2), .second, .val (.long q3), .second, .val (.long q4), .second, .val (.long q5), .second, .val (.int ad), .val (.int v23_12), .val (.int v36_s0), .val (.int v51_s0), .val (.long aa), .second, .val (.long bb), .second, .val (.long cc), .second, .val (.long dd), .second, .val (.ref b4), .val (.int (v201_24 + (1 : Int32))), .val (.int (1 : Int32))]) rfl k) ?_
              refine Go.step (g' := (mkF m 224 #[.val (.int p0), .val (.long q1), .second, .val (.long q2), .second, .val (.long q3), .second, .val (.long q4), .second, .val (.long q5), .second, .val (.int ad), .val (.int v23_12), .val (.int v36_s0), .val (.int v51_s0), .val (.long aa), .second, .val (.long bb), .second, .val (.long cc), .second, .val (.long dd), .second, .val (.ref b4), .val (.int (v201_24 + (1 : Int32))), .val (.int (1 : Int32))] [(.int (1 : Int32))])) (fun _ k => XS.iload X11.here hx rfl (hb hby at_222) rfl  k) ?_
              refine Go.step (g' := (mkF m 227 #[.val (.int p0), .val (.long q1), .second, .val (.long q2), .second, .val (.long q3), .second, .val (.long q4), .second, .val (.long q5), .second, .val (.int ad), .val (.int v23_12), .val (.int v36_s0), .val (.int v51_s0), .val (.long aa), .second, .val (.long bb), .second, .val (.long cc), .second, .val (.long dd), .second, .val (.ref b4), .val (.int (v201_24 + (1 : Int32))), .val (.int (1 : Int32))] [])) (fun _ k => XS.ifNo X11.here hx rfl (hb hby at_224) rfl ((if0 _ _).trans (feq (by decide : ¬ ((1 : Int32) = (0 : Int32)))).1) k) ?_
              skip
              refine Go.step (g' := (mkF m 229 #[.val (.int p0), .val (.long q1), .second, .val (.long q2), .second, .val (.long q3), .second, .val (.long q4), .second, .val (.long q5), .second, .val (.int ad), .val (.int v23_12), .val (.int v36_s0), .val (.int v51_s0), .val (.long aa), .second, .val (.long bb), .second, .val (.long cc), .second, .val (.long dd), .second, .val (.ref b4), .val (.int (v201_24 + (1 : Int32))), .val (.int (1 : Int32))] [(.ref b4)])) (fun _ k => XS.aload X11.here hx rfl (hb hby at_227) rfl rfl  k) ?_
              refine Go.step (g' := (mkF m 231 #[.val (.int p0), .val (.long q1), .second, .val (.long q2), .second, .val (.long q3), .second, .val (.long q4), .second, .val (.long q5), .second, .val (.int ad), .val (.int v23_12), .val (.int v36_s0), .val (.int v51_s0), .val (.long aa), .second, .val (.long bb), .second, .val (.long cc), .second, .val (.long dd), .second, .val (.ref b4), .val (.int (v201_24 + (1 : Int32))), .val (.int (1 : Int32))] [(.int (v201_24 + (1 : Int32))), (.ref b4)])) (fun _ k => XS.iload X11.here hx rfl (hb hby at_229) rfl  k) ?_
              obtain ⟨_, _, ⟨T12, L12, k12, n12⟩, -, X12, ⟨Lc12, hQ12, l12, y12, z12⟩, st12⟩ := Jvm.LawKit.callS X11 hx (y := (⟨"com/example/redelivery/redelivery/RadixHeapIsEmptyPinLaw", "agree", "(Lcom/example/redelivery/redelivery/RadixHeap;I)Z"⟩ : MethodName)) hown (mvT hZ (hw _ (List.mem_of_getElem? (i := 26) rfl))) (mvT hZ (hw _ (List.mem_of_getElem? (i := 27) rfl))) (mvT hZ (hw _ (List.mem_of_getElem? (i := 28) rfl))) (mvT hZ (hw _ (List.mem_of_getElem? (i := 29) rfl))) (by decide) (backOf (W := 0) (rm4 l Z a0 hw [] b4 (v201_24 + (1 : Int32)) (v201_24 + (1 : Int32)) T11.heap R11.size R11.exa) hZ (hw _ (List.mem_of_getElem? (i := 29) rfl)) (hw _ (List.mem_of_getElem? (i := 28) rfl)) (by decide) (by decide)) (g := (mkF m 231 #[.val (.int p0), .val (.long q1), .second, .val (.long q2), .second, .val (.long q3), .second, .val (.long q4), .second, .val (.long q5), .second, .val (.int ad), .val (.int v23_12), .val (.int v36_s0), .val (.int v51_s0), .val (.long aa), .second, .val (.long bb), .second, .val (.long cc), .second, .val (.long dd), .second, .val (.ref b4), .val (.int (v201_24 + (1 : Int32))), .val (.int (1 : Int32))] [(.int (v201_24 + (1 : Int32))), (.ref b4)])) rfl (by rw [hml]; rfl) (argsL := [(.ref b4), (.int (v201_24 + (1 : Int32)))]) (rest := []) (lenOf pd_7 rfl) rfl (by show 2 * 0 + _ ≤ _; exact Nat.le_of_eq rfl) (hb hby at_231) (fun _ _ => ⟨rfl, rfl, (by decide : (9 + 2) + 0 ≤ _), (by decide : (327 + 32) + 0 ≤ _)⟩)
              dsimp only [Pt.U, Pt.locs, Pt.cells, Pt.slots] at X12 l12 y12 z12 st12 hQ12
              subst l12 y12 z12
              obtain ⟨rfl, rfl, e12⟩ := hQ12
              try rw [List.append_nil] at X12
              refine Go.step (g' := (mkF m 234 #[.val (.int p0), .val (.long q1), .second, .val (.long q2), .second, .val (.long q3), .second, .val (.long q4), .second, .val (.long q5), .second, .val (.int ad), .val (.int v23_12), .val (.int v36_s0), .val (.int v51_s0), .val (.long aa), .second, .val (.long bb), .second, .val (.long cc), .second, .val (.long dd), .second, .val (.ref b4), .val (.int (v201_24 + (1 : Int32))), .val (.int (1 : Int32))] [(.int (f4_0 (v201_24 + (1 : Int32)) (v201_24 + (1 : Int32))))])) st12 ?_
              rw [show (f4_0 (v201_24 + (1 : Int32)) (v201_24 + (1 : Int32))) = (1 : Int32) from own_agree _]
              refine Go.step (g' := (mkF m 237 #[.val (.int p0), .val (.long q1), .second, .val (.long q2), .second, .val (.long q3), .second, .val (.long q4), .second, .val (.long q5), .second, .val (.int ad), .val (.int v23_12), .val (.int v36_s0), .val (.int v51_s0), .val (.long aa), .second, .val (.long bb), .second, .val (.long cc), .second, .val (.long dd), .second, .val (.ref b4), .val (.int (v201_24 + (1 : Int32))), .val (.int (1 : Int32))] [])) (fun _ k => XS.ifNo X12.here hx rfl (hb hby at_234) rfl ((if0 _ _).trans (feq (by decide : ¬ ((1 : Int32) = (0 : Int32)))).1) k) ?_
              skip
              refine Go.step (g' := (mkF m 238 #[.val (.int p0), .val (.long q1), .second, .val (.long q2), .second, .val (.long q3), .second, .val (.long q4), .second, .val (.long q5), .second, .val (.int ad), .val (.int v23_12), .val (.int v36_s0), .val (.int v51_s0), .val (.long aa), .second, .val (.long bb), .second, .val (.long cc), .second, .val (.long dd), .second, .val (.ref b4), .val (.int (v201_24 + (1 : Int32))), .val (.int (1 : Int32))] [(.int (1 : Int32))])) (fun _ k => XS.iconst X12.here hx rfl (hb hby at_237) k) ?_
              refine Go.step (g' := (mkF m 242 #[.val (.int p0), .val (.long q1), .second, .val (.long q2), .second, .val (.long q3), .second, .val (.long q4), .second, .val (.long q5), .second, .val (.int ad), .val (.int v23_12), .val (.int v36_s0), .val (.int v51_s0), .val (.long aa), .second, .val (.long bb), .second, .val (.long cc), .second, .val (.long dd), .second, .val (.ref b4), .val (.int (v201_24 + (1 : Int32))), .val (.int (1 : Int32))] [(.int (1 : Int32))])) (fun _ k => XS.goto X12.here hx rfl (pc0 := 238) (pc' := 242) rfl (hb hby at_238) (by decide) (by decide) k) ?_
              skip
              refine Go.step (g' := (mkF m 244 #[.val (.int p0), .val (.long q1), .second, .val (.long q2), .second, .val (.long q3), .second, .val (.long q4), .second, .val (.long q5), .second, .val (.int ad), .val (.int v23_12), .val (.int v36_s0), .val (.int v51_s0), .val (.long aa), .second, .val (.long bb), .second, .val (.long cc), .second, .val (.long dd), .second, .val (.ref b4), .val (.int (v201_24 + (1 : Int32))), .val (.int (1 : Int32))] [])) (fun _ k => XS.istore X12.here hx rfl (hb hby at_242) rfl (l' := #[.val (.int p0), .val (.long q1), .second, .val (.long q2), .second, .val (.long q3), .second, .val (.long q4), .second, .val (.long q5), .second, .val (.int ad), .val (.int v23_12), .val (.int v36_s0), .val (.int v51_s0), .val (.long aa), .second, .val (.long bb), .second, .val (.long cc), .second, .val (.long dd), .second, .val (.ref b4), .val (.int (v201_24 + (1 : Int32))), .val (.int (1 : Int32))]) rfl k) ?_
              skip
              exact t244 T12 T11.heap lc11 (own_more X12 (by decide) (by decide)) e12 N11 R11.zh (v201_24 + (1 : Int32)) (RH.mono R11 dd0) (Cnt.tak (Cnt.go C_201 hc204 (by decide) (by decide) (by decide) (by decide)) ad0 ad3)
          by_cases hc162 : ad < (2 : Int32)
          · skip
            refine Go.step (g' := (mkF m 201 #[.val (.int p0), .val (.long q1), .second, .val (.long q2), .second, .val (.long q3), .second, .val (.long q4), .second, .val (.long q5), .second, .val (.int ad), .val (.int v23_12), .val (.int v36_s0), .val (.int v51_s0), .val (.long aa), .second, .val (.long bb), .second, .val (.long cc), .second, .val (.long dd), .second, .val (.ref b4), .val (.int v159_24), .val (.int (1 : Int32))] [])) (fun _ k => XS.icmpYes X_159.here hx rfl (pc0 := 162) (pc' := 201) rfl (hb hby at_162) rfl (tlt hc162).1 (by decide) (by decide) k) ?_
            exact t201 T_159 h_159 lc_159 (own_more X_159 (by decide) (by decide)) e_159 N_159 ZH_159 v159_24 R_159 (Cnt.stay C_159 hc162 (by decide) (by decide))
          · skip
            refine Go.step (g' := (mkF m 165 #[.val (.int p0), .val (.long q1), .second, .val (.long q2), .second, .val (.long q3), .second, .val (.long q4), .second, .val (.long q5), .second, .val (.int ad), .val (.int v23_12), .val (.int v36_s0), .val (.int v51_s0), .val (.long aa), .second, .val (.long bb), .second, .val (.long cc), .second, .val (.long dd), .second, .val (.ref b4), .val (.int v159_24), .val (.int (1 : Int32))] [])) (fun _ k => XS.icmpNo X_159.here hx rfl (hb hby at_162) rfl (flt hc162).1 k) ?_
            refine Go.step (g' := (mkF m 167 #[.val (.int p0), .val (.long q1), .second, .val (.long q2), .second, .val (.long q3), .second, .val (.long q4), .second, .val (.long q5), .second, .val (.int ad), .val (.int v23_12), .val (.int v36_s0), .val (.int v51_s0), .val (.long aa), .second, .val (.long bb), .second, .val (.long cc), .second, .val (.long dd), .second, .val (.ref b4), .val (.int v159_24), .val (.int (1 : Int32))] [(.ref b4)])) (fun _ k => XS.aload X_159.here hx rfl (hb hby at_165) rfl rfl  k) ?_
            refine Go.step (g' := (mkF m 169 #[.val (.int p0), .val (.long q1), .second, .val (.long q2), .second, .val (.long q3), .second, .val (.long q4), .second, .val (.long q5), .second, .val (.int ad), .val (.int v23_12), .val (.int v36_s0), .val (.int v51_s0), .val (.long aa), .second, .val (.long bb), .second, .val (.long cc), .second, .val (.long dd), .second, .val (.ref b4), .val (.int v159_24), .val (.int (1 : Int32))] [(.long bb), (.ref b4)])) (fun _ k => XS.lload X_159.here hx rfl (hb hby at_167) rfl  k) ?_
            refine Go.step (g' := (mkF m 171 #[.val (.int p0), .val (.long q1), .second, .val (.long q2), .second, .val (.long q3), .second, .val (.long q4), .second, .val (.long q5), .second, .val (.int ad), .val (.int v23_12), .val (.int v36_s0), .val (.int v51_s0), .val (.long aa), .second, .val (.long bb), .second, .val (.long cc), .second, .val (.long dd), .second, .val (.ref b4), .val (.int v159_24), .val (.int (1 : Int32))] [(.long q5), (.long bb), (.ref b4)])) (fun _ k => XS.lload X_159.here hx rfl (hb hby at_169) rfl  k) ?_
            refine Go.step (g' := (mkF m 172 #[.val (.int p0), .val (.long q1), .second, .val (.long q2), .second, .val (.long q3), .second, .val (.long q4), .second, .val (.long q5), .second, .val (.int ad), .val (.int v23_12), .val (.int v36_s0), .val (.int v51_s0), .val (.long aa), .second, .val (.long bb), .second, .val (.long cc), .second, .val (.long dd), .second, .val (.ref b4), .val (.int v159_24), .val (.int (1 : Int32))] [(.long q2), (.long q5), (.long bb), (.ref b4)])) (fun _ k => XS.lloadN X_159.here hx rfl (hb hby at_171) rfl  k) ?_
            refine Go.step (g' := (mkF m 173 #[.val (.int p0), .val (.long q1), .second, .val (.long q2), .second, .val (.long q3), .second, .val (.long q4), .second, .val (.long q5), .second, .val (.int ad), .val (.int v23_12), .val (.int v36_s0), .val (.int v51_s0), .val (.long aa), .second, .val (.long bb), .second, .val (.long cc), .second, .val (.long dd), .second, .val (.ref b4), .val (.int v159_24), .val (.int (1 : Int32))] [(.long (q5 ^^^ q2)), (.long bb), (.ref b4)])) (fun _ k => XS.lxor X_159.here hx rfl (hb hby at_172) rfl k) ?_
            obtain ⟨cq9, kq9, q9a, q9b, q9c⟩ := isOf hZ e_159 R_159.exa
            obtain ⟨_, _, ⟨T9, L9, k9, n9⟩, -, X9, ⟨Lc9, hQ9, l9, y9, z9⟩, st9⟩ := X_159.virtualBack hx (y := (⟨"com/example/redelivery/redelivery/RadixHeap", "add", "(JJ)V"⟩ : MethodName)) (z := (⟨"com/example/redelivery/redelivery/RadixHeap", "add", "(JJ)V"⟩ : MethodName)) hown (mvT hZ (hw _ (List.mem_of_getElem? (i := 37) rfl))) (mvT hZ (hw _ (List.mem_of_getElem? (i := 38) rfl))) (notFace_of_selects (args := #[]) (mvT hZ (hw _ (List.mem_of_getElem? (i := 40) rfl)))) (mvT hZ (hw _ (List.mem_of_getElem? (i := 40) rfl))) (mvT hZ (hw _ (List.mem_of_getElem? (i := 39) rfl))) (by decide) (backOf (W := 0) (rm6 l Z a0 hw [] b4 bb (q5 ^^^ q2) v159_24 (0 : Int64) dd h_159 n0 ZH_159 R_159 (Cnt.le C_159 ad3) bb0 dd2) hZ (hw _ (List.mem_of_getElem? (i := 41) rfl)) (hw _ (List.mem_of_getElem? (i := 7) rfl)) (by decide) (by decide)) q9a q9c (g := (mkF m 173 #[.val (.int p0), .val (.long q1), .second, .val (.long q2), .second, .val (.long q3), .second, .val (.long q4), .second, .val (.long q5), .second, .val (.int ad), .val (.int v23_12), .val (.int v36_s0), .val (.int v51_s0), .val (.long aa), .second, .val (.long bb), .second, .val (.long cc), .second, .val (.long dd), .second, .val (.ref b4), .val (.int v159_24), .val (.int (1 : Int32))] [(.long (q5 ^^^ q2)), (.long bb), (.ref b4)])) rfl (by rw [hml]; rfl) (Steps.refl _) (argsL := [(.long bb), (.long (q5 ^^^ q2))]) (rest := []) (lenOf pd_8 rfl) rfl (by show 2 * 0 + _ ≤ _; exact Nat.le_of_eq rfl) (hb hby at_173) (fun _ _ => ⟨rfl, e_159, (by decide : 7 + 2 ≤ _), (by decide : 295 + 32 ≤ _)⟩)
            dsimp only [Pt.U, Pt.locs, Pt.cells, Pt.slots] at X9 l9 y9 z9 st9 hQ9
            subst l9 y9 z9
            obtain ⟨rfl, N9q, R9⟩ := hQ9
            obtain ⟨lc9, X9, N9⟩ := own_pack X9 (Fr.app N_159 N9q)
            refine Go.step (g' := (mkF m 176 #[.val (.int p0), .val (.long q1), .second, .val (.long q2), .second, .val (.long q3), .second, .val (.long q4), .second, .val (.long q5), .second, .val (.int ad), .val (.int v23_12), .val (.int v36_s0), .val (.int v51_s0), .val (.long aa), .second, .val (.long bb), .second, .val (.long cc), .second, .val (.long dd), .second, .val (.ref b4), .val (.int v159_24), .val (.int (1 : Int32))] [])) (fun _ k => st9.trans k) ?_
            refine Go.step (g' := (mkF m 179 #[.val (.int p0), .val (.long q1), .second, .val (.long q2), .second, .val (.long q3), .second, .val (.long q4), .second, .val (.long q5), .second, .val (.int ad), .val (.int v23_12), .val (.int v36_s0), .val (.int v51_s0), .val (.long aa), .second, .val (.long bb), .second, .val (.long cc), .second, .val (.long dd), .second, .val (.ref b4), .val (.int (v159_24 + (1 : Int32))), .val (.int (1 : Int32))] [])) (fun _ k => XS.iinc X9.here hx rfl (hb hby at_176) rfl (l' := #[.val (.int p0), .val (.long q1), .second, .val (.long q2), .second, .val (.long q3), .second, .val (.long q4), .second, .val (.long q5), .second, .val (.int ad), .val (.int v23_12), .val (.int v36_s0), .val (.int v51_s0), .val (.long aa), .second, .val (.long bb), .second, .val (.long cc), .second, .val (.long dd), .second, .val (.ref b4), .val (.int (v159_24 + (1 : Int32))), .val (.int (1 : Int32))]) rfl k) ?_
            refine Go.step (g' := (mkF m 181 #[.val (.int p0), .val (.long q1), .second, .val (.long q2), .second, .val (.long q3), .second, .val (.long q4), .second, .val (.long q5), .second, .val (.int ad), .val (.int v23_12), .val (.int v36_s0), .val (.int v51_s0), .val (.long aa), .second, .val (.long bb), .second, .val (.long cc), .second, .val (.long dd), .second, .val (.ref b4), .val (.int (v159_24 + (1 : Int32))), .val (.int (1 : Int32))] [(.int (1 : Int32))])) (fun _ k => XS.iload X9.here hx rfl (hb hby at_179) rfl  k) ?_
            refine Go.step (g' := (mkF m 184 #[.val (.int p0), .val (.long q1), .second, .val (.long q2), .second, .val (.long q3), .second, .val (.long q4), .second, .val (.long q5), .second, .val (.int ad), .val (.int v23_12), .val (.int v36_s0), .val (.int v51_s0), .val (.long aa), .second, .val (.long bb), .second, .val (.long cc), .second, .val (.long dd), .second, .val (.ref b4), .val (.int (v159_24 + (1 : Int32))), .val (.int (1 : Int32))] [])) (fun _ k => XS.ifNo X9.here hx rfl (hb hby at_181) rfl ((if0 _ _).trans (feq (by decide : ¬ ((1 : Int32) = (0 : Int32)))).1) k) ?_
            skip
            refine Go.step (g' := (mkF m 186 #[.val (.int p0), .val (.long q1), .second, .val (.long q2), .second, .val (.long q3), .second, .val (.long q4), .second, .val (.long q5), .second, .val (.int ad), .val (.int v23_12), .val (.int v36_s0), .val (.int v51_s0), .val (.long aa), .second, .val (.long bb), .second, .val (.long cc), .second, .val (.long dd), .second, .val (.ref b4), .val (.int (v159_24 + (1 : Int32))), .val (.int (1 : Int32))] [(.ref b4)])) (fun _ k => XS.aload X9.here hx rfl (hb hby at_184) rfl rfl  k) ?_
            refine Go.step (g' := (mkF m 188 #[.val (.int p0), .val (.long q1), .second, .val (.long q2), .second, .val (.long q3), .second, .val (.long q4), .second, .val (.long q5), .second, .val (.int ad), .val (.int v23_12), .val (.int v36_s0), .val (.int v51_s0), .val (.long aa), .second, .val (.long bb), .second, .val (.long cc), .second, .val (.long dd), .second, .val (.ref b4), .val (.int (v159_24 + (1 : Int32))), .val (.int (1 : Int32))] [(.int (v159_24 + (1 : Int32))), (.ref b4)])) (fun _ k => XS.iload X9.here hx rfl (hb hby at_186) rfl  k) ?_
            obtain ⟨_, _, ⟨T10, L10, k10, n10⟩, -, X10, ⟨Lc10, hQ10, l10, y10, z10⟩, st10⟩ := Jvm.LawKit.callS X9 hx (y := (⟨"com/example/redelivery/redelivery/RadixHeapIsEmptyPinLaw", "agree", "(Lcom/example/redelivery/redelivery/RadixHeap;I)Z"⟩ : MethodName)) hown (mvT hZ (hw _ (List.mem_of_getElem? (i := 26) rfl))) (mvT hZ (hw _ (List.mem_of_getElem? (i := 27) rfl))) (mvT hZ (hw _ (List.mem_of_getElem? (i := 28) rfl))) (mvT hZ (hw _ (List.mem_of_getElem? (i := 29) rfl))) (by decide) (backOf (W := 0) (rm4 l Z a0 hw [] b4 (v159_24 + (1 : Int32)) (v159_24 + (1 : Int32)) T9.heap R9.size R9.exa) hZ (hw _ (List.mem_of_getElem? (i := 29) rfl)) (hw _ (List.mem_of_getElem? (i := 28) rfl)) (by decide) (by decide)) (g := (mkF m 188 #[.val (.int p0), .val (.long q1), .second, .val (.long q2), .second, .val (.long q3), .second, .val (.long q4), .second, .val (.long q5), .second, .val (.int ad), .val (.int v23_12), .val (.int v36_s0), .val (.int v51_s0), .val (.long aa), .second, .val (.long bb), .second, .val (.long cc), .second, .val (.long dd), .second, .val (.ref b4), .val (.int (v159_24 + (1 : Int32))), .val (.int (1 : Int32))] [(.int (v159_24 + (1 : Int32))), (.ref b4)])) rfl (by rw [hml]; rfl) (argsL := [(.ref b4), (.int (v159_24 + (1 : Int32)))]) (rest := []) (lenOf pd_7 rfl) rfl (by show 2 * 0 + _ ≤ _; exact Nat.le_of_eq rfl) (hb hby at_188) (fun _ _ => ⟨rfl, rfl, (by decide : (7 + 2) + 0 ≤ _), (by decide : (295 + 32) + 0 ≤ _)⟩)
            dsimp only [Pt.U, Pt.locs, Pt.cells, Pt.slots] at X10 l10 y10 z10 st10 hQ10
            subst l10 y10 z10
            obtain ⟨rfl, rfl, e10⟩ := hQ10
            try rw [List.append_nil] at X10
            refine Go.step (g' := (mkF m 191 #[.val (.int p0), .val (.long q1), .second, .val (.long q2), .second, .val (.long q3), .second, .val (.long q4), .second, .val (.long q5), .second, .val (.int ad), .val (.int v23_12), .val (.int v36_s0), .val (.int v51_s0), .val (.long aa), .second, .val (.long bb), .second, .val (.long cc), .second, .val (.long dd), .second, .val (.ref b4), .val (.int (v159_24 + (1 : Int32))), .val (.int (1 : Int32))] [(.int (f4_0 (v159_24 + (1 : Int32)) (v159_24 + (1 : Int32))))])) st10 ?_
            rw [show (f4_0 (v159_24 + (1 : Int32)) (v159_24 + (1 : Int32))) = (1 : Int32) from own_agree _]
            refine Go.step (g' := (mkF m 194 #[.val (.int p0), .val (.long q1), .second, .val (.long q2), .second, .val (.long q3), .second, .val (.long q4), .second, .val (.long q5), .second, .val (.int ad), .val (.int v23_12), .val (.int v36_s0), .val (.int v51_s0), .val (.long aa), .second, .val (.long bb), .second, .val (.long cc), .second, .val (.long dd), .second, .val (.ref b4), .val (.int (v159_24 + (1 : Int32))), .val (.int (1 : Int32))] [])) (fun _ k => XS.ifNo X10.here hx rfl (hb hby at_191) rfl ((if0 _ _).trans (feq (by decide : ¬ ((1 : Int32) = (0 : Int32)))).1) k) ?_
            skip
            refine Go.step (g' := (mkF m 195 #[.val (.int p0), .val (.long q1), .second, .val (.long q2), .second, .val (.long q3), .second, .val (.long q4), .second, .val (.long q5), .second, .val (.int ad), .val (.int v23_12), .val (.int v36_s0), .val (.int v51_s0), .val (.long aa), .second, .val (.long bb), .second, .val (.long cc), .second, .val (.long dd), .second, .val (.ref b4), .val (.int (v159_24 + (1 : Int32))), .val (.int (1 : Int32))] [(.int (1 : Int32))])) (fun _ k => XS.iconst X10.here hx rfl (hb hby at_194) k) ?_
            refine Go.step (g' := (mkF m 199 #[.val (.int p0), .val (.long q1), .second, .val (.long q2), .second, .val (.long q3), .second, .val (.long q4), .second, .val (.long q5), .second, .val (.int ad), .val (.int v23_12), .val (.int v36_s0), .val (.int v51_s0), .val (.long aa), .second, .val (.long bb), .second, .val (.long cc), .second, .val (.long dd), .second, .val (.ref b4), .val (.int (v159_24 + (1 : Int32))), .val (.int (1 : Int32))] [(.int (1 : Int32))])) (fun _ k => XS.goto X10.here hx rfl (pc0 := 195) (pc' := 199) rfl (hb hby at_195) (by decide) (by decide) k) ?_
            skip
            refine Go.step (g' := (mkF m 201 #[.val (.int p0), .val (.long q1), .second, .val (.long q2), .second, .val (.long q3), .second, .val (.long q4), .second, .val (.long q5), .second, .val (.int ad), .val (.int v23_12), .val (.int v36_s0), .val (.int v51_s0), .val (.long aa), .second, .val (.long bb), .second, .val (.long cc), .second, .val (.long dd), .second, .val (.ref b4), .val (.int (v159_24 + (1 : Int32))), .val (.int (1 : Int32))] [])) (fun _ k => XS.istore X10.here hx rfl (hb hby at_199) rfl (l' := #[.val (.int p0), .val (.long q1), .second, .val (.long q2), .second, .val (.long q3), .second, .val (.long q4), .second, .val (.long q5), .second, .val (.int ad), .val (.int v23_12), .val (.int v36_s0), .val (.int v51_s0), .val (.long aa), .second, .val (.long bb), .second, .val (.long cc), .second, .val (.long dd), .second, .val (.ref b4), .val (.int (v159_24 + (1 : Int32))), .val (.int (1 : Int32))]) rfl k) ?_
            skip
            exact t201 T10 T9.heap lc9 (own_more X10 (by decide) (by decide)) e10 N9 R9.zh (v159_24 + (1 : Int32)) R9 (Cnt.go C_159 hc162 (by decide) (by decide) (by decide) (by decide))
        by_cases hc122 : ad < (1 : Int32)
        · skip
          refine Go.step (g' := (mkF m 159 #[.val (.int p0), .val (.long q1), .second, .val (.long q2), .second, .val (.long q3), .second, .val (.long q4), .second, .val (.long q5), .second, .val (.int ad), .val (.int v23_12), .val (.int v36_s0), .val (.int v51_s0), .val (.long aa), .second, .val (.long bb), .second, .val (.long cc), .second, .val (.long dd), .second, .val (.ref b4), .val (.int (0 : Int32)), .val (.int (1 : Int32))] [])) (fun _ k => XS.icmpYes X6.here hx rfl (pc0 := 122) (pc' := 159) rfl (hb hby at_122) rfl (tlt hc122).1 (by decide) (by decide) k) ?_
          exact t159 T6 T5.heap lc5 (own_more X6 (by decide) (by decide)) e6 N5 R5.zh (0 : Int32) R5 (Cnt.stay (Cnt.zero ad0) hc122 (by decide) (by decide))
        · skip
          refine Go.step (g' := (mkF m 125 #[.val (.int p0), .val (.long q1), .second, .val (.long q2), .second, .val (.long q3), .second, .val (.long q4), .second, .val (.long q5), .second, .val (.int ad), .val (.int v23_12), .val (.int v36_s0), .val (.int v51_s0), .val (.long aa), .second, .val (.long bb), .second, .val (.long cc), .second, .val (.long dd), .second, .val (.ref b4), .val (.int (0 : Int32)), .val (.int (1 : Int32))] [])) (fun _ k => XS.icmpNo X6.here hx rfl (hb hby at_122) rfl (flt hc122).1 k) ?_
          refine Go.step (g' := (mkF m 127 #[.val (.int p0), .val (.long q1), .second, .val (.long q2), .second, .val (.long q3), .second, .val (.long q4), .second, .val (.long q5), .second, .val (.int ad), .val (.int v23_12), .val (.int v36_s0), .val (.int v51_s0), .val (.long aa), .second, .val (.long bb), .second, .val (.long cc), .second, .val (.long dd), .second, .val (.ref b4), .val (.int (0 : Int32)), .val (.int (1 : Int32))] [(.ref b4)])) (fun _ k => XS.aload X6.here hx rfl (hb hby at_125) rfl rfl  k) ?_
          refine Go.step (g' := (mkF m 129 #[.val (.int p0), .val (.long q1), .second, .val (.long q2), .second, .val (.long q3), .second, .val (.long q4), .second, .val (.long q5), .second, .val (.int ad), .val (.int v23_12), .val (.int v36_s0), .val (.int v51_s0), .val (.long aa), .second, .val (.long bb), .second, .val (.long cc), .second, .val (.long dd), .second, .val (.ref b4), .val (.int (0 : Int32)), .val (.int (1 : Int32))] [(.long aa), (.ref b4)])) (fun _ k => XS.lload X6.here hx rfl (hb hby at_127) rfl  k) ?_
          refine Go.step (g' := (mkF m 131 #[.val (.int p0), .val (.long q1), .second, .val (.long q2), .second, .val (.long q3), .second, .val (.long q4), .second, .val (.long q5), .second, .val (.int ad), .val (.int v23_12), .val (.int v36_s0), .val (.int v51_s0), .val (.long aa), .second, .val (.long bb), .second, .val (.long cc), .second, .val (.long dd), .second, .val (.ref b4), .val (.int (0 : Int32)), .val (.int (1 : Int32))] [(.long q5), (.long aa), (.ref b4)])) (fun _ k => XS.lload X6.here hx rfl (hb hby at_129) rfl  k) ?_
          obtain ⟨cq7, kq7, q7a, q7b, q7c⟩ := isOf hZ e6 R5.exa
          obtain ⟨_, _, ⟨T7, L7, k7, n7⟩, -, X7, ⟨Lc7, hQ7, l7, y7, z7⟩, st7⟩ := X6.virtualBack hx (y := (⟨"com/example/redelivery/redelivery/RadixHeap", "add", "(JJ)V"⟩ : MethodName)) (z := (⟨"com/example/redelivery/redelivery/RadixHeap", "add", "(JJ)V"⟩ : MethodName)) hown (mvT hZ (hw _ (List.mem_of_getElem? (i := 37) rfl))) (mvT hZ (hw _ (List.mem_of_getElem? (i := 38) rfl))) (notFace_of_selects (args := #[]) (mvT hZ (hw _ (List.mem_of_getElem? (i := 40) rfl)))) (mvT hZ (hw _ (List.mem_of_getElem? (i := 40) rfl))) (mvT hZ (hw _ (List.mem_of_getElem? (i := 39) rfl))) (by decide) (backOf (W := 0) (rm6 l Z a0 hw [] b4 aa q5 (0 : Int32) (0 : Int64) dd T5.heap n0 R5.zh R5 (Cnt.le (Cnt.zero ad0) ad3) aa0 dd1) hZ (hw _ (List.mem_of_getElem? (i := 41) rfl)) (hw _ (List.mem_of_getElem? (i := 7) rfl)) (by decide) (by decide)) q7a q7c (g := (mkF m 131 #[.val (.int p0), .val (.long q1), .second, .val (.long q2), .second, .val (.long q3), .second, .val (.long q4), .second, .val (.long q5), .second, .val (.int ad), .val (.int v23_12), .val (.int v36_s0), .val (.int v51_s0), .val (.long aa), .second, .val (.long bb), .second, .val (.long cc), .second, .val (.long dd), .second, .val (.ref b4), .val (.int (0 : Int32)), .val (.int (1 : Int32))] [(.long q5), (.long aa), (.ref b4)])) rfl (by rw [hml]; rfl) (Steps.refl _) (argsL := [(.long aa), (.long q5)]) (rest := []) (lenOf pd_8 rfl) rfl (by show 2 * 0 + _ ≤ _; exact Nat.le_of_eq rfl) (hb hby at_131) (fun _ _ => ⟨rfl, e6, (by decide : ((0 + 1) + 4) + 2 ≤ _), (by decide : ((0 + 7) + 256) + 32 ≤ _)⟩)
          dsimp only [Pt.U, Pt.locs, Pt.cells, Pt.slots] at X7 l7 y7 z7 st7 hQ7
          subst l7 y7 z7
          obtain ⟨rfl, N7q, R7⟩ := hQ7
          obtain ⟨lc7, X7, N7⟩ := own_pack X7 (Fr.app N5 N7q)
          refine Go.step (g' := (mkF m 134 #[.val (.int p0), .val (.long q1), .second, .val (.long q2), .second, .val (.long q3), .second, .val (.long q4), .second, .val (.long q5), .second, .val (.int ad), .val (.int v23_12), .val (.int v36_s0), .val (.int v51_s0), .val (.long aa), .second, .val (.long bb), .second, .val (.long cc), .second, .val (.long dd), .second, .val (.ref b4), .val (.int (0 : Int32)), .val (.int (1 : Int32))] [])) (fun _ k => st7.trans k) ?_
          refine Go.step (g' := (mkF m 137 #[.val (.int p0), .val (.long q1), .second, .val (.long q2), .second, .val (.long q3), .second, .val (.long q4), .second, .val (.long q5), .second, .val (.int ad), .val (.int v23_12), .val (.int v36_s0), .val (.int v51_s0), .val (.long aa), .second, .val (.long bb), .second, .val (.long cc), .second, .val (.long dd), .second, .val (.ref b4), .val (.int ((0 : Int32) + (1 : Int32))), .val (.int (1 : Int32))] [])) (fun _ k => XS.iinc X7.here hx rfl (hb hby at_134) rfl (l' := #[.val (.int p0), .val (.long q1), .second, .val (.long q2), .second, .val (.long q3), .second, .val (.long q4), .second, .val (.long q5), .second, .val (.int ad), .val (.int v23_12), .val (.int v36_s0), .val (.int v51_s0), .val (.long aa), .second, .val (.long bb), .second, .val (.long cc), .second, .val (.long dd), .second, .val (.ref b4), .val (.int ((0 : Int32) + (1 : Int32))), .val (.int (1 : Int32))]) rfl k) ?_
          refine Go.step (g' := (mkF m 139 #[.val (.int p0), .val (.long q1), .second, .val (.long q2), .second, .val (.long q3), .second, .val (.long q4), .second, .val (.long q5), .second, .val (.int ad), .val (.int v23_12), .val (.int v36_s0), .val (.int v51_s0), .val (.long aa), .second, .val (.long bb), .second, .val (.long cc), .second, .val (.long dd), .second, .val (.ref b4), .val (.int ((0 : Int32) + (1 : Int32))), .val (.int (1 : Int32))] [(.int (1 : Int32))])) (fun _ k => XS.iload X7.here hx rfl (hb hby at_137) rfl  k) ?_
          refine Go.step (g' := (mkF m 142 #[.val (.int p0), .val (.long q1), .second, .val (.long q2), .second, .val (.long q3), .second, .val (.long q4), .second, .val (.long q5), .second, .val (.int ad), .val (.int v23_12), .val (.int v36_s0), .val (.int v51_s0), .val (.long aa), .second, .val (.long bb), .second, .val (.long cc), .second, .val (.long dd), .second, .val (.ref b4), .val (.int ((0 : Int32) + (1 : Int32))), .val (.int (1 : Int32))] [])) (fun _ k => XS.ifNo X7.here hx rfl (hb hby at_139) rfl ((if0 _ _).trans (feq (by decide : ¬ ((1 : Int32) = (0 : Int32)))).1) k) ?_
          skip
          refine Go.step (g' := (mkF m 144 #[.val (.int p0), .val (.long q1), .second, .val (.long q2), .second, .val (.long q3), .second, .val (.long q4), .second, .val (.long q5), .second, .val (.int ad), .val (.int v23_12), .val (.int v36_s0), .val (.int v51_s0), .val (.long aa), .second, .val (.long bb), .second, .val (.long cc), .second, .val (.long dd), .second, .val (.ref b4), .val (.int ((0 : Int32) + (1 : Int32))), .val (.int (1 : Int32))] [(.ref b4)])) (fun _ k => XS.aload X7.here hx rfl (hb hby at_142) rfl rfl  k) ?_
          refine Go.step (g' := (mkF m 146 #[.val (.int p0), .val (.long q1), .second, .val (.long q2), .second, .val (.long q3), .second, .val (.long q4), .second, .val (.long q5), .second, .val (.int ad), .val (.int v23_12), .val (.int v36_s0), .val (.int v51_s0), .val (.long aa), .second, .val (.long bb), .second, .val (.long cc), .second, .val (.long dd), .second, .val (.ref b4), .val (.int ((0 : Int32) + (1 : Int32))), .val (.int (1 : Int32))] [(.int ((0 : Int32) + (1 : Int32))), (.ref b4)])) (fun _ k => XS.iload X7.here hx rfl (hb hby at_144) rfl  k) ?_
          obtain ⟨_, _, ⟨T8, L8, k8, n8⟩, -, X8, ⟨Lc8, hQ8, l8, y8, z8⟩, st8⟩ := Jvm.LawKit.callS X7 hx (y := (⟨"com/example/redelivery/redelivery/RadixHeapIsEmptyPinLaw", "agree", "(Lcom/example/redelivery/redelivery/RadixHeap;I)Z"⟩ : MethodName)) hown (mvT hZ (hw _ (List.mem_of_getElem? (i := 26) rfl))) (mvT hZ (hw _ (List.mem_of_getElem? (i := 27) rfl))) (mvT hZ (hw _ (List.mem_of_getElem? (i := 28) rfl))) (mvT hZ (hw _ (List.mem_of_getElem? (i := 29) rfl))) (by decide) (backOf (W := 0) (rm4 l Z a0 hw [] b4 ((0 : Int32) + (1 : Int32)) ((0 : Int32) + (1 : Int32)) T7.heap R7.size R7.exa) hZ (hw _ (List.mem_of_getElem? (i := 29) rfl)) (hw _ (List.mem_of_getElem? (i := 28) rfl)) (by decide) (by decide)) (g := (mkF m 146 #[.val (.int p0), .val (.long q1), .second, .val (.long q2), .second, .val (.long q3), .second, .val (.long q4), .second, .val (.long q5), .second, .val (.int ad), .val (.int v23_12), .val (.int v36_s0), .val (.int v51_s0), .val (.long aa), .second, .val (.long bb), .second, .val (.long cc), .second, .val (.long dd), .second, .val (.ref b4), .val (.int ((0 : Int32) + (1 : Int32))), .val (.int (1 : Int32))] [(.int ((0 : Int32) + (1 : Int32))), (.ref b4)])) rfl (by rw [hml]; rfl) (argsL := [(.ref b4), (.int ((0 : Int32) + (1 : Int32)))]) (rest := []) (lenOf pd_7 rfl) rfl (by show 2 * 0 + _ ≤ _; exact Nat.le_of_eq rfl) (hb hby at_146) (fun _ _ => ⟨rfl, rfl, (by decide : (((0 + 1) + 4) + 2) + 0 ≤ _), (by decide : (((0 + 7) + 256) + 32) + 0 ≤ _)⟩)
          dsimp only [Pt.U, Pt.locs, Pt.cells, Pt.slots] at X8 l8 y8 z8 st8 hQ8
          subst l8 y8 z8
          obtain ⟨rfl, rfl, e8⟩ := hQ8
          try rw [List.append_nil] at X8
          refine Go.step (g' := (mkF m 149 #[.val (.int p0), .val (.long q1), .second, .val (.long q2), .second, .val (.long q3), .second, .val (.long q4), .second, .val (.long q5), .second, .val (.int ad), .val (.int v23_12), .val (.int v36_s0), .val (.int v51_s0), .val (.long aa), .second, .val (.long bb), .second, .val (.long cc), .second, .val (.long dd), .second, .val (.ref b4), .val (.int ((0 : Int32) + (1 : Int32))), .val (.int (1 : Int32))] [(.int (f4_0 ((0 : Int32) + (1 : Int32)) ((0 : Int32) + (1 : Int32))))])) st8 ?_
          rw [show (f4_0 ((0 : Int32) + (1 : Int32)) ((0 : Int32) + (1 : Int32))) = (1 : Int32) from own_agree _]
          refine Go.step (g' := (mkF m 152 #[.val (.int p0), .val (.long q1), .second, .val (.long q2), .second, .val (.long q3), .second, .val (.long q4), .second, .val (.long q5), .second, .val (.int ad), .val (.int v23_12), .val (.int v36_s0), .val (.int v51_s0), .val (.long aa), .second, .val (.long bb), .second, .val (.long cc), .second, .val (.long dd), .second, .val (.ref b4), .val (.int ((0 : Int32) + (1 : Int32))), .val (.int (1 : Int32))] [])) (fun _ k => XS.ifNo X8.here hx rfl (hb hby at_149) rfl ((if0 _ _).trans (feq (by decide : ¬ ((1 : Int32) = (0 : Int32)))).1) k) ?_
          skip
          refine Go.step (g' := (mkF m 153 #[.val (.int p0), .val (.long q1), .second, .val (.long q2), .second, .val (.long q3), .second, .val (.long q4), .second, .val (.long q5), .second, .val (.int ad), .val (.int v23_12), .val (.int v36_s0), .val (.int v51_s0), .val (.long aa), .second, .val (.long bb), .second, .val (.long cc), .second, .val (.long dd), .second, .val (.ref b4), .val (.int ((0 : Int32) + (1 : Int32))), .val (.int (1 : Int32))] [(.int (1 : Int32))])) (fun _ k => XS.iconst X8.here hx rfl (hb hby at_152) k) ?_
          refine Go.step (g' := (mkF m 157 #[.val (.int p0), .val (.long q1), .second, .val (.long q2), .second, .val (.long q3), .second, .val (.long q4), .second, .val (.long q5), .second, .val (.int ad), .val (.int v23_12), .val (.int v36_s0), .val (.int v51_s0), .val (.long aa), .second, .val (.long bb), .second, .val (.long cc), .second, .val (.long dd), .second, .val (.ref b4), .val (.int ((0 : Int32) + (1 : Int32))), .val (.int (1 : Int32))] [(.int (1 : Int32))])) (fun _ k => XS.goto X8.here hx rfl (pc0 := 153) (pc' := 157) rfl (hb hby at_153) (by decide) (by decide) k) ?_
          skip
          refine Go.step (g' := (mkF m 159 #[.val (.int p0), .val (.long q1), .second, .val (.long q2), .second, .val (.long q3), .second, .val (.long q4), .second, .val (.long q5), .second, .val (.int ad), .val (.int v23_12), .val (.int v36_s0), .val (.int v51_s0), .val (.long aa), .second, .val (.long bb), .second, .val (.long cc), .second, .val (.long dd), .second, .val (.ref b4), .val (.int ((0 : Int32) + (1 : Int32))), .val (.int (1 : Int32))] [])) (fun _ k => XS.istore X8.here hx rfl (hb hby at_157) rfl (l' := #[.val (.int p0), .val (.long q1), .second, .val (.long q2), .second, .val (.long q3), .second, .val (.long q4), .second, .val (.long q5), .second, .val (.int ad), .val (.int v23_12), .val (.int v36_s0), .val (.int v51_s0), .val (.long aa), .second, .val (.long bb), .second, .val (.long cc), .second, .val (.long dd), .second, .val (.ref b4), .val (.int ((0 : Int32) + (1 : Int32))), .val (.int (1 : Int32))]) rfl k) ?_
          skip
          exact t159 T8 T7.heap lc7 (own_more X8 (by decide) (by decide)) e8 N7 R7.zh ((0 : Int32) + (1 : Int32)) R7 (Cnt.go (Cnt.zero ad0) hc122 (by decide) (by decide) (by decide) (by decide))
      by_cases hc43 : (((p0.toUInt32 >>> ((5 : Int32) &&& 31).toUInt32).toInt32) &&& (1 : Int32)) = (0 : Int32)
      · skip
        refine Go.step (g' := (mkF m 50 #[.val (.int p0), .val (.long q1), .second, .val (.long q2), .second, .val (.long q3), .second, .val (.long q4), .second, .val (.long q5), .second, .val (.int ad), .val (.int v23_12), .val (.int v36_s0), .unset, .unset, .unset, .unset, .unset, .unset, .unset, .unset, .unset, .unset, .unset, .unset] [])) (fun _ k => XS.ifYes X0.here hx rfl (pc0 := 43) (pc' := 50) rfl (hb hby at_43) rfl ((if0 _ _).trans (teq hc43).1) (by decide) (by decide) k) ?_
        refine Go.step (g' := (mkF m 51 #[.val (.int p0), .val (.long q1), .second, .val (.long q2), .second, .val (.long q3), .second, .val (.long q4), .second, .val (.long q5), .second, .val (.int ad), .val (.int v23_12), .val (.int v36_s0), .unset, .unset, .unset, .unset, .unset, .unset, .unset, .unset, .unset, .unset, .unset, .unset] [(.int (0 : Int32))])) (fun _ k => XS.iconst X0.here hx rfl (hb hby at_50) k) ?_
        skip
        exact t51 (0 : Int32)
      · skip
        refine Go.step (g' := (mkF m 46 #[.val (.int p0), .val (.long q1), .second, .val (.long q2), .second, .val (.long q3), .second, .val (.long q4), .second, .val (.long q5), .second, .val (.int ad), .val (.int v23_12), .val (.int v36_s0), .unset, .unset, .unset, .unset, .unset, .unset, .unset, .unset, .unset, .unset, .unset, .unset] [])) (fun _ k => XS.ifNo X0.here hx rfl (hb hby at_43) rfl ((if0 _ _).trans (feq hc43).1) k) ?_
        refine Go.step (g' := (mkF m 47 #[.val (.int p0), .val (.long q1), .second, .val (.long q2), .second, .val (.long q3), .second, .val (.long q4), .second, .val (.long q5), .second, .val (.int ad), .val (.int v23_12), .val (.int v36_s0), .unset, .unset, .unset, .unset, .unset, .unset, .unset, .unset, .unset, .unset, .unset, .unset] [(.int (1 : Int32))])) (fun _ k => XS.iconst X0.here hx rfl (hb hby at_46) k) ?_
        refine Go.step (g' := (mkF m 51 #[.val (.int p0), .val (.long q1), .second, .val (.long q2), .second, .val (.long q3), .second, .val (.long q4), .second, .val (.long q5), .second, .val (.int ad), .val (.int v23_12), .val (.int v36_s0), .unset, .unset, .unset, .unset, .unset, .unset, .unset, .unset, .unset, .unset, .unset, .unset] [(.int (1 : Int32))])) (fun _ k => XS.goto X0.here hx rfl (pc0 := 47) (pc' := 51) rfl (hb hby at_47) (by decide) (by decide) k) ?_
        skip
        exact t51 (1 : Int32)
    by_cases hc28 : (((p0.toUInt32 >>> ((4 : Int32) &&& 31).toUInt32).toInt32) &&& (1 : Int32)) = (0 : Int32)
    · skip
      refine Go.step (g' := (mkF m 35 #[.val (.int p0), .val (.long q1), .second, .val (.long q2), .second, .val (.long q3), .second, .val (.long q4), .second, .val (.long q5), .second, .val (.int ad), .val (.int v23_12), .unset, .unset, .unset, .unset, .unset, .unset, .unset, .unset, .unset, .unset, .unset, .unset, .unset] [])) (fun _ k => XS.ifYes X0.here hx rfl (pc0 := 28) (pc' := 35) rfl (hb hby at_28) rfl ((if0 _ _).trans (teq hc28).1) (by decide) (by decide) k) ?_
      refine Go.step (g' := (mkF m 36 #[.val (.int p0), .val (.long q1), .second, .val (.long q2), .second, .val (.long q3), .second, .val (.long q4), .second, .val (.long q5), .second, .val (.int ad), .val (.int v23_12), .unset, .unset, .unset, .unset, .unset, .unset, .unset, .unset, .unset, .unset, .unset, .unset, .unset] [(.int (0 : Int32))])) (fun _ k => XS.iconst X0.here hx rfl (hb hby at_35) k) ?_
      skip
      exact t36 (0 : Int32)
    · skip
      refine Go.step (g' := (mkF m 31 #[.val (.int p0), .val (.long q1), .second, .val (.long q2), .second, .val (.long q3), .second, .val (.long q4), .second, .val (.long q5), .second, .val (.int ad), .val (.int v23_12), .unset, .unset, .unset, .unset, .unset, .unset, .unset, .unset, .unset, .unset, .unset, .unset, .unset] [])) (fun _ k => XS.ifNo X0.here hx rfl (hb hby at_28) rfl ((if0 _ _).trans (feq hc28).1) k) ?_
      refine Go.step (g' := (mkF m 32 #[.val (.int p0), .val (.long q1), .second, .val (.long q2), .second, .val (.long q3), .second, .val (.long q4), .second, .val (.long q5), .second, .val (.int ad), .val (.int v23_12), .unset, .unset, .unset, .unset, .unset, .unset, .unset, .unset, .unset, .unset, .unset, .unset, .unset] [(.int (1 : Int32))])) (fun _ k => XS.iconst X0.here hx rfl (hb hby at_31) k) ?_
      refine Go.step (g' := (mkF m 36 #[.val (.int p0), .val (.long q1), .second, .val (.long q2), .second, .val (.long q3), .second, .val (.long q4), .second, .val (.long q5), .second, .val (.int ad), .val (.int v23_12), .unset, .unset, .unset, .unset, .unset, .unset, .unset, .unset, .unset, .unset, .unset, .unset, .unset] [(.int (1 : Int32))])) (fun _ k => XS.goto X0.here hx rfl (pc0 := 32) (pc' := 36) rfl (hb hby at_32) (by decide) (by decide) k) ?_
      skip
      exact t36 (1 : Int32)
  by_cases hc16 : ad < (((p0.toUInt32 >>> ((2 : Int32) &&& 31).toUInt32).toInt32) &&& (3 : Int32))
  · skip
    refine Go.step (g' := (mkF m 19 #[.val (.int p0), .val (.long q1), .second, .val (.long q2), .second, .val (.long q3), .second, .val (.long q4), .second, .val (.long q5), .second, .val (.int ad), .val (.int (((p0.toUInt32 >>> ((2 : Int32) &&& 31).toUInt32).toInt32) &&& (3 : Int32))), .unset, .unset, .unset, .unset, .unset, .unset, .unset, .unset, .unset, .unset, .unset, .unset, .unset] [])) (fun _ k => XS.icmpNo X0.here hx rfl (hb hby at_16) rfl (tlt hc16).2.2.2 k) ?_
    refine Go.step (g' := (mkF m 21 #[.val (.int p0), .val (.long q1), .second, .val (.long q2), .second, .val (.long q3), .second, .val (.long q4), .second, .val (.long q5), .second, .val (.int ad), .val (.int (((p0.toUInt32 >>> ((2 : Int32) &&& 31).toUInt32).toInt32) &&& (3 : Int32))), .unset, .unset, .unset, .unset, .unset, .unset, .unset, .unset, .unset, .unset, .unset, .unset, .unset] [(.int ad)])) (fun _ k => XS.iload X0.here hx rfl (hb hby at_19) rfl  k) ?_
    refine Go.step (g' := (mkF m 23 #[.val (.int p0), .val (.long q1), .second, .val (.long q2), .second, .val (.long q3), .second, .val (.long q4), .second, .val (.long q5), .second, .val (.int ad), .val (.int ad), .unset, .unset, .unset, .unset, .unset, .unset, .unset, .unset, .unset, .unset, .unset, .unset, .unset] [])) (fun _ k => XS.istore X0.here hx rfl (hb hby at_21) rfl (l' := #[.val (.int p0), .val (.long q1), .second, .val (.long q2), .second, .val (.long q3), .second, .val (.long q4), .second, .val (.long q5), .second, .val (.int ad), .val (.int ad), .unset, .unset, .unset, .unset, .unset, .unset, .unset, .unset, .unset, .unset, .unset, .unset, .unset]) rfl k) ?_
    skip
    exact t23 ad (by first | exact hc16 | exact Int32.lt_irrefl)
  · skip
    refine Go.step (g' := (mkF m 23 #[.val (.int p0), .val (.long q1), .second, .val (.long q2), .second, .val (.long q3), .second, .val (.long q4), .second, .val (.long q5), .second, .val (.int ad), .val (.int (((p0.toUInt32 >>> ((2 : Int32) &&& 31).toUInt32).toInt32) &&& (3 : Int32))), .unset, .unset, .unset, .unset, .unset, .unset, .unset, .unset, .unset, .unset, .unset, .unset, .unset] [])) (fun _ k => XS.icmpYes X0.here hx rfl (pc0 := 16) (pc' := 23) rfl (hb hby at_16) rfl (flt hc16).2.2.2 (by decide) (by decide) k) ?_
    exact t23 (((p0.toUInt32 >>> ((2 : Int32) &&& 31).toUInt32).toInt32) &&& (3 : Int32)) (by first | exact hc16 | exact Int32.lt_irrefl)
set_option maxRecDepth 65536 in
set_option maxHeartbeats 40000000 in
theorem comes_1 {Post : Tables → Env → Array Value → State → Outcome → State → Prop} (hpost : ∀ tb e args s v u, (limb_1_1.after args s (.returned v) u = true ∧ limb_1_2.after args s (.returned v) u = true) → FrameEnd s (.returned v) u (Jvm.fieldLocs frame_1_writes args s ++ Jvm.arrayLocs frame_1_arrays args s ++ Jvm.staticLocs frame_1_statics s) 40 960 → Post tb e args s (.returned v) u) :
    ArmFor flags0 classFile x code maxLocals ret World_1 tables_1 room_1 Calls_1 rest_1 Pre_1 Post := by
  intro l hfl _ _ p e ha hc hk s m args below hf hA hF happ hP
  obtain ⟨hcalls, hrest, hpre⟩ := hP
  obtain ⟨-, -, -, hnamed, -, -, -, hat⟩ := (Spec.applies_iff hf).mp happ
  obtain ⟨hg, hn⟩ := and_e (Cond.before_iff.mp (show (Jvm.Cond.and given_1 narrow_1).before args s = true from hpre))
  obtain ⟨gc, hg⟩ := and_e hg
  obtain ⟨g0, hg⟩ := and_e hg
  obtain ⟨g1, hg⟩ := and_e hg
  obtain ⟨g2, hg⟩ := and_e hg
  obtain ⟨g3, hg⟩ := and_e hg
  obtain ⟨g4, hg⟩ := and_e hg
  have g5 := hg
  obtain ⟨w0, w1, w2, w3, w4, w5, rfl⟩ : ∃ w0 w1 w2 w3 w4 w5 : Value, args = #[w0, w1, w2, w3, w4, w5] := by
    have hs : args.size = 6 := by simpa [Cond.value, given_1] using gc
    obtain ⟨L⟩ := args
    match L, hs with
    | [w0, w1, w2, w3, w4, w5], _ => exact ⟨w0, w1, w2, w3, w4, w5, rfl⟩
  have hw := fun d (hd : d ∈ tables_1) => atoms_spec (ws := Jvm.Cond.code x code maxLocals ret :: tables_1) hat d (List.mem_cons_of_mem _ hd)
  have hfit : Fit s := fun {y c} hc i hi => by
    obtain ⟨ha, rfl⟩ := Array.getElem?_eq_some_iff.mp hc
    have q := List.all_eq_true.mp ((Array.all_eq_true_iff_forall_mem.mp hF) _ (Array.getElem_mem ha)) i (List.mem_range.mpr hi)
    simpa [Array.getElem?_eq_getElem hi] using q
  obtain ⟨i0, ei0⟩ := is_v g0
  obtain rfl : w0 = (.int i0) := Option.some.inj ei0
  obtain ⟨i1, ei1⟩ := isL_v g1
  obtain rfl : w1 = (.long i1) := Option.some.inj ei1
  obtain ⟨i2, ei2⟩ := isL_v g2
  obtain rfl : w2 = (.long i2) := Option.some.inj ei2
  obtain ⟨i3, ei3⟩ := isL_v g3
  obtain rfl : w3 = (.long i3) := Option.some.inj ei3
  obtain ⟨i4, ei4⟩ := isL_v g4
  obtain rfl : w4 = (.long i4) := Option.some.inj ei4
  obtain ⟨i5, ei5⟩ := isL_v g5
  obtain rfl : w5 = (.long i5) := Option.some.inj ei5
  obtain ⟨n, o, h1, h2, h3, v, L, rfl, hQ, hq⟩ := rm0 l s _ hw tables_1 i0 i1 i2 i3 i4 i5  s.heap s.heap.size (Nat.le_refl _)  p e ha hc hk s m _ below hf ((Spec.applies_iff_loose hf).mp happ).1 ⟨rfl, State.Warmed39.refl s, rfl⟩ trivial
  obtain ⟨rfl, N⟩ := hQ
  refine ⟨n, _, h1, h2, h3, hpost _ _ _ _ _ _ ⟨Cond.after_iff.mpr rfl, Cond.after_iff.mpr (eq_i res_at (Term.int_eval (1)) rfl)⟩ ⟨hq.1, hq.2.1, (hq.2.2.sift fun y hy => Or.inr (N y hy)).mono (by decide) (by decide)⟩⟩
theorem main_1_1 : Claimed_1_1 := comes_1 fun _ _ _ _ _ _ h hF => ⟨h.1, hF⟩
theorem main_1_2 : Claimed_1_2 := comes_1 fun _ _ _ _ _ _ h hF => ⟨h.2, hF⟩
end Jvm.Pilot.@@N@@
namespace Jvm.Pilot.@@N@@
open Jvm Jvm.ClassFile Sem Op Lib Jvm.Free Jvm.Stand Jvm.Pilot.@@N@@.Jvm.D
/-! MADE BY PROGRAM (witnessworld.py) out of the Statement's table words and the real class files: 18 classes; the members and pool entries that the words name. The judged class is class 1, her method 2. -/
namespace start1
open Jvm.ClassFile
def u (s : String) : CpInfo := .utf8 (stringToUtf16 s)
/-- a pool by its gaps: so many unusable entries, then the entry; so many at the end -/
def gap : Nat → List CpInfo → List CpInfo
  | 0, r => r
  | n + 1, r => .unusable :: gap n r
def poolList (es : List (Nat × CpInfo)) (last : Nat) : List CpInfo := es.foldr (fun e r => gap e.1 (e.2 :: r)) (gap last [])
def pool (es : List (Nat × CpInfo)) (last : Nat) : Array CpInfo := ⟨poolList es last⟩
def fileOf (pool : Array CpInfo) (this : Nat) (attrs : Array Attribute := #[]) (ms : Array MethodInfo := #[]) (fl : Nat := 33) (sup : Nat := 0) (ifs : Array Nat := #[]) (fds : Array FieldInfo := #[]) : ClassFile where
  minorVersion := 0
  majorVersion := 65
  constantPool := pool
  accessFlags := fl
  thisClass := this
  superClass := sup
  interfaces := ifs
  fields := fds
  methods := ms
  attributes := attrs
def plain (name : String) (sup : Option ClassId) : Class where
  name := name
  kind := .ordinary
  loader := none
  accessFlags := 33
  super := sup
  interfaces := #[]
  cf := none
  fields := #[]
  methods := #[]
  instanceTypes := #[]
  staticTypes := #[]
  resolved := #[]
  callSites := []
  init := .initialized
  statics := none
  mirror := none

def pool0 : Array CpInfo := pool [(5, u "<init>"), (0, u "()V"), (1, .class_ 10), (1, u "java/lang/Object")] 113

def k0c0 : Code := { maxStack := 0, maxLocals := 1, code := object_method_1_code, exceptionTable := #[], attributes := #[] }
def k0m0 : Method := { name := "<init>", desc := "()V", sig := { parameters := [], returnType := none }, accessFlags := 1, code := some k0c0 }
/-- java/lang/Object -/
def k0 : Class := { plain "java/lang/Object" none with
  accessFlags := 33
  interfaces := #[]
  cf := some (fileOf pool0 8 #[] #[{ accessFlags := 1, nameIndex := 5, descriptorIndex := 6, attributes := #[] }] 33 0 #[] #[])
  fields := #[]
  methods := #[k0m0]
  instanceTypes := #[]
  staticTypes := #[]
  resolved := Array.replicate 124 none
  statics := none }

def pool1 : Array CpInfo := pool [(2, .class_ 4), (0, .nameAndType 5 6), (0, u "java/lang/Object"), (0, u "<init>"), (0, u "()V"), (0, .methodref 8 9), (0, .class_ 10), (0, .nameAndType 11 12), (0, u "com/example/redelivery/redelivery/RadixHeap"), (0, u "isEmpty"), (0, u "()Z"), (2, .long 9223372036854775807), (1, .methodref 18 19), (0, .class_ 20), (0, .nameAndType 21 22), (0, u "java/lang/Math"), (0, u "max"), (0, u "(JJ)J"), (0, .methodref 8 3), (0, .methodref 25 26), (0, .class_ 27), (0, .nameAndType 28 29), (0, u "com/example/redelivery/redelivery/RadixHeapIsEmptyPinLaw"), (0, u "agree"), (0, u "(Lcom/example/redelivery/redelivery/RadixHeap;I)Z"), (0, .methodref 8 31), (0, .nameAndType 32 33), (0, u "add"), (0, u "(JJ)V"), (0, .methodref 8 35), (0, .nameAndType 36 37), (0, u "takeLeast"), (0, u "()J"), (3, u "law"), (0, u "(IJJJJJ)Z")] 2

def k1m0 : Method := { name := "<init>", desc := "()V", sig := { parameters := [], returnType := none }, accessFlags := 1, code := none }
def k1c1 : Code := { maxStack := 2, maxLocals := 2, code := method_2_code, exceptionTable := #[], attributes := #[] }
def k1m1 : Method := { name := "agree", desc := "(Lcom/example/redelivery/redelivery/RadixHeap;I)Z", sig := { parameters := [(.object "com/example/redelivery/redelivery/RadixHeap"), .int], returnType := some .boolean }, accessFlags := 10, code := some k1c1 }
def k1c2 : Code := { maxStack := 8, maxLocals := 26, code := code, exceptionTable := #[], attributes := #[] }
def k1m2 : Method := { name := "law", desc := "(IJJJJJ)Z", sig := { parameters := [.int, .long, .long, .long, .long, .long], returnType := some .boolean }, accessFlags := 9, code := some k1c2 }
/-- com/example/redelivery/redelivery/RadixHeapIsEmptyPinLaw -/
def k1 : Class := { plain "com/example/redelivery/redelivery/RadixHeapIsEmptyPinLaw" (some 0) with
  accessFlags := 49
  interfaces := #[]
  cf := some (fileOf pool1 25 #[] #[{ accessFlags := 1, nameIndex := 5, descriptorIndex := 6, attributes := #[] }, { accessFlags := 10, nameIndex := 28, descriptorIndex := 29, attributes := #[] }, { accessFlags := 9, nameIndex := 41, descriptorIndex := 42, attributes := #[] }] 49 2 #[] #[])
  fields := #[]
  methods := #[k1m0, k1m1, k1m2]
  instanceTypes := #[]
  staticTypes := #[]
  resolved := Array.replicate 45 none
  statics := none }

def pool2 : Array CpInfo := pool [(1, .class_ 2), (0, u "java/lang/Math"), (1, .class_ 6), (1, u "java/lang/Object"), (0, u "<init>"), (0, u "()V"), (89, .class_ 100), (1, u "java/lang/Math$RandomNumberGeneratorHolder"), (20, u "(JJ)J"), (50, u "negativeZeroFloatBits"), (0, u "J"), (2, u "negativeZeroDoubleBits"), (21, u "max"), (2, u "min"), (43, u "$assertionsDisabled"), (0, u "Z"), (91, u "twoToTheDoubleScaleDown"), (0, u "D"), (4, u "twoToTheDoubleScaleUp"), (9, u "E"), (3, u "PI"), (2, u "TAU"), (2, u "DEGREES_TO_RADIANS"), (0, u "RADIANS_TO_DEGREES")] 94

def k2m0 : Method := { name := "<init>", desc := "()V", sig := { parameters := [], returnType := none }, accessFlags := 2, code := none }
def k2c1 : Code := { maxStack := 4, maxLocals := 4, code := jdk_29_method_66_code, exceptionTable := #[], attributes := #[] }
def k2m1 : Method := { name := "max", desc := "(JJ)J", sig := { parameters := [.long, .long], returnType := some .long }, accessFlags := 9, code := some k2c1 }
def k2c2 : Code := { maxStack := 4, maxLocals := 4, code := jdk_29_method_70_code, exceptionTable := #[], attributes := #[] }
def k2m2 : Method := { name := "min", desc := "(JJ)J", sig := { parameters := [.long, .long], returnType := some .long }, accessFlags := 9, code := some k2c2 }
/-- java/lang/Math -/
def k2 : Class := { plain "java/lang/Math" (some 0) with
  accessFlags := 49
  interfaces := #[]
  cf := some (fileOf pool2 1 #[.nestMembers #[98]] #[{ accessFlags := 2, nameIndex := 7, descriptorIndex := 8, attributes := #[] }, { accessFlags := 9, nameIndex := 198, descriptorIndex := 121, attributes := #[] }, { accessFlags := 9, nameIndex := 201, descriptorIndex := 121, attributes := #[] }] 49 4 #[] #[{ accessFlags := 25, nameIndex := 354, descriptorIndex := 339, attributes := #[] }, { accessFlags := 25, nameIndex := 358, descriptorIndex := 339, attributes := #[] }, { accessFlags := 25, nameIndex := 361, descriptorIndex := 339, attributes := #[] }, { accessFlags := 26, nameIndex := 364, descriptorIndex := 339, attributes := #[] }, { accessFlags := 26, nameIndex := 365, descriptorIndex := 339, attributes := #[] }, { accessFlags := 26, nameIndex := 172, descriptorIndex := 173, attributes := #[] }, { accessFlags := 26, nameIndex := 176, descriptorIndex := 173, attributes := #[] }, { accessFlags := 8, nameIndex := 344, descriptorIndex := 339, attributes := #[] }, { accessFlags := 8, nameIndex := 338, descriptorIndex := 339, attributes := #[] }, { accessFlags := 4120, nameIndex := 245, descriptorIndex := 246, attributes := #[] }])
  fields := #[{ name := "E", type := .double, accessFlags := 25, slot := 0, constantValue := 0 }, { name := "PI", type := .double, accessFlags := 25, slot := 1, constantValue := 0 }, { name := "TAU", type := .double, accessFlags := 25, slot := 2, constantValue := 0 }, { name := "DEGREES_TO_RADIANS", type := .double, accessFlags := 26, slot := 3, constantValue := 0 }, { name := "RADIANS_TO_DEGREES", type := .double, accessFlags := 26, slot := 4, constantValue := 0 }, { name := "negativeZeroFloatBits", type := .long, accessFlags := 26, slot := 5, constantValue := 0 }, { name := "negativeZeroDoubleBits", type := .long, accessFlags := 26, slot := 6, constantValue := 0 }, { name := "twoToTheDoubleScaleUp", type := .double, accessFlags := 8, slot := 7, constantValue := 0 }, { name := "twoToTheDoubleScaleDown", type := .double, accessFlags := 8, slot := 8, constantValue := 0 }, { name := "$assertionsDisabled", type := .boolean, accessFlags := 4120, slot := 9, constantValue := 0 }]
  methods := #[k2m0, k2m1, k2m2]
  instanceTypes := #[]
  staticTypes := #[.double, .double, .double, .double, .double, .long, .long, .double, .double, .boolean]
  resolved := Array.replicate 460 none
  statics := none }

def pool3 : Array CpInfo := pool [(1, .class_ 2), (0, u "java/lang/Long"), (0, .methodref 4 5), (0, .class_ 6), (0, .nameAndType 7 8), (0, u "java/lang/Object"), (0, u "<init>"), (0, u "()V"), (0, .class_ 10), (0, u "com/example/redelivery/redelivery/RadixHeap"), (0, .class_ 12), (0, u "[J"), (0, .fieldref 9 14), (0, .nameAndType 15 16), (0, u "keys"), (0, u "[[J"), (0, .fieldref 9 18), (0, .nameAndType 19 16), (0, u "values"), (0, .fieldref 9 21), (0, .nameAndType 22 23), (0, u "sizes"), (0, u "[I"), (0, .fieldref 9 25), (0, .nameAndType 26 12), (0, u "leastKeys"), (0, .fieldref 9 28), (0, .nameAndType 29 30), (0, u "size"), (0, u "I"), (0, .fieldref 9 32), (0, .nameAndType 33 34), (0, u "last"), (0, u "J"), (9, .methodref 9 45), (0, .nameAndType 46 47), (0, u "bucketOf"), (0, u "(J)I"), (0, .methodref 9 49), (0, .nameAndType 50 51), (0, u "put"), (0, u "(IJJ)V"), (0, .methodref 9 53), (0, .nameAndType 54 8), (0, u "requireEntry"), (0, .fieldref 9 56), (0, .nameAndType 57 34), (0, u "inUse"), (0, .methodref 1 59), (0, .nameAndType 60 47), (0, u "numberOfTrailingZeros"), (0, .methodref 9 62), (0, .nameAndType 63 64), (0, u "spill"), (0, u "(I)V"), (0, .long 18446744073709551614), (6, .long 18446744073709551615), (1, .methodref 1 75), (0, .nameAndType 76 47), (0, u "numberOfLeadingZeros"), (6, .methodref 84 85), (0, .class_ 86), (0, .nameAndType 87 88), (0, u "java/lang/Math"), (0, u "min"), (0, u "(JJ)J"), (0, u "BUCKETS"), (2, u "FIRST_CAPACITY"), (4, u "isEmpty"), (0, u "()Z"), (1, u "add"), (0, u "(JJ)V"), (1, u "()J"), (0, u "takeLeast")] 17

def k3c0 : Code := { maxStack := 2, maxLocals := 1, code := prog_23_method_1_code, exceptionTable := #[], attributes := #[] }
def k3m0 : Method := { name := "<init>", desc := "()V", sig := { parameters := [], returnType := none }, accessFlags := 0, code := some k3c0 }
def k3c1 : Code := { maxStack := 1, maxLocals := 1, code := prog_23_method_3_code, exceptionTable := #[], attributes := #[] }
def k3m1 : Method := { name := "isEmpty", desc := "()Z", sig := { parameters := [], returnType := some .boolean }, accessFlags := 0, code := some k3c1 }
def k3c2 : Code := { maxStack := 6, maxLocals := 5, code := prog_23_method_4_code, exceptionTable := #[], attributes := #[] }
def k3m2 : Method := { name := "add", desc := "(JJ)V", sig := { parameters := [.long, .long], returnType := none }, accessFlags := 0, code := some k3c2 }
def k3c3 : Code := { maxStack := 5, maxLocals := 2, code := prog_23_method_6_code, exceptionTable := #[], attributes := #[] }
def k3m3 : Method := { name := "takeLeast", desc := "()J", sig := { parameters := [], returnType := some .long }, accessFlags := 0, code := some k3c3 }
def k3c4 : Code := { maxStack := 3, maxLocals := 1, code := prog_23_method_7_code, exceptionTable := #[], attributes := #[] }
def k3m4 : Method := { name := "requireEntry", desc := "()V", sig := { parameters := [], returnType := none }, accessFlags := 2, code := some k3c4 }
def k3c5 : Code := { maxStack := 7, maxLocals := 6, code := prog_23_method_8_code, exceptionTable := #[], attributes := #[] }
def k3m5 : Method := { name := "spill", desc := "(I)V", sig := { parameters := [.int], returnType := none }, accessFlags := 2, code := some k3c5 }
def k3c6 : Code := { maxStack := 5, maxLocals := 3, code := prog_23_method_9_code, exceptionTable := #[], attributes := #[] }
def k3m6 : Method := { name := "bucketOf", desc := "(J)I", sig := { parameters := [.long], returnType := some .int }, accessFlags := 2, code := some k3c6 }
def k3c7 : Code := { maxStack := 6, maxLocals := 7, code := prog_23_method_10_code, exceptionTable := #[], attributes := #[] }
def k3m7 : Method := { name := "put", desc := "(IJJ)V", sig := { parameters := [.int, .long, .long], returnType := none }, accessFlags := 2, code := some k3c7 }
/-- com/example/redelivery/redelivery/RadixHeap -/
def k3 : Class := { plain "com/example/redelivery/redelivery/RadixHeap" (some 0) with
  accessFlags := 32
  interfaces := #[]
  cf := some (fileOf pool3 9 #[] #[{ accessFlags := 0, nameIndex := 7, descriptorIndex := 8, attributes := #[] }, { accessFlags := 0, nameIndex := 97, descriptorIndex := 98, attributes := #[] }, { accessFlags := 0, nameIndex := 100, descriptorIndex := 101, attributes := #[] }, { accessFlags := 0, nameIndex := 104, descriptorIndex := 103, attributes := #[] }, { accessFlags := 2, nameIndex := 54, descriptorIndex := 8, attributes := #[] }, { accessFlags := 2, nameIndex := 63, descriptorIndex := 64, attributes := #[] }, { accessFlags := 2, nameIndex := 46, descriptorIndex := 47, attributes := #[] }, { accessFlags := 2, nameIndex := 50, descriptorIndex := 51, attributes := #[] }] 32 4 #[] #[{ accessFlags := 26, nameIndex := 89, descriptorIndex := 30, attributes := #[] }, { accessFlags := 26, nameIndex := 92, descriptorIndex := 30, attributes := #[] }, { accessFlags := 18, nameIndex := 15, descriptorIndex := 16, attributes := #[] }, { accessFlags := 18, nameIndex := 19, descriptorIndex := 16, attributes := #[] }, { accessFlags := 18, nameIndex := 22, descriptorIndex := 23, attributes := #[] }, { accessFlags := 18, nameIndex := 26, descriptorIndex := 12, attributes := #[] }, { accessFlags := 2, nameIndex := 57, descriptorIndex := 34, attributes := #[] }, { accessFlags := 2, nameIndex := 33, descriptorIndex := 34, attributes := #[] }, { accessFlags := 2, nameIndex := 29, descriptorIndex := 30, attributes := #[] }])
  fields := #[{ name := "BUCKETS", type := .int, accessFlags := 26, slot := 0, constantValue := 0 }, { name := "FIRST_CAPACITY", type := .int, accessFlags := 26, slot := 1, constantValue := 0 }, { name := "keys", type := (.array (.array .long)), accessFlags := 18, slot := 0, constantValue := 0 }, { name := "values", type := (.array (.array .long)), accessFlags := 18, slot := 1, constantValue := 0 }, { name := "sizes", type := (.array .int), accessFlags := 18, slot := 2, constantValue := 0 }, { name := "leastKeys", type := (.array .long), accessFlags := 18, slot := 3, constantValue := 0 }, { name := "inUse", type := .long, accessFlags := 2, slot := 4, constantValue := 0 }, { name := "last", type := .long, accessFlags := 2, slot := 5, constantValue := 0 }, { name := "size", type := .int, accessFlags := 2, slot := 6, constantValue := 0 }]
  methods := #[k3m0, k3m1, k3m2, k3m3, k3m4, k3m5, k3m6, k3m7]
  instanceTypes := #[(.array (.array .long)), (.array (.array .long)), (.array .int), (.array .long), .long, .long, .int]
  staticTypes := #[.int, .int]
  resolved := Array.replicate 122 none
  statics := none }

def pool4 : Array CpInfo := pool [(1, .class_ 2), (0, u "java/io/Serializable"), (0, .class_ 4), (0, u "java/lang/Object")] 2

/-- java/io/Serializable -/
def k4 : Class := { plain "java/io/Serializable" (some 0) with
  accessFlags := 1537
  interfaces := #[]
  cf := some (fileOf pool4 1 #[] #[] 1537 3 #[] #[])
  fields := #[]
  methods := #[]
  instanceTypes := #[]
  staticTypes := #[]
  resolved := Array.replicate 7 none
  statics := none }

def pool5 : Array CpInfo := pool [(2, .class_ 4), (1, u "java/lang/Object"), (0, u "<init>"), (0, u "()V"), (1, .class_ 10), (1, u "java/lang/Number"), (2, .class_ 14), (0, u "java/io/Serializable"), (0, u "serialVersionUID"), (0, u "J")] 20

def k5m0 : Method := { name := "<init>", desc := "()V", sig := { parameters := [], returnType := none }, accessFlags := 1, code := none }
/-- java/lang/Number -/
def k5 : Class := { plain "java/lang/Number" (some 0) with
  accessFlags := 1057
  interfaces := #[4]
  cf := some (fileOf pool5 8 #[] #[{ accessFlags := 1, nameIndex := 5, descriptorIndex := 6, attributes := #[] }] 1057 2 #[13] #[{ accessFlags := 26, nameIndex := 15, descriptorIndex := 16, attributes := #[] }])
  fields := #[{ name := "serialVersionUID", type := .long, accessFlags := 26, slot := 0, constantValue := 0 }]
  methods := #[k5m0]
  instanceTypes := #[]
  staticTypes := #[.long]
  resolved := Array.replicate 37 none
  statics := none }

def pool6 : Array CpInfo := pool [(1, .class_ 2), (0, u "java/lang/Comparable"), (0, .class_ 4), (0, u "java/lang/Object")] 7

/-- java/lang/Comparable -/
def k6 : Class := { plain "java/lang/Comparable" (some 0) with
  accessFlags := 1537
  interfaces := #[]
  cf := some (fileOf pool6 1 #[] #[] 1537 3 #[] #[])
  fields := #[]
  methods := #[]
  instanceTypes := #[]
  staticTypes := #[]
  resolved := Array.replicate 12 none
  statics := none }

def pool7 : Array CpInfo := pool [(1, .class_ 2), (0, u "java/lang/constant/Constable"), (0, .class_ 4), (0, u "java/lang/Object")] 6

/-- java/lang/constant/Constable -/
def k7 : Class := { plain "java/lang/constant/Constable" (some 0) with
  accessFlags := 1537
  interfaces := #[]
  cf := some (fileOf pool7 1 #[] #[] 1537 3 #[] #[])
  fields := #[]
  methods := #[]
  instanceTypes := #[]
  staticTypes := #[]
  resolved := Array.replicate 11 none
  statics := none }

def pool8 : Array CpInfo := pool [(1, .class_ 2), (0, u "java/lang/constant/ConstantDesc"), (0, .class_ 4), (0, u "java/lang/Object")] 32

/-- java/lang/constant/ConstantDesc -/
def k8 : Class := { plain "java/lang/constant/ConstantDesc" (some 0) with
  accessFlags := 1537
  interfaces := #[]
  cf := some (fileOf pool8 1 #[] #[] 1537 3 #[] #[])
  fields := #[]
  methods := #[]
  instanceTypes := #[]
  staticTypes := #[]
  resolved := Array.replicate 37 none
  statics := none }

def pool9 : Array CpInfo := pool [(1, .class_ 2), (0, u "java/lang/Long"), (15, .class_ 20), (1, u "java/lang/Integer"), (79, u "numberOfLeadingZeros"), (0, u "(J)I"), (133, .class_ 237), (1, u "java/lang/Long$LongCache"), (33, .class_ 272), (0, u "java/lang/Number"), (2, u "value"), (0, u "J"), (31, .methodref 18 309), (0, .nameAndType 100 310), (0, u "(I)I"), (0, .methodref 18 312), (0, .nameAndType 313 310), (0, u "numberOfTrailingZeros"), (47, u "TYPE"), (0, u "Ljava/lang/Class;"), (0, .class_ 364), (0, u "java/lang/Comparable"), (0, .class_ 366), (0, u "java/lang/constant/Constable"), (0, .class_ 368), (0, u "java/lang/constant/ConstantDesc"), (0, u "MIN_VALUE"), (1, u "MAX_VALUE"), (4, u "SIZE"), (0, u "I"), (1, u "BYTES"), (1, u "serialVersionUID")] 142

def k9c0 : Code := { maxStack := 3, maxLocals := 3, code := jdk_35_method_48_code, exceptionTable := #[], attributes := #[] }
def k9m0 : Method := { name := "numberOfLeadingZeros", desc := "(J)I", sig := { parameters := [.long], returnType := some .int }, accessFlags := 9, code := some k9c0 }
def k9c1 : Code := { maxStack := 4, maxLocals := 3, code := jdk_35_method_49_code, exceptionTable := #[], attributes := #[] }
def k9m1 : Method := { name := "numberOfTrailingZeros", desc := "(J)I", sig := { parameters := [.long], returnType := some .int }, accessFlags := 9, code := some k9c1 }
/-- java/lang/Long -/
def k9 : Class := { plain "java/lang/Long" (some 5) with
  accessFlags := 49
  interfaces := #[6, 7, 8]
  cf := some (fileOf pool9 1 #[.nestMembers #[235]] #[{ accessFlags := 9, nameIndex := 100, descriptorIndex := 101, attributes := #[] }, { accessFlags := 9, nameIndex := 313, descriptorIndex := 101, attributes := #[] }] 49 271 #[363, 365, 367] #[{ accessFlags := 25, nameIndex := 369, descriptorIndex := 276, attributes := #[] }, { accessFlags := 25, nameIndex := 371, descriptorIndex := 276, attributes := #[] }, { accessFlags := 25, nameIndex := 361, descriptorIndex := 362, attributes := #[] }, { accessFlags := 18, nameIndex := 275, descriptorIndex := 276, attributes := #[] }, { accessFlags := 25, nameIndex := 376, descriptorIndex := 377, attributes := #[] }, { accessFlags := 25, nameIndex := 379, descriptorIndex := 377, attributes := #[] }, { accessFlags := 26, nameIndex := 381, descriptorIndex := 276, attributes := #[] }])
  fields := #[{ name := "MIN_VALUE", type := .long, accessFlags := 25, slot := 0, constantValue := 0 }, { name := "MAX_VALUE", type := .long, accessFlags := 25, slot := 1, constantValue := 0 }, { name := "TYPE", type := (.object "java/lang/Class"), accessFlags := 25, slot := 2, constantValue := 0 }, { name := "value", type := .long, accessFlags := 18, slot := 0, constantValue := 0 }, { name := "SIZE", type := .int, accessFlags := 25, slot := 3, constantValue := 0 }, { name := "BYTES", type := .int, accessFlags := 25, slot := 4, constantValue := 0 }, { name := "serialVersionUID", type := .long, accessFlags := 26, slot := 5, constantValue := 0 }]
  methods := #[k9m0, k9m1]
  instanceTypes := #[.long]
  staticTypes := #[.long, .long, (.object "java/lang/Class"), .int, .int, .long]
  resolved := Array.replicate 524 none
  statics := none }

def pool10 : Array CpInfo := pool [(1, .class_ 2), (0, u "java/lang/Integer"), (16, u "digits"), (0, u "[C"), (32, u "numberOfLeadingZeros"), (0, u "(I)I"), (30, u "DigitOnes"), (0, u "[B"), (2, u "DigitTens"), (99, .class_ 190), (0, u "java/lang/Integer$IntegerCache"), (3, u "I"), (8, .class_ 204), (0, u "java/lang/Number"), (2, u "value"), (56, .integer 65536), (37, u "TYPE"), (0, u "Ljava/lang/Class;"), (0, .class_ 305), (0, u "java/lang/Comparable"), (0, .class_ 307), (0, u "java/lang/constant/Constable"), (0, .class_ 309), (0, u "java/lang/constant/ConstantDesc"), (0, u "MIN_VALUE"), (1, u "MAX_VALUE"), (3, u "SIZE"), (1, u "BYTES"), (1, u "serialVersionUID"), (0, u "J"), (84, u "numberOfTrailingZeros")] 46

def k10c0 : Code := { maxStack := 3, maxLocals := 2, code := jdk_33_method_47_code, exceptionTable := #[], attributes := #[] }
def k10m0 : Method := { name := "numberOfLeadingZeros", desc := "(I)I", sig := { parameters := [.int], returnType := some .int }, accessFlags := 9, code := some k10c0 }
def k10c1 : Code := { maxStack := 3, maxLocals := 2, code := jdk_33_method_48_code, exceptionTable := #[], attributes := #[] }
def k10m1 : Method := { name := "numberOfTrailingZeros", desc := "(I)I", sig := { parameters := [.int], returnType := some .int }, accessFlags := 9, code := some k10c1 }
/-- java/lang/Integer -/
def k10 : Class := { plain "java/lang/Integer" (some 5) with
  accessFlags := 49
  interfaces := #[6, 7, 8]
  cf := some (fileOf pool10 1 #[.nestMembers #[189]] #[{ accessFlags := 9, nameIndex := 53, descriptorIndex := 54, attributes := #[] }, { accessFlags := 9, nameIndex := 406, descriptorIndex := 54, attributes := #[] }] 49 203 #[304, 306, 308] #[{ accessFlags := 25, nameIndex := 310, descriptorIndex := 194, attributes := #[] }, { accessFlags := 25, nameIndex := 312, descriptorIndex := 194, attributes := #[] }, { accessFlags := 25, nameIndex := 302, descriptorIndex := 303, attributes := #[] }, { accessFlags := 24, nameIndex := 19, descriptorIndex := 20, attributes := #[] }, { accessFlags := 24, nameIndex := 89, descriptorIndex := 86, attributes := #[] }, { accessFlags := 24, nameIndex := 85, descriptorIndex := 86, attributes := #[] }, { accessFlags := 18, nameIndex := 207, descriptorIndex := 194, attributes := #[] }, { accessFlags := 25, nameIndex := 316, descriptorIndex := 194, attributes := #[] }, { accessFlags := 25, nameIndex := 318, descriptorIndex := 194, attributes := #[] }, { accessFlags := 26, nameIndex := 320, descriptorIndex := 321, attributes := #[] }])
  fields := #[{ name := "MIN_VALUE", type := .int, accessFlags := 25, slot := 0, constantValue := 0 }, { name := "MAX_VALUE", type := .int, accessFlags := 25, slot := 1, constantValue := 0 }, { name := "TYPE", type := (.object "java/lang/Class"), accessFlags := 25, slot := 2, constantValue := 0 }, { name := "digits", type := (.array .char), accessFlags := 24, slot := 3, constantValue := 0 }, { name := "DigitTens", type := (.array .byte), accessFlags := 24, slot := 4, constantValue := 0 }, { name := "DigitOnes", type := (.array .byte), accessFlags := 24, slot := 5, constantValue := 0 }, { name := "value", type := .int, accessFlags := 18, slot := 0, constantValue := 0 }, { name := "SIZE", type := .int, accessFlags := 25, slot := 6, constantValue := 0 }, { name := "BYTES", type := .int, accessFlags := 25, slot := 7, constantValue := 0 }, { name := "serialVersionUID", type := .long, accessFlags := 26, slot := 8, constantValue := 0 }]
  methods := #[k10m0, k10m1]
  instanceTypes := #[.int]
  staticTypes := #[.int, .int, (.object "java/lang/Class"), (.array .char), (.array .byte), (.array .byte), .int, .int, .long]
  resolved := Array.replicate 453 none
  statics := none }

def pool11 : Array CpInfo := pool [(1, u "java/lang/Cloneable"), (0, .class_ 1), (0, u "java/lang/Object"), (0, .class_ 3)] 3

/-- java/lang/Cloneable -/
def k11 : Class := { plain "java/lang/Cloneable" (some 0) with
  accessFlags := 1537
  interfaces := #[]
  cf := some (fileOf pool11 2 #[] #[] 1537 4 #[] #[])
  fields := #[]
  methods := #[]
  instanceTypes := #[]
  staticTypes := #[]
  resolved := Array.replicate 8 none
  statics := none }

/-- the primitive byte -/
def k12 : Class := { plain "byte" none with kind := .primitive 'B', accessFlags := 0x411 }
/-- [B -/
def k13 : Class := { plain "[B" (some 0) with kind := .array 12 .byte, interfaces := #[11, 4], accessFlags := 1041 }

/-- the primitive int -/
def k14 : Class := { plain "int" none with kind := .primitive 'I', accessFlags := 0x411 }
/-- [I -/
def k15 : Class := { plain "[I" (some 0) with kind := .array 14 .int, interfaces := #[11, 4], accessFlags := 1041 }

/-- the primitive long -/
def k16 : Class := { plain "long" none with kind := .primitive 'J', accessFlags := 0x411 }
/-- [J -/
def k17 : Class := { plain "[J" (some 0) with kind := .array 16 .long, interfaces := #[11, 4], accessFlags := 1041 }

/-- [[J -/
def k18 : Class := { plain "[[J" (some 0) with kind := .array 17 (.array .long), interfaces := #[11, 4], accessFlags := 1041 }

def heap : Heap := #[]
def classes : Array Class := #[k0, k1, k2, k3, k4, k5, k6, k7, k8, k9, k10, k11, k12, k13, k14, k15, k16, k17, k18]
def interned : List (Array UInt16 × Addr) := []
def slotsUsed : Nat := 0
def theMethod : MethodId := ⟨1, 2⟩
def args0 : Array Value := #[.int 0, .long 0, .long 0, .long 0, .long 0, .long 0]
def aboutOver (below : List Frame) : State where
  vm := { classes := classes, interned := interned.toArray }
  heap := heap
  slotsUsed := slotsUsed
  threads := #[{ frames := .invoking theMethod args0 :: below }]
def below0 : List Frame := [.native { method := ⟨0, 0⟩, args := #[] }]
def about1 : State := aboutOver below0
def p0 : Program := .bare "" "" ""
def e0 : Env := launch0.env 0 0 0
theorem w_frames : about1.frames = Frame.invoking theMethod args0 :: below0 := rfl
set_option maxRecDepth 65536 in
theorem w_args : argsFit about1.vm theMethod args0 = true := by decide +kernel
set_option maxRecDepth 65536 in
theorem w_heap : heapFits about1 = true := by decide +kernel
set_option maxRecDepth 65536 in
theorem w_runnable : about1.curStatus? = some .runnable := by decide +kernel
set_option maxRecDepth 65536 in
theorem w_alone : about1.alone = true := by decide +kernel
set_option maxRecDepth 65536 in
theorem w_named : about1.methodNamed? x = some theMethod := by decide +kernel
set_option maxRecDepth 65536 in
theorem w_hears : about1.hears theMethod below0 = true := by decide +kernel
set_option maxRecDepth 65536 in
theorem w_ripe : about1.ripe theMethod args0 below0 = true := by decide +kernel
theorem w_running : about1.status = .running := rfl
set_option maxRecDepth 65536 in
theorem w_room : about1.hasRoom e0.platform room_1 = true :=
  launch0.hasRoom_least _ room_1 (by decide +kernel) (by decide +kernel) (by decide +kernel) (by decide +kernel) (by decide +kernel) (by decide +kernel)
theorem allAtoms_all (ts : List Jvm.Cond) (a : Array Jvm.Value) (st : Jvm.State) : (allAtoms ts).before a st = ts.all (fun c => c.before a st) := by
  induction ts with
  | nil => rfl
  | cons c t ih =>
    show (Jvm.Cond.and c (allAtoms t)).before a st = _
    rw [Jvm.Cond.before_and, ih, List.all_cons]
def words1 : List Jvm.Cond := Jvm.Cond.code x code maxLocals ret :: tables_1
/-- a 'code' word, met by the world's own term for the bytes: nothing is compared byte by byte -/
theorem code_word {y : MethodName} {bytes : ByteArray} {mx : Nat} {rt : Option FieldType} {a : Array Value} {s : State} {m : MethodId} {meth : Method} {c : Code} (h1 : s.methodNamed? y = some m) (h2 : s.vm.method? m = some meth) (h3 : meth.code = some c) (h4 : c.code = bytes)
    (h5 : (c.maxLocals == mx && c.exceptionTable.isEmpty && decide (c.maxStack ≤ mostOperands) && decide (meth.sig.returnType = rt) && !meth.locks && decide (parseMethodDescriptor y.desc = some meth.sig)) = true) : (Jvm.Cond.code y bytes mx rt).before a s = true := by
  simp only [Bool.and_eq_true, beq_iff_eq, Bool.not_eq_true', decide_eq_true_eq] at h5
  obtain ⟨⟨⟨⟨⟨g1, g2⟩, g3⟩, g4⟩, g5⟩, g6⟩ := h5
  simp [Cond.before, Cond.holds, Cond.value, h1, h2, h3, h4, g1, g2, g3, g4, g5, g6]
def isCode : Jvm.Cond → Bool
  | .code _ _ _ _ => true
  | _ => false
theorem all_split {L : List Jvm.Cond} {P : Jvm.Cond → Bool} (h1 : L.all (fun c => isCode c || P c) = true) (h2 : ∀ c ∈ L.filter isCode, P c = true) : L.all P = true := by
  refine List.all_eq_true.mpr fun c hc => ?_
  have h := List.all_eq_true.mp h1 c hc
  rcases Bool.eq_false_or_eq_true (isCode c) with hi | hi
  · exact h2 c (List.mem_filter.mpr ⟨hc, hi⟩)
  · simpa [hi] using h
set_option maxRecDepth 65536 in
theorem w_c0 : (Jvm.Cond.code x code maxLocals ret).before args0 about1 = true := code_word (m := ⟨1, 2⟩) (meth := k1m2) (c := k1c2) (by decide +kernel) rfl rfl rfl (by decide +kernel)
set_option maxRecDepth 65536 in
theorem w_c1 : (Jvm.Cond.code ({ cls := "java/lang/Math", name := "max", desc := "(JJ)J" } : Jvm.MethodName) jdk_29_method_66_code (4 : Nat) (Option.some Jvm.ClassFile.FieldType.long)).before args0 about1 = true := code_word (m := ⟨2, 1⟩) (meth := k2m1) (c := k2c1) (by decide +kernel) rfl rfl rfl (by decide +kernel)
set_option maxRecDepth 65536 in
theorem w_c2 : (Jvm.Cond.code ({ cls := "com/example/redelivery/redelivery/RadixHeap", name := "<init>", desc := "()V" } : Jvm.MethodName) prog_23_method_1_code (1 : Nat) (Option.none : Option Jvm.ClassFile.FieldType)).before args0 about1 = true := code_word (m := ⟨3, 0⟩) (meth := k3m0) (c := k3c0) (by decide +kernel) rfl rfl rfl (by decide +kernel)
set_option maxRecDepth 65536 in
theorem w_c3 : (Jvm.Cond.code ({ cls := "java/lang/Object", name := "<init>", desc := "()V" } : Jvm.MethodName) object_method_1_code (1 : Nat) (Option.none : Option Jvm.ClassFile.FieldType)).before args0 about1 = true := code_word (m := ⟨0, 0⟩) (meth := k0m0) (c := k0c0) (by decide +kernel) rfl rfl rfl (by decide +kernel)
set_option maxRecDepth 65536 in
theorem w_c4 : (Jvm.Cond.code ({ cls := "com/example/redelivery/redelivery/RadixHeapIsEmptyPinLaw", name := "agree", desc := "(Lcom/example/redelivery/redelivery/RadixHeap;I)Z" } : Jvm.MethodName) method_2_code (2 : Nat) (Option.some Jvm.ClassFile.FieldType.boolean)).before args0 about1 = true := code_word (m := ⟨1, 1⟩) (meth := k1m1) (c := k1c1) (by decide +kernel) rfl rfl rfl (by decide +kernel)
set_option maxRecDepth 65536 in
theorem w_c5 : (Jvm.Cond.code ({ cls := "com/example/redelivery/redelivery/RadixHeap", name := "isEmpty", desc := "()Z" } : Jvm.MethodName) prog_23_method_3_code (1 : Nat) (Option.some Jvm.ClassFile.FieldType.boolean)).before args0 about1 = true := code_word (m := ⟨3, 1⟩) (meth := k3m1) (c := k3c1) (by decide +kernel) rfl rfl rfl (by decide +kernel)
set_option maxRecDepth 65536 in
theorem w_c6 : (Jvm.Cond.code ({ cls := "com/example/redelivery/redelivery/RadixHeap", name := "add", desc := "(JJ)V" } : Jvm.MethodName) prog_23_method_4_code (5 : Nat) (Option.none : Option Jvm.ClassFile.FieldType)).before args0 about1 = true := code_word (m := ⟨3, 2⟩) (meth := k3m2) (c := k3c2) (by decide +kernel) rfl rfl rfl (by decide +kernel)
set_option maxRecDepth 65536 in
theorem w_c7 : (Jvm.Cond.code ({ cls := "com/example/redelivery/redelivery/RadixHeap", name := "bucketOf", desc := "(J)I" } : Jvm.MethodName) prog_23_method_9_code (3 : Nat) (Option.some Jvm.ClassFile.FieldType.int)).before args0 about1 = true := code_word (m := ⟨3, 6⟩) (meth := k3m6) (c := k3c6) (by decide +kernel) rfl rfl rfl (by decide +kernel)
set_option maxRecDepth 65536 in
theorem w_c8 : (Jvm.Cond.code ({ cls := "java/lang/Long", name := "numberOfLeadingZeros", desc := "(J)I" } : Jvm.MethodName) jdk_35_method_48_code (3 : Nat) (Option.some Jvm.ClassFile.FieldType.int)).before args0 about1 = true := code_word (m := ⟨9, 0⟩) (meth := k9m0) (c := k9c0) (by decide +kernel) rfl rfl rfl (by decide +kernel)
set_option maxRecDepth 65536 in
theorem w_c9 : (Jvm.Cond.code ({ cls := "java/lang/Integer", name := "numberOfLeadingZeros", desc := "(I)I" } : Jvm.MethodName) jdk_33_method_47_code (2 : Nat) (Option.some Jvm.ClassFile.FieldType.int)).before args0 about1 = true := code_word (m := ⟨10, 0⟩) (meth := k10m0) (c := k10c0) (by decide +kernel) rfl rfl rfl (by decide +kernel)
set_option maxRecDepth 65536 in
theorem w_c10 : (Jvm.Cond.code ({ cls := "com/example/redelivery/redelivery/RadixHeap", name := "put", desc := "(IJJ)V" } : Jvm.MethodName) prog_23_method_10_code (7 : Nat) (Option.none : Option Jvm.ClassFile.FieldType)).before args0 about1 = true := code_word (m := ⟨3, 7⟩) (meth := k3m7) (c := k3c7) (by decide +kernel) rfl rfl rfl (by decide +kernel)
set_option maxRecDepth 65536 in
theorem w_c11 : (Jvm.Cond.code ({ cls := "java/lang/Math", name := "min", desc := "(JJ)J" } : Jvm.MethodName) jdk_29_method_70_code (4 : Nat) (Option.some Jvm.ClassFile.FieldType.long)).before args0 about1 = true := code_word (m := ⟨2, 2⟩) (meth := k2m2) (c := k2c2) (by decide +kernel) rfl rfl rfl (by decide +kernel)
set_option maxRecDepth 65536 in
theorem w_c12 : (Jvm.Cond.code ({ cls := "com/example/redelivery/redelivery/RadixHeap", name := "takeLeast", desc := "()J" } : Jvm.MethodName) prog_23_method_6_code (2 : Nat) (Option.some Jvm.ClassFile.FieldType.long)).before args0 about1 = true := code_word (m := ⟨3, 3⟩) (meth := k3m3) (c := k3c3) (by decide +kernel) rfl rfl rfl (by decide +kernel)
set_option maxRecDepth 65536 in
theorem w_c13 : (Jvm.Cond.code ({ cls := "com/example/redelivery/redelivery/RadixHeap", name := "requireEntry", desc := "()V" } : Jvm.MethodName) prog_23_method_7_code (1 : Nat) (Option.none : Option Jvm.ClassFile.FieldType)).before args0 about1 = true := code_word (m := ⟨3, 4⟩) (meth := k3m4) (c := k3c4) (by decide +kernel) rfl rfl rfl (by decide +kernel)
set_option maxRecDepth 65536 in
theorem w_c14 : (Jvm.Cond.code ({ cls := "java/lang/Long", name := "numberOfTrailingZeros", desc := "(J)I" } : Jvm.MethodName) jdk_35_method_49_code (3 : Nat) (Option.some Jvm.ClassFile.FieldType.int)).before args0 about1 = true := code_word (m := ⟨9, 1⟩) (meth := k9m1) (c := k9c1) (by decide +kernel) rfl rfl rfl (by decide +kernel)
set_option maxRecDepth 65536 in
theorem w_c15 : (Jvm.Cond.code ({ cls := "java/lang/Integer", name := "numberOfTrailingZeros", desc := "(I)I" } : Jvm.MethodName) jdk_33_method_48_code (2 : Nat) (Option.some Jvm.ClassFile.FieldType.int)).before args0 about1 = true := code_word (m := ⟨10, 1⟩) (meth := k10m1) (c := k10c1) (by decide +kernel) rfl rfl rfl (by decide +kernel)
set_option maxRecDepth 65536 in
theorem w_c16 : (Jvm.Cond.code ({ cls := "com/example/redelivery/redelivery/RadixHeap", name := "spill", desc := "(I)V" } : Jvm.MethodName) prog_23_method_8_code (6 : Nat) (Option.none : Option Jvm.ClassFile.FieldType)).before args0 about1 = true := code_word (m := ⟨3, 5⟩) (meth := k3m5) (c := k3c5) (by decide +kernel) rfl rfl rfl (by decide +kernel)
def codes1 : List Jvm.Cond := [Jvm.Cond.code x code maxLocals ret, Jvm.Cond.code ({ cls := "java/lang/Math", name := "max", desc := "(JJ)J" } : Jvm.MethodName) jdk_29_method_66_code (4 : Nat) (Option.some Jvm.ClassFile.FieldType.long), Jvm.Cond.code ({ cls := "com/example/redelivery/redelivery/RadixHeap", name := "<init>", desc := "()V" } : Jvm.MethodName) prog_23_method_1_code (1 : Nat) (Option.none : Option Jvm.ClassFile.FieldType), Jvm.Cond.code ({ cls := "java/lang/Object", name := "<init>", desc := "()V" } : Jvm.MethodName) object_method_1_code (1 : Nat) (Option.none : Option Jvm.ClassFile.FieldType), Jvm.Cond.code ({ cls := "com/example/redelivery/redelivery/RadixHeapIsEmptyPinLaw", name := "agree", desc := "(Lcom/example/redelivery/redelivery/RadixHeap;I)Z" } : Jvm.MethodName) method_2_code (2 : Nat) (Option.some Jvm.ClassFile.FieldType.boolean), Jvm.Cond.code ({ cls := "com/example/redelivery/redelivery/RadixHeap", name := "isEmpty", desc := "()Z" } : Jvm.MethodName) prog_23_method_3_code (1 : Nat) (Option.some Jvm.ClassFile.FieldType.boolean), Jvm.Cond.code ({ cls := "com/example/redelivery/redelivery/RadixHeap", name := "add", desc := "(JJ)V" } : Jvm.MethodName) prog_23_method_4_code (5 : Nat) (Option.none : Option Jvm.ClassFile.FieldType), Jvm.Cond.code ({ cls := "com/example/redelivery/redelivery/RadixHeap", name := "bucketOf", desc := "(J)I" } : Jvm.MethodName) prog_23_method_9_code (3 : Nat) (Option.some Jvm.ClassFile.FieldType.int), Jvm.Cond.code ({ cls := "java/lang/Long", name := "numberOfLeadingZeros", desc := "(J)I" } : Jvm.MethodName) jdk_35_method_48_code (3 : Nat) (Option.some Jvm.ClassFile.FieldType.int), Jvm.Cond.code ({ cls := "java/lang/Integer", name := "numberOfLeadingZeros", desc := "(I)I" } : Jvm.MethodName) jdk_33_method_47_code (2 : Nat) (Option.some Jvm.ClassFile.FieldType.int), Jvm.Cond.code ({ cls := "com/example/redelivery/redelivery/RadixHeap", name := "put", desc := "(IJJ)V" } : Jvm.MethodName) prog_23_method_10_code (7 : Nat) (Option.none : Option Jvm.ClassFile.FieldType), Jvm.Cond.code ({ cls := "java/lang/Math", name := "min", desc := "(JJ)J" } : Jvm.MethodName) jdk_29_method_70_code (4 : Nat) (Option.some Jvm.ClassFile.FieldType.long), Jvm.Cond.code ({ cls := "com/example/redelivery/redelivery/RadixHeap", name := "takeLeast", desc := "()J" } : Jvm.MethodName) prog_23_method_6_code (2 : Nat) (Option.some Jvm.ClassFile.FieldType.long), Jvm.Cond.code ({ cls := "com/example/redelivery/redelivery/RadixHeap", name := "requireEntry", desc := "()V" } : Jvm.MethodName) prog_23_method_7_code (1 : Nat) (Option.none : Option Jvm.ClassFile.FieldType), Jvm.Cond.code ({ cls := "java/lang/Long", name := "numberOfTrailingZeros", desc := "(J)I" } : Jvm.MethodName) jdk_35_method_49_code (3 : Nat) (Option.some Jvm.ClassFile.FieldType.int), Jvm.Cond.code ({ cls := "java/lang/Integer", name := "numberOfTrailingZeros", desc := "(I)I" } : Jvm.MethodName) jdk_33_method_48_code (2 : Nat) (Option.some Jvm.ClassFile.FieldType.int), Jvm.Cond.code ({ cls := "com/example/redelivery/redelivery/RadixHeap", name := "spill", desc := "(I)V" } : Jvm.MethodName) prog_23_method_8_code (6 : Nat) (Option.none : Option Jvm.ClassFile.FieldType)]
set_option maxRecDepth 65536 in
theorem codes_eq : words1.filter isCode = codes1 := rfl
theorem w_codes : ∀ c ∈ words1.filter isCode, c.before args0 about1 = true := by
  rw [codes_eq]
  intro c hc
  simp only [codes1, List.mem_cons, List.not_mem_nil, or_false] at hc
  rcases hc with rfl | rfl | rfl | rfl | rfl | rfl | rfl | rfl | rfl | rfl | rfl | rfl | rfl | rfl | rfl | rfl | rfl
  · exact w_c0
  · exact w_c1
  · exact w_c2
  · exact w_c3
  · exact w_c4
  · exact w_c5
  · exact w_c6
  · exact w_c7
  · exact w_c8
  · exact w_c9
  · exact w_c10
  · exact w_c11
  · exact w_c12
  · exact w_c13
  · exact w_c14
  · exact w_c15
  · exact w_c16
set_option maxRecDepth 65536 in
theorem w_t1 : (words1.take 24).all (fun c => isCode c || c.before args0 about1) = true := by decide +kernel
set_option maxRecDepth 65536 in
theorem w_t2 : ((words1.drop 24).take 24).all (fun c => isCode c || c.before args0 about1) = true := by decide +kernel
set_option maxRecDepth 65536 in
theorem w_t3 : (((words1.drop 24).drop 24).take 24).all (fun c => isCode c || c.before args0 about1) = true := by decide +kernel
set_option maxRecDepth 65536 in
theorem w_t4 : (((words1.drop 24).drop 24).drop 24).all (fun c => isCode c || c.before args0 about1) = true := by decide +kernel
theorem w_tables : (allAtoms (Jvm.Cond.code x code maxLocals ret :: tables_1)).before args0 about1 = true := by
  rw [allAtoms_all]
  show words1.all (fun c => c.before args0 about1) = true
  refine all_split ?_ w_codes
  rw [← List.take_append_drop 24 words1, List.all_append, w_t1, ← List.take_append_drop 24 (words1.drop 24), List.all_append, w_t2, ← List.take_append_drop 24 ((words1.drop 24).drop 24), List.all_append, w_t3, w_t4]
  rfl
set_option maxRecDepth 65536 in
theorem w_case : (Jvm.Cond.and given_1 narrow_1).before args0 about1 = true := by decide +kernel
theorem w_applies : (headSpec (Jvm.Cond.code x code maxLocals ret :: tables_1) room_1).applies x e0.platform about1 = true :=
  (Spec.applies_iff w_frames).mpr ⟨w_running, w_runnable, w_alone, w_named, w_hears, w_ripe, w_room, w_tables⟩
theorem atStart : AtStart classFile x code maxLocals ret World_1 tables_1 room_1 Calls_1 rest_1 Pre_1 launch0 p0 e0 about1 theMethod args0 below0 :=
  ⟨lists_1, trivial, launch0.admits_env _ _ _, launch0.least_env, fairChoices_fair.cas, fairChoices_fair.clock, w_frames, w_args, w_heap, w_applies, trivial, trivial, w_case⟩
end start1
theorem witness_1 : WitnessClaimed_1 := ⟨start1.p0, start1.e0, start1.about1, start1.theMethod, start1.args0, start1.below0, start1.atStart⟩
end Jvm.Pilot.@@N@@
