import JvmDerived
import JvmDerived.Pilot.@@N@@Statement
import JvmDerived.Pilot.@@N@@Code
set_option linter.unusedVariables false
set_option linter.unusedSimpArgs false
namespace Jvm.Pilot.@@N@@
open Jvm Jvm.ClassFile Sem Op Lib Jvm.Free Jvm.Stand Jvm.LawKit Jvm.RoadKit Bundle Jvm.Pilot.@@N@@.Jvm.D
/-! from a frame on, the body comes to its end as Q says -/
section OwnKit
variable {p : Program} {l : Launch} {e : Env} {R : Room} {s : State} {m : MethodId} {args : Array Value} {below : List Frame} {meth : Method} {c : Code} {T T' : State} {locs : List Loc} {cells slots C D : Nat} {Q Q' : Option Value → Heap → List Loc → Prop} {g g' : JFrame}
def Go (p : Program) (e : Env) (below : List Frame) (s : State) (C D : Nat) (Q : Option Value → Heap → List Loc → Prop) (T : State) (g : JFrame) : Prop :=
  ∃ u o, Steps p.tables e below (T.setTop g) u ∧ u.status = .running ∧ Ended u below o ∧ ∃ v L, o = .returned v ∧ Q v u.heap L ∧ FrameEnd s o u L C D
def PureQ (r : Value) (h0 : Heap) (v : Option Value) (h : Heap) (L : List Loc) : Prop := v = some r ∧ L = [] ∧ h = h0
theorem Go.step (k : ∀ t, Steps p.tables e below (T'.setTop g') t → Steps p.tables e below (T.setTop g) t) (h : Go p e below s C D Q T' g') : Go p e below s C D Q T g := by
  obtain ⟨u, o, h1, r⟩ := h
  exact ⟨u, o, k _ h1, r⟩
theorem Go.mono (h : Go p e below s C D Q T g) (q : ∀ v h L, Q v h L → Q' v h L) : Go p e below s C D Q' T g := by
  obtain ⟨u, o, h1, h2, h3, v, L, h4, h5, h6⟩ := h
  exact ⟨u, o, h1, h2, h3, v, L, h4, q _ _ _ h5, h6⟩
theorem Go.retN (X : Stand p l e R s m args below meth c T locs cells slots) (hx : p.tables.exec = Jvm.exec) (hlk : meth.locks = false) {pc : Nat} {Ls : Array Slot} {z : Int32} {t : FieldType} {rest : List Value} (hret : meth.sig.returnType = some t) (ht : t = .boolean ∨ t = .byte ∨ t = .char ∨ t = .short)
    (hd : decode c.code pc = .ok (.ireturn, 1)) (hC : cells ≤ C) (hD : slots ≤ D) (hq : Q (some (.int (nar t z))) T.heap locs) : Go p e below s C D Q T (mkF m pc Ls (.int z :: rest)) := by
  obtain ⟨fs, hr, hrun, hended, hW, hsame⟩ := X.leave (v := some (.int (nar t z))) (fun h => by rw [hret] at h; cases h) hlk
  exact ⟨_, _, Jvm.RoadKit.retN X hx hret ht hd hr, hrun, hended, _, _, rfl, hq, ⟨_, rfl⟩, hW, hsame.mono hC hD⟩
theorem Go.retW (X : Stand p l e R s m args below meth c T locs cells slots) (hx : p.tables.exec = Jvm.exec) (hlk : meth.locks = false) {pc : Nat} {Ls : Array Slot} {w : Value} {t : FieldType} {i : Instr} {rest : List Value} (hret : meth.sig.returnType = some t) (hn : narrow t w = w)
    (hi : (i = .ireturn ∧ (t = .int ∨ t = .boolean ∨ t = .byte ∨ t = .char ∨ t = .short) ∧ ∃ z, w = .int z) ∨ (i = .lreturn ∧ t = .long ∧ ∃ z, w = .long z) ∨ (i = .dreturn ∧ t = .double ∧ ∃ z, w = .double z) ∨ (i = .freturn ∧ t = .float ∧ ∃ z, w = .float z) ∨ (i = .areturn ∧ t.isReference = true ∧ w.isRef = true))
    (hd : decode c.code pc = .ok (i, 1)) (hC : cells ≤ C) (hD : slots ≤ D) (hq : Q (some w) T.heap locs) : Go p e below s C D Q T (mkF m pc Ls (w :: rest)) := by
  obtain ⟨fs, hr, hrun, hended, hW, hsame⟩ := X.leave (v := some w) (fun h => by rw [hret] at h; cases h) hlk
  exact ⟨_, _, retOut X hx hret hn hi hd hr, hrun, hended, _, _, rfl, hq, ⟨_, rfl⟩, hW, hsame.mono hC hD⟩
theorem Go.ret0 (X : Stand p l e R s m args below meth c T locs cells slots) (hx : p.tables.exec = Jvm.exec) (hlk : meth.locks = false) {pc : Nat} {Ls : Array Slot} (hret : meth.sig.returnType = none)
    (hd : decode c.code pc = .ok (.return_, 1)) (hC : cells ≤ C) (hD : slots ≤ D) (hq : Q none T.heap locs) : Go p e below s C D Q T (mkF m pc Ls []) := by
  obtain ⟨fs, hr, hrun, hended, hW, hsame⟩ := X.leave (v := none) (fun _ => rfl) hlk
  exact ⟨_, _, X.returnOut hx hret hd hr, hrun, hended, _, _, rfl, hq, ⟨_, rfl⟩, hW, hsame.mono hC hD⟩
end OwnKit
theorem pd_0 : parseMethodDescriptor "(I)Z" = some ⟨[.int], some .boolean⟩ := by decide +kernel
theorem pd_1 : parseMethodDescriptor "(I[BI)I" = some ⟨[.int, (.array .byte), .int], some .int⟩ := by decide +kernel
theorem pd_2 : parseMethodDescriptor "(I[BILcom/example/ucs_to_octets/ucstooctets/CodeSpace;)I" = some ⟨[.int, (.array .byte), .int, (.object "com/example/ucs_to_octets/ucstooctets/CodeSpace")], some .int⟩ := by decide +kernel
theorem pd_3 : parseMethodDescriptor "([BIIIB)Z" = some ⟨[(.array .byte), .int, .int, .int, .byte], some .boolean⟩ := by decide +kernel
theorem pd_4 : parseMethodDescriptor "([BIII)Z" = some ⟨[(.array .byte), .int, .int, .int], some .boolean⟩ := by decide +kernel
theorem pd_5 : parseMethodDescriptor "(J[BIII)J" = some ⟨[.long, (.array .byte), .int, .int, .int], some .long⟩ := by decide +kernel
section OwnHeap
variable {p : Program} {l : Launch} {e : Env} {R : Room} {s : State} {m : MethodId} {args : Array Value} {below : List Frame} {meth : Method} {c : Code} {T : State} {locs : List Loc} {cells slots n0 : Nat}
variable {Z : State} {h h' : Heap} {a b : Addr} {ty : FieldType} {n sl : Nat} {f : Nat → Value} {v : Value} {ws : List Addr} {j : Int32} {gf : JFrame} {rest : List Value}
def IA (Z : State) (h : Heap) (a : Addr) (ty : FieldType) (n : Nat) (f : Nat → Value) : Prop := ∃ c : Cell, Arr Z h a c ty ∧ c.slots.size = n ∧ ∀ k, k < n → c.slots[k]? = some (f k)
def upd {α : Type} (g : Nat → α) (j : Nat) (v : α) (k : Nat) : α := if k = j then v else g k
theorem IA.lt (F : IA Z h a ty n f) : a < h.size := by obtain ⟨c, A, -⟩ := F; exact A.lt
theorem IA.ext (F : IA Z h a ty n f) (E : Ext h h') : IA Z h' a ty n f := by obtain ⟨c, A, r⟩ := F; exact ⟨c, A.ext E, r⟩
theorem IA.other (F : IA Z h b ty n f) (W : Wr h h' a sl v) (q : b ≠ a) : IA Z h' b ty n f := by obtain ⟨c, A, r⟩ := F; exact ⟨c, A.other W q, r⟩
theorem IA.keep (F : IA Z h a ty n f) (K : Keep h h' ws) (q : a ∉ ws) : IA Z h' a ty n f := by obtain ⟨c, A, r⟩ := F; exact ⟨c, ⟨K.2.1 a c A.1 q, A.2⟩, r⟩
theorem IA.of_new {k : ClassId} {z : Int32} (A : Arr Z h a (newA k ty z) ty) (hn : z.toNatClampNeg = n) : IA Z h a ty n (fun _ => defaultValue ty) :=
  ⟨_, A, (sz_new _ _ _).trans hn, fun i hi => by subst hn; simp [newA, hi]⟩
theorem IA.set {c : Cell} {F : Nat → Value} (A : Arr Z h a c ty) (S : c.slots.size = n) (H : ∀ k, k < n → c.slots[k]? = some (F k)) (hj : ¬ (j < 0 ∨ n ≤ j.toNatClampNeg)) (W : Wr h h' a j.toNatClampNeg v) : IA Z h' a ty n (upd F j.toNatClampNeg v) := by
  refine ⟨_, A.same W, (sz_set _ _ _).trans S, fun k hk => ?_⟩
  by_cases q : k = j.toNatClampNeg
  · subst q; simp [Cell.setSlot, upd, S, hk]
  · simp only [Cell.setSlot, upd, if_neg q]
    rw [Array.getElem?_setIfInBounds_ne (Ne.symm q)]; exact H k hk
theorem IA.cong {f' : Nat → Value} (F : IA Z h a ty n f) (q : ∀ k, k < n → f k = f' k) : IA Z h a ty n f' := by
  obtain ⟨c, A, S, H⟩ := F; exact ⟨c, A, S, fun k hk => by rw [H k hk, q k hk]⟩
theorem own_pack (X : Stand p l e R s m args below meth c T locs cells slots) (N : Fr n0 locs) : ∃ lc, Stand p l e R s m args below meth c T lc cells slots ∧ Fr n0 lc := ⟨_, X, N⟩
theorem own_more {C D : Nat} (X : Stand p l e R s m args below meth c T locs cells slots) (hC : cells ≤ C) (hD : slots ≤ D) : Stand p l e R s m args below meth c T locs C D := X.more hC hD
theorem putAI {g : Nat → Int32} {x : Int32} (X : Stand p l e R s m args below meth c T locs cells slots) (hx : p.tables.exec = Jvm.exec) (hZ : Z.Warmed39 s.vm) (eT : T.heap = h) (F : IA Z h a .int n (fun k => .int (g k))) (hj : ¬ (j < 0 ∨ n ≤ j.toNatClampNeg)) (N : Fr n0 locs) (ha : n0 ≤ a) (hg : gf.method = m) (hs : gf.stack = .int x :: .int j :: .ref a :: rest) (hd : decode c.code gf.pc = .ok (.iastore, 1)) :
    ∃ T' h' lc, Stand p l e R s m args below meth c T' lc cells slots ∧ T'.heap = h' ∧ Wr h h' a j.toNatClampNeg (.int x) ∧ Fr n0 lc ∧ IA Z h' a .int n (fun k => .int (upd g j.toNatClampNeg x k)) ∧ ∀ target, Steps p.tables e below (T'.setTop { gf with pc := gf.pc + 1, stack := rest }) target → Steps p.tables e below (T.setTop gf) target := by
  obtain ⟨cl, A, S, H⟩ := F
  obtain ⟨T', h', X', e', W, st⟩ := stI X hx hZ eT A (j := j) (x := x) (by rw [S]; exact hj) hg hs hd
  exact ⟨T', h', _, X', e', W, Fr.snoc X' N ha, (IA.set A S H hj W).cong fun k _ => by simp only [upd]; split <;> rfl, st⟩
theorem putAJ {g : Nat → Int64} {x : Int64} (X : Stand p l e R s m args below meth c T locs cells slots) (hx : p.tables.exec = Jvm.exec) (hZ : Z.Warmed39 s.vm) (eT : T.heap = h) (F : IA Z h a .long n (fun k => .long (g k))) (hj : ¬ (j < 0 ∨ n ≤ j.toNatClampNeg)) (N : Fr n0 locs) (ha : n0 ≤ a) (hg : gf.method = m) (hs : gf.stack = .long x :: .int j :: .ref a :: rest) (hd : decode c.code gf.pc = .ok (.lastore, 1)) :
    ∃ T' h' lc, Stand p l e R s m args below meth c T' lc cells slots ∧ T'.heap = h' ∧ Wr h h' a j.toNatClampNeg (.long x) ∧ Fr n0 lc ∧ IA Z h' a .long n (fun k => .long (upd g j.toNatClampNeg x k)) ∧ ∀ target, Steps p.tables e below (T'.setTop { gf with pc := gf.pc + 1, stack := rest }) target → Steps p.tables e below (T.setTop gf) target := by
  obtain ⟨cl, A, S, H⟩ := F
  obtain ⟨T', h', X', e', W, st⟩ := stJ X hx hZ eT A (j := j) (x := x) (by rw [S]; exact hj) hg hs hd
  exact ⟨T', h', _, X', e', W, Fr.snoc X' N ha, (IA.set A S H hj W).cong fun k _ => by simp only [upd]; split <;> rfl, st⟩
theorem putAC {g : Nat → Int32} {x : Int32} (X : Stand p l e R s m args below meth c T locs cells slots) (hx : p.tables.exec = Jvm.exec) (hZ : Z.Warmed39 s.vm) (eT : T.heap = h) (F : IA Z h a .char n (fun k => .int (g k))) (hj : ¬ (j < 0 ∨ n ≤ j.toNatClampNeg)) (N : Fr n0 locs) (ha : n0 ≤ a) (hg : gf.method = m) (hs : gf.stack = .int x :: .int j :: .ref a :: rest) (hd : decode c.code gf.pc = .ok (.castore, 1)) :
    ∃ T' h' lc, Stand p l e R s m args below meth c T' lc cells slots ∧ T'.heap = h' ∧ Wr h h' a j.toNatClampNeg (.int (nar .char x)) ∧ Fr n0 lc ∧ IA Z h' a .char n (fun k => .int (upd g j.toNatClampNeg (nar .char x) k)) ∧ ∀ target, Steps p.tables e below (T'.setTop { gf with pc := gf.pc + 1, stack := rest }) target → Steps p.tables e below (T.setTop gf) target := by
  obtain ⟨cl, A, S, H⟩ := F
  obtain ⟨T', h', X', e', W, st⟩ := stC X hx hZ eT A (j := j) (x := x) (by rw [S]; exact hj) hg hs hd
  exact ⟨T', h', _, X', e', W, Fr.snoc X' N ha, (IA.set A S H hj W).cong fun k _ => by simp only [upd]; split <;> rfl, st⟩
theorem putAB {g : Nat → Int32} {x : Int32} (X : Stand p l e R s m args below meth c T locs cells slots) (hx : p.tables.exec = Jvm.exec) (hZ : Z.Warmed39 s.vm) (eT : T.heap = h) (F : IA Z h a .byte n (fun k => .int (g k))) (hj : ¬ (j < 0 ∨ n ≤ j.toNatClampNeg)) (N : Fr n0 locs) (ha : n0 ≤ a) (hg : gf.method = m) (hs : gf.stack = .int x :: .int j :: .ref a :: rest) (hd : decode c.code gf.pc = .ok (.bastore, 1)) :
    ∃ T' h' lc, Stand p l e R s m args below meth c T' lc cells slots ∧ T'.heap = h' ∧ Wr h h' a j.toNatClampNeg (.int (nar .byte x)) ∧ Fr n0 lc ∧ IA Z h' a .byte n (fun k => .int (upd g j.toNatClampNeg (nar .byte x) k)) ∧ ∀ target, Steps p.tables e below (T'.setTop { gf with pc := gf.pc + 1, stack := rest }) target → Steps p.tables e below (T.setTop gf) target := by
  obtain ⟨cl, A, S, H⟩ := F
  obtain ⟨T', h', X', e', W, st⟩ := stB X hx hZ eT A (j := j) (x := x) (by rw [S]; exact hj) hg hs hd
  exact ⟨T', h', _, X', e', W, Fr.snoc X' N ha, (IA.set A S H hj W).cong fun k _ => by simp only [upd]; split <;> rfl, st⟩
theorem putAD {g : Nat → UInt64} {x : UInt64} (X : Stand p l e R s m args below meth c T locs cells slots) (hx : p.tables.exec = Jvm.exec) (hZ : Z.Warmed39 s.vm) (eT : T.heap = h) (F : IA Z h a .double n (fun k => .double (g k))) (hj : ¬ (j < 0 ∨ n ≤ j.toNatClampNeg)) (N : Fr n0 locs) (ha : n0 ≤ a) (hg : gf.method = m) (hs : gf.stack = .double x :: .int j :: .ref a :: rest) (hd : decode c.code gf.pc = .ok (.dastore, 1)) :
    ∃ T' h' lc, Stand p l e R s m args below meth c T' lc cells slots ∧ T'.heap = h' ∧ Wr h h' a j.toNatClampNeg (.double x) ∧ Fr n0 lc ∧ IA Z h' a .double n (fun k => .double (upd g j.toNatClampNeg x k)) ∧ ∀ target, Steps p.tables e below (T'.setTop { gf with pc := gf.pc + 1, stack := rest }) target → Steps p.tables e below (T.setTop gf) target := by
  obtain ⟨cl, A, S, H⟩ := F
  have hj' : ¬ (j < 0 ∨ cl.slots.size ≤ j.toNatClampNeg) := by rw [S]; exact hj
  obtain ⟨X', st⟩ := X.dastore hx (x := x) (by rw [eT]; exact A.1) (State.isArrayOf_alike hZ.alike A.2.1) A.2.2 hj' hg hs hd
  have W : Wr h (T.setCell a (cl.setSlot j.toNatClampNeg (.double x))).heap a j.toNatClampNeg (.double x) := ⟨cl, A.1, A.plain, Nat.lt_of_not_le fun q => hj' (Or.inr q), by rw [← eT]; rfl⟩
  exact ⟨_, _, _, X', rfl, W, Fr.snoc X' N ha, (IA.set A S H hj W).cong fun k _ => by simp only [upd]; split <;> rfl, st⟩
theorem getAI {g : Nat → Int32} {t : State} (X : Stand p l e R s m args below meth c T locs cells slots) (hx : p.tables.exec = Jvm.exec) (hZ : Z.Warmed39 s.vm) (eT : T.heap = h) (F : IA Z h a .int n (fun k => .int (g k))) (hj : ¬ (j < 0 ∨ n ≤ j.toNatClampNeg)) (hg : gf.method = m) (hs : gf.stack = .int j :: .ref a :: rest) (hd : decode c.code gf.pc = .ok (.iaload, 1))
    (hr : Steps p.tables e below (T.setTop { gf with pc := gf.pc + 1, stack := .int (g j.toNatClampNeg) :: rest }) t) : Steps p.tables e below (T.setTop gf) t := by
  obtain ⟨cl, A, S, H⟩ := F
  exact X.iaload hx (by rw [eT]; exact A.1) (State.isArrayOf_alike hZ.alike A.2.1) A.2.2 (by rw [S]; exact hj) (H _ (Nat.lt_of_not_le fun q => hj (Or.inr q))) hg hs hd _ hr
theorem getAJ {g : Nat → Int64} {t : State} (X : Stand p l e R s m args below meth c T locs cells slots) (hx : p.tables.exec = Jvm.exec) (hZ : Z.Warmed39 s.vm) (eT : T.heap = h) (F : IA Z h a .long n (fun k => .long (g k))) (hj : ¬ (j < 0 ∨ n ≤ j.toNatClampNeg)) (hg : gf.method = m) (hs : gf.stack = .int j :: .ref a :: rest) (hd : decode c.code gf.pc = .ok (.laload, 1))
    (hr : Steps p.tables e below (T.setTop { gf with pc := gf.pc + 1, stack := .long (g j.toNatClampNeg) :: rest }) t) : Steps p.tables e below (T.setTop gf) t := by
  obtain ⟨cl, A, S, H⟩ := F
  exact X.laload hx (by rw [eT]; exact A.1) (State.isArrayOf_alike hZ.alike A.2.1) A.2.2 (by rw [S]; exact hj) (H _ (Nat.lt_of_not_le fun q => hj (Or.inr q))) hg hs hd _ hr
theorem getAC {g : Nat → Int32} {t : State} (X : Stand p l e R s m args below meth c T locs cells slots) (hx : p.tables.exec = Jvm.exec) (hZ : Z.Warmed39 s.vm) (eT : T.heap = h) (F : IA Z h a .char n (fun k => .int (g k))) (hj : ¬ (j < 0 ∨ n ≤ j.toNatClampNeg)) (hg : gf.method = m) (hs : gf.stack = .int j :: .ref a :: rest) (hd : decode c.code gf.pc = .ok (.caload, 1))
    (hr : Steps p.tables e below (T.setTop { gf with pc := gf.pc + 1, stack := .int (g j.toNatClampNeg) :: rest }) t) : Steps p.tables e below (T.setTop gf) t := by
  obtain ⟨cl, A, S, H⟩ := F
  exact X.caload hx (by rw [eT]; exact A.1) (State.isArrayOf_alike hZ.alike A.2.1) A.2.2 (by rw [S]; exact hj) (H _ (Nat.lt_of_not_le fun q => hj (Or.inr q))) hg hs hd _ hr
theorem getAB {g : Nat → Int32} {t : State} (X : Stand p l e R s m args below meth c T locs cells slots) (hx : p.tables.exec = Jvm.exec) (hZ : Z.Warmed39 s.vm) (eT : T.heap = h) (F : IA Z h a .byte n (fun k => .int (g k))) (hj : ¬ (j < 0 ∨ n ≤ j.toNatClampNeg)) (hg : gf.method = m) (hs : gf.stack = .int j :: .ref a :: rest) (hd : decode c.code gf.pc = .ok (.baload, 1))
    (hr : Steps p.tables e below (T.setTop { gf with pc := gf.pc + 1, stack := .int (g j.toNatClampNeg) :: rest }) t) : Steps p.tables e below (T.setTop gf) t := by
  obtain ⟨cl, A, S, H⟩ := F
  exact X.baloadBytes hx (by rw [eT]; exact A.1) (State.isArrayOf_alike hZ.alike A.2.1) A.2.2 (by rw [S]; exact hj) (H _ (Nat.lt_of_not_le fun q => hj (Or.inr q))) hg hs hd _ hr
theorem getAD {g : Nat → UInt64} {t : State} (X : Stand p l e R s m args below meth c T locs cells slots) (hx : p.tables.exec = Jvm.exec) (hZ : Z.Warmed39 s.vm) (eT : T.heap = h) (F : IA Z h a .double n (fun k => .double (g k))) (hj : ¬ (j < 0 ∨ n ≤ j.toNatClampNeg)) (hg : gf.method = m) (hs : gf.stack = .int j :: .ref a :: rest) (hd : decode c.code gf.pc = .ok (.daload, 1))
    (hr : Steps p.tables e below (T.setTop { gf with pc := gf.pc + 1, stack := .double (g j.toNatClampNeg) :: rest }) t) : Steps p.tables e below (T.setTop gf) t := by
  obtain ⟨cl, A, S, H⟩ := F
  exact X.daload hx (by rw [eT]; exact A.1) (State.isArrayOf_alike hZ.alike A.2.1) A.2.2 (by rw [S]; exact hj) (H _ (Nat.lt_of_not_le fun q => hj (Or.inr q))) hg hs hd _ hr
theorem getLen {t : State} {z : Int32} (X : Stand p l e R s m args below meth c T locs cells slots) (hx : p.tables.exec = Jvm.exec) (hZ : Z.Warmed39 s.vm) (eT : T.heap = h) (F : IA Z h a ty n f) (hz : n.toInt32 = z) (hg : gf.method = m) (hs : gf.stack = .ref a :: rest) (hd : decode c.code gf.pc = .ok (.arraylength, 1))
    (hr : Steps p.tables e below (T.setTop { gf with pc := gf.pc + 1, stack := .int z :: rest }) t) : Steps p.tables e below (T.setTop gf) t := by
  obtain ⟨cl, A, S, H⟩ := F
  exact X.arraylength hx (by rw [eT]; exact A.1) (State.isArrayOf_alike hZ.alike A.2.1) hg hs hd _ (by rw [S, hz]; exact hr)
end OwnHeap
def LawQ (r : Option Value) (n0 : Nat) (v : Option Value) (h : Heap) (L : List Loc) : Prop := v = r ∧ Fr n0 L
theorem Sta_keep0 {Z : State} {h h' : Heap} {C n d : String} {v : Value} (F : Sta Z h C n d v) (K : Keep h h' []) : Sta Z h' C n d v := by
  obtain ⟨cf, i, k, f, st, cell, h1, h2, h3, h4, h5, r⟩ := F
  exact ⟨cf, i, k, f, st, cell, h1, h2, h3, h4, K.2.1 _ _ h5 nin0, r⟩
theorem own_ord {t : Term} {a : Addr} {k : Int32} {args : Array Value} {s : State} {C n d : String} (ev : t.eval args s none [] s = some (.ref a)) (h : (Jvm.Cond.eq (.field t C n d) (.int k)).value args s none s [] = some true) : s.fieldOf? a C n d = some (.int k) := by
  have e := fld_at (C := C) (n := n) (dd := d) ev
  cases hf : s.fieldOf? a C n d with
  | none => rw [hf] at e; simp [Cond.value, e] at h
  | some v => rw [hf] at e; cases v <;> simp [Cond.value, e, Term.int_eval] at h ⊢; exact h
theorem own_ref {t u : Term} {a b : Addr} {args : Array Value} {s : State} {C n d : String} (ev : t.eval args s none [] s = some (.ref a)) (eu : u.eval args s none [] s = some (.ref b)) (h : (Jvm.Cond.eq (.field t C n d) u).value args s none s [] = some true) : s.fieldOf? a C n d = some (.ref b) := by
  have e := fld_at (C := C) (n := n) (dd := d) ev
  cases hf : s.fieldOf? a C n d with
  | none => rw [hf] at e; simp [Cond.value, e] at h
  | some v => rw [hf] at e; cases v <;> simp [Cond.value, e, eu] at h ⊢; exact h
theorem own_ne {a b : Addr} {v w : Value} {s : State} {C n d : String} (h1 : s.fieldOf? a C n d = some v) (h2 : s.fieldOf? b C n d = some w) (hn : v ≠ w) : a ≠ b := fun e => by
  subst e; exact hn (Option.some.inj (h1.symm.trans h2))
theorem own_ix {o : Int32} (h : ∃ k : Fin 4, o = Int32.ofNat k.val) (i : Fin 6) : ¬ (o + Int32.ofNat i.val < 0 ∨ 9 ≤ (o + Int32.ofNat i.val).toNatClampNeg) := by
  obtain ⟨k, rfl⟩ := h; revert k i; decide +kernel
theorem own_ix0 {o : Int32} (h : ∃ k : Fin 4, o = Int32.ofNat k.val) : ¬ (o < 0 ∨ 9 ≤ o.toNatClampNeg) := by
  obtain ⟨k, rfl⟩ := h; revert k; decide +kernel
theorem own_x0 (p : Int32) : ¬ (p &&& 2147483647) < 0 := by
  have e : (p &&& (2147483647 : Int32)).toInt = p.toInt % (2 ^ 31 : Nat) := c_mask p 2147483647 31 (by decide) (by decide)
  have q : (0 : Int32).toInt = 0 := by decide
  rw [Int32.lt_iff_toInt_lt, q]; omega
theorem own_xr (p : Int32) : 0 ≤ ((p &&& (2147483647 : Int32)) % 1114112).toInt ∧ ((p &&& (2147483647 : Int32)) % 1114112).toInt < 1114112 := by
  have e : (p &&& (2147483647 : Int32)).toInt = p.toInt % (2 ^ 31 : Nat) := c_mask p 2147483647 31 (by decide) (by decide)
  have q : (1114112 : Int32).toInt = 1114112 := by decide
  have r := (c_irem (p &&& 2147483647) 1114112 1114112 q).1 (by omega)
  omega
theorem own_x1 (p : Int32) : ¬ (p &&& 2147483647) % 1114112 < 0 := by
  have q : (0 : Int32).toInt = 0 := by decide
  have := own_xr p
  rw [Int32.lt_iff_toInt_lt, q]; omega
theorem own_x1u {p x : Int32} (h : (p &&& 2147483647) % 1114112 = x) : ¬ 1114111 < x := by
  have q : (1114111 : Int32).toInt = 1114111 := by decide
  have := own_xr p
  rw [← h, Int32.lt_iff_toInt_lt, q]; omega
theorem own_max (x : Int32) : ¬ 2147483647 < x := by
  have q : (2147483647 : Int32).toInt = 2147483647 := by decide
  have r := rng32 x
  rw [Int32.lt_iff_toInt_lt, q]; omega
theorem own_N {x : Int32} (h : ¬ x < 0) : ∃ N : Nat, x.toInt = N := ⟨_, nat_of h⟩
theorem own_o (p : Int32) : ∃ k : Fin 4, (p &&& 3) = Int32.ofNat k.val := by
  have e : (p &&& (3 : Int32)).toInt = p.toInt % (2 ^ 2 : Nat) := c_mask p 3 2 (by decide) (by decide)
  generalize p &&& (3 : Int32) = z at *
  refine ⟨⟨z.toInt.toNat, by omega⟩, ?_⟩
  apply Int32.toInt_inj.mp
  rw [Int32.toInt_ofNat_of_lt (by simp only; omega)]
  simp only; omega
theorem d6_0 : decode prog_32_method_4_code 0 = .ok (.iload_n 0, 1) := by decide +kernel
theorem d6_1 : decode prog_32_method_4_code 1 = .ok (.ldc 48, 2) := by decide +kernel
theorem d6_3 : decode prog_32_method_4_code 3 = .ok (.if_icmp .ge 85, 3) := by decide +kernel
theorem d6_6 : decode prog_32_method_4_code 6 = .ok (.aload_n 1, 1) := by decide +kernel
theorem d6_7 : decode prog_32_method_4_code 7 = .ok (.iload_n 2, 1) := by decide +kernel
theorem d6_8 : decode prog_32_method_4_code 8 = .ok (.iconst 4, 1) := by decide +kernel
theorem d6_9 : decode prog_32_method_4_code 9 = .ok (.iadd, 1) := by decide +kernel
theorem d6_10 : decode prog_32_method_4_code 10 = .ok (.sipush 128, 3) := by decide +kernel
theorem d6_13 : decode prog_32_method_4_code 13 = .ok (.iload_n 0, 1) := by decide +kernel
theorem d6_14 : decode prog_32_method_4_code 14 = .ok (.bipush 63, 2) := by decide +kernel
theorem d6_16 : decode prog_32_method_4_code 16 = .ok (.iand, 1) := by decide +kernel
theorem d6_17 : decode prog_32_method_4_code 17 = .ok (.ior, 1) := by decide +kernel
theorem d6_18 : decode prog_32_method_4_code 18 = .ok (.i2b, 1) := by decide +kernel
theorem d6_19 : decode prog_32_method_4_code 19 = .ok (.bastore, 1) := by decide +kernel
theorem d6_20 : decode prog_32_method_4_code 20 = .ok (.aload_n 1, 1) := by decide +kernel
theorem d6_21 : decode prog_32_method_4_code 21 = .ok (.iload_n 2, 1) := by decide +kernel
theorem d6_22 : decode prog_32_method_4_code 22 = .ok (.iconst 3, 1) := by decide +kernel
theorem d6_23 : decode prog_32_method_4_code 23 = .ok (.iadd, 1) := by decide +kernel
theorem d6_24 : decode prog_32_method_4_code 24 = .ok (.sipush 128, 3) := by decide +kernel
theorem d6_27 : decode prog_32_method_4_code 27 = .ok (.iload_n 0, 1) := by decide +kernel
theorem d6_28 : decode prog_32_method_4_code 28 = .ok (.bipush 6, 2) := by decide +kernel
theorem d6_30 : decode prog_32_method_4_code 30 = .ok (.iushr, 1) := by decide +kernel
theorem d6_31 : decode prog_32_method_4_code 31 = .ok (.bipush 63, 2) := by decide +kernel
theorem d6_33 : decode prog_32_method_4_code 33 = .ok (.iand, 1) := by decide +kernel
theorem d6_34 : decode prog_32_method_4_code 34 = .ok (.ior, 1) := by decide +kernel
theorem d6_35 : decode prog_32_method_4_code 35 = .ok (.i2b, 1) := by decide +kernel
theorem d6_36 : decode prog_32_method_4_code 36 = .ok (.bastore, 1) := by decide +kernel
theorem d6_37 : decode prog_32_method_4_code 37 = .ok (.aload_n 1, 1) := by decide +kernel
theorem d6_38 : decode prog_32_method_4_code 38 = .ok (.iload_n 2, 1) := by decide +kernel
theorem d6_39 : decode prog_32_method_4_code 39 = .ok (.iconst 2, 1) := by decide +kernel
theorem d6_40 : decode prog_32_method_4_code 40 = .ok (.iadd, 1) := by decide +kernel
theorem d6_41 : decode prog_32_method_4_code 41 = .ok (.sipush 128, 3) := by decide +kernel
theorem d6_44 : decode prog_32_method_4_code 44 = .ok (.iload_n 0, 1) := by decide +kernel
theorem d6_45 : decode prog_32_method_4_code 45 = .ok (.bipush 12, 2) := by decide +kernel
theorem d6_47 : decode prog_32_method_4_code 47 = .ok (.iushr, 1) := by decide +kernel
theorem d6_48 : decode prog_32_method_4_code 48 = .ok (.bipush 63, 2) := by decide +kernel
theorem d6_50 : decode prog_32_method_4_code 50 = .ok (.iand, 1) := by decide +kernel
theorem d6_51 : decode prog_32_method_4_code 51 = .ok (.ior, 1) := by decide +kernel
theorem d6_52 : decode prog_32_method_4_code 52 = .ok (.i2b, 1) := by decide +kernel
theorem d6_53 : decode prog_32_method_4_code 53 = .ok (.bastore, 1) := by decide +kernel
theorem d6_54 : decode prog_32_method_4_code 54 = .ok (.aload_n 1, 1) := by decide +kernel
theorem d6_55 : decode prog_32_method_4_code 55 = .ok (.iload_n 2, 1) := by decide +kernel
theorem d6_56 : decode prog_32_method_4_code 56 = .ok (.iconst 1, 1) := by decide +kernel
theorem d6_57 : decode prog_32_method_4_code 57 = .ok (.iadd, 1) := by decide +kernel
theorem d6_58 : decode prog_32_method_4_code 58 = .ok (.sipush 128, 3) := by decide +kernel
theorem d6_61 : decode prog_32_method_4_code 61 = .ok (.iload_n 0, 1) := by decide +kernel
theorem d6_62 : decode prog_32_method_4_code 62 = .ok (.bipush 18, 2) := by decide +kernel
theorem d6_64 : decode prog_32_method_4_code 64 = .ok (.iushr, 1) := by decide +kernel
theorem d6_65 : decode prog_32_method_4_code 65 = .ok (.bipush 63, 2) := by decide +kernel
theorem d6_67 : decode prog_32_method_4_code 67 = .ok (.iand, 1) := by decide +kernel
theorem d6_68 : decode prog_32_method_4_code 68 = .ok (.ior, 1) := by decide +kernel
theorem d6_69 : decode prog_32_method_4_code 69 = .ok (.i2b, 1) := by decide +kernel
theorem d6_70 : decode prog_32_method_4_code 70 = .ok (.bastore, 1) := by decide +kernel
theorem d6_71 : decode prog_32_method_4_code 71 = .ok (.aload_n 1, 1) := by decide +kernel
theorem d6_72 : decode prog_32_method_4_code 72 = .ok (.iload_n 2, 1) := by decide +kernel
theorem d6_73 : decode prog_32_method_4_code 73 = .ok (.sipush 248, 3) := by decide +kernel
theorem d6_76 : decode prog_32_method_4_code 76 = .ok (.iload_n 0, 1) := by decide +kernel
theorem d6_77 : decode prog_32_method_4_code 77 = .ok (.bipush 24, 2) := by decide +kernel
theorem d6_79 : decode prog_32_method_4_code 79 = .ok (.iushr, 1) := by decide +kernel
theorem d6_80 : decode prog_32_method_4_code 80 = .ok (.ior, 1) := by decide +kernel
theorem d6_81 : decode prog_32_method_4_code 81 = .ok (.i2b, 1) := by decide +kernel
theorem d6_82 : decode prog_32_method_4_code 82 = .ok (.bastore, 1) := by decide +kernel
theorem d6_83 : decode prog_32_method_4_code 83 = .ok (.iconst 5, 1) := by decide +kernel
theorem d6_84 : decode prog_32_method_4_code 84 = .ok (.istore_n 3, 1) := by decide +kernel
theorem d6_85 : decode prog_32_method_4_code 85 = .ok (.goto 100, 3) := by decide +kernel
theorem d6_88 : decode prog_32_method_4_code 88 = .ok (.aload_n 1, 1) := by decide +kernel
theorem d6_89 : decode prog_32_method_4_code 89 = .ok (.iload_n 2, 1) := by decide +kernel
theorem d6_90 : decode prog_32_method_4_code 90 = .ok (.iconst 5, 1) := by decide +kernel
theorem d6_91 : decode prog_32_method_4_code 91 = .ok (.iadd, 1) := by decide +kernel
theorem d6_92 : decode prog_32_method_4_code 92 = .ok (.sipush 128, 3) := by decide +kernel
theorem d6_95 : decode prog_32_method_4_code 95 = .ok (.iload_n 0, 1) := by decide +kernel
theorem d6_96 : decode prog_32_method_4_code 96 = .ok (.bipush 63, 2) := by decide +kernel
theorem d6_98 : decode prog_32_method_4_code 98 = .ok (.iand, 1) := by decide +kernel
theorem d6_99 : decode prog_32_method_4_code 99 = .ok (.ior, 1) := by decide +kernel
theorem d6_100 : decode prog_32_method_4_code 100 = .ok (.i2b, 1) := by decide +kernel
theorem d6_101 : decode prog_32_method_4_code 101 = .ok (.bastore, 1) := by decide +kernel
theorem d6_102 : decode prog_32_method_4_code 102 = .ok (.aload_n 1, 1) := by decide +kernel
theorem d6_103 : decode prog_32_method_4_code 103 = .ok (.iload_n 2, 1) := by decide +kernel
theorem d6_104 : decode prog_32_method_4_code 104 = .ok (.iconst 4, 1) := by decide +kernel
theorem d6_105 : decode prog_32_method_4_code 105 = .ok (.iadd, 1) := by decide +kernel
theorem d6_106 : decode prog_32_method_4_code 106 = .ok (.sipush 128, 3) := by decide +kernel
theorem d6_109 : decode prog_32_method_4_code 109 = .ok (.iload_n 0, 1) := by decide +kernel
theorem d6_110 : decode prog_32_method_4_code 110 = .ok (.bipush 6, 2) := by decide +kernel
theorem d6_112 : decode prog_32_method_4_code 112 = .ok (.iushr, 1) := by decide +kernel
theorem d6_113 : decode prog_32_method_4_code 113 = .ok (.bipush 63, 2) := by decide +kernel
theorem d6_115 : decode prog_32_method_4_code 115 = .ok (.iand, 1) := by decide +kernel
theorem d6_116 : decode prog_32_method_4_code 116 = .ok (.ior, 1) := by decide +kernel
theorem d6_117 : decode prog_32_method_4_code 117 = .ok (.i2b, 1) := by decide +kernel
theorem d6_118 : decode prog_32_method_4_code 118 = .ok (.bastore, 1) := by decide +kernel
theorem d6_119 : decode prog_32_method_4_code 119 = .ok (.aload_n 1, 1) := by decide +kernel
theorem d6_120 : decode prog_32_method_4_code 120 = .ok (.iload_n 2, 1) := by decide +kernel
theorem d6_121 : decode prog_32_method_4_code 121 = .ok (.iconst 3, 1) := by decide +kernel
theorem d6_122 : decode prog_32_method_4_code 122 = .ok (.iadd, 1) := by decide +kernel
theorem d6_123 : decode prog_32_method_4_code 123 = .ok (.sipush 128, 3) := by decide +kernel
theorem d6_126 : decode prog_32_method_4_code 126 = .ok (.iload_n 0, 1) := by decide +kernel
theorem d6_127 : decode prog_32_method_4_code 127 = .ok (.bipush 12, 2) := by decide +kernel
theorem d6_129 : decode prog_32_method_4_code 129 = .ok (.iushr, 1) := by decide +kernel
theorem d6_130 : decode prog_32_method_4_code 130 = .ok (.bipush 63, 2) := by decide +kernel
theorem d6_132 : decode prog_32_method_4_code 132 = .ok (.iand, 1) := by decide +kernel
theorem d6_133 : decode prog_32_method_4_code 133 = .ok (.ior, 1) := by decide +kernel
theorem d6_134 : decode prog_32_method_4_code 134 = .ok (.i2b, 1) := by decide +kernel
theorem d6_135 : decode prog_32_method_4_code 135 = .ok (.bastore, 1) := by decide +kernel
theorem d6_136 : decode prog_32_method_4_code 136 = .ok (.aload_n 1, 1) := by decide +kernel
theorem d6_137 : decode prog_32_method_4_code 137 = .ok (.iload_n 2, 1) := by decide +kernel
theorem d6_138 : decode prog_32_method_4_code 138 = .ok (.iconst 2, 1) := by decide +kernel
theorem d6_139 : decode prog_32_method_4_code 139 = .ok (.iadd, 1) := by decide +kernel
theorem d6_140 : decode prog_32_method_4_code 140 = .ok (.sipush 128, 3) := by decide +kernel
theorem d6_143 : decode prog_32_method_4_code 143 = .ok (.iload_n 0, 1) := by decide +kernel
theorem d6_144 : decode prog_32_method_4_code 144 = .ok (.bipush 18, 2) := by decide +kernel
theorem d6_146 : decode prog_32_method_4_code 146 = .ok (.iushr, 1) := by decide +kernel
theorem d6_147 : decode prog_32_method_4_code 147 = .ok (.bipush 63, 2) := by decide +kernel
theorem d6_149 : decode prog_32_method_4_code 149 = .ok (.iand, 1) := by decide +kernel
theorem d6_150 : decode prog_32_method_4_code 150 = .ok (.ior, 1) := by decide +kernel
theorem d6_151 : decode prog_32_method_4_code 151 = .ok (.i2b, 1) := by decide +kernel
theorem d6_152 : decode prog_32_method_4_code 152 = .ok (.bastore, 1) := by decide +kernel
theorem d6_153 : decode prog_32_method_4_code 153 = .ok (.aload_n 1, 1) := by decide +kernel
theorem d6_154 : decode prog_32_method_4_code 154 = .ok (.iload_n 2, 1) := by decide +kernel
theorem d6_155 : decode prog_32_method_4_code 155 = .ok (.iconst 1, 1) := by decide +kernel
theorem d6_156 : decode prog_32_method_4_code 156 = .ok (.iadd, 1) := by decide +kernel
theorem d6_157 : decode prog_32_method_4_code 157 = .ok (.sipush 128, 3) := by decide +kernel
theorem d6_160 : decode prog_32_method_4_code 160 = .ok (.iload_n 0, 1) := by decide +kernel
theorem d6_161 : decode prog_32_method_4_code 161 = .ok (.bipush 24, 2) := by decide +kernel
theorem d6_163 : decode prog_32_method_4_code 163 = .ok (.iushr, 1) := by decide +kernel
theorem d6_164 : decode prog_32_method_4_code 164 = .ok (.bipush 63, 2) := by decide +kernel
theorem d6_166 : decode prog_32_method_4_code 166 = .ok (.iand, 1) := by decide +kernel
theorem d6_167 : decode prog_32_method_4_code 167 = .ok (.ior, 1) := by decide +kernel
theorem d6_168 : decode prog_32_method_4_code 168 = .ok (.i2b, 1) := by decide +kernel
theorem d6_169 : decode prog_32_method_4_code 169 = .ok (.bastore, 1) := by decide +kernel
theorem d6_170 : decode prog_32_method_4_code 170 = .ok (.aload_n 1, 1) := by decide +kernel
theorem d6_171 : decode prog_32_method_4_code 171 = .ok (.iload_n 2, 1) := by decide +kernel
theorem d6_172 : decode prog_32_method_4_code 172 = .ok (.sipush 252, 3) := by decide +kernel
theorem d6_175 : decode prog_32_method_4_code 175 = .ok (.iload_n 0, 1) := by decide +kernel
theorem d6_176 : decode prog_32_method_4_code 176 = .ok (.bipush 30, 2) := by decide +kernel
theorem d6_178 : decode prog_32_method_4_code 178 = .ok (.iushr, 1) := by decide +kernel
theorem d6_179 : decode prog_32_method_4_code 179 = .ok (.ior, 1) := by decide +kernel
theorem d6_180 : decode prog_32_method_4_code 180 = .ok (.i2b, 1) := by decide +kernel
theorem d6_181 : decode prog_32_method_4_code 181 = .ok (.bastore, 1) := by decide +kernel
theorem d6_182 : decode prog_32_method_4_code 182 = .ok (.bipush 6, 2) := by decide +kernel
theorem d6_184 : decode prog_32_method_4_code 184 = .ok (.istore_n 3, 1) := by decide +kernel
theorem d6_185 : decode prog_32_method_4_code 185 = .ok (.iload_n 3, 1) := by decide +kernel
theorem d6_186 : decode prog_32_method_4_code 186 = .ok (.ireturn, 1) := by decide +kernel
theorem pn_6 : plainName "com/example/ucs_to_octets/ucstooctets/Utf8" = true := by first | (simp [plainName, overriddenIn]; done) | decide +kernel
theorem ef_6 (m : MethodId) (p0 : Int32) (o1 : Addr) (p2 : Int32) : entryFrame m #[(.int p0), (.ref o1), (.int p2)] 4 = mkF m 0 #[.val (.int p0), .val (.ref o1), .val (.int p2), .unset] [] := by first | (simp [entryFrame, mkF, argsToLocals, Value.category]; done) | rfl
def EncA (p0 p2 : Int32) (g : Nat → Int32) (le : Int32) (g' : Nat → Int32) : Prop := (p0 < (67108864 : Int32) ∧ le = (5 : Int32) ∧ g' = (upd (upd (upd (upd (upd g (p2 + (4 : Int32)).toNatClampNeg (nar .byte (((128 : Int32) ||| (p0 &&& (63 : Int32))).toInt8.toInt32))) (p2 + (3 : Int32)).toNatClampNeg (nar .byte (((128 : Int32) ||| (((p0.toUInt32 >>> ((6 : Int32) &&& 31).toUInt32).toInt32) &&& (63 : Int32))).toInt8.toInt32))) (p2 + (2 : Int32)).toNatClampNeg (nar .byte (((128 : Int32) ||| (((p0.toUInt32 >>> ((12 : Int32) &&& 31).toUInt32).toInt32) &&& (63 : Int32))).toInt8.toInt32))) (p2 + (1 : Int32)).toNatClampNeg (nar .byte (((128 : Int32) ||| (((p0.toUInt32 >>> ((18 : Int32) &&& 31).toUInt32).toInt32) &&& (63 : Int32))).toInt8.toInt32))) p2.toNatClampNeg (nar .byte (((248 : Int32) ||| ((p0.toUInt32 >>> ((24 : Int32) &&& 31).toUInt32).toInt32)).toInt8.toInt32)))) ∨ (¬ p0 < (67108864 : Int32) ∧ le = (6 : Int32) ∧ g' = (upd (upd (upd (upd (upd (upd g (p2 + (5 : Int32)).toNatClampNeg (nar .byte (((128 : Int32) ||| (p0 &&& (63 : Int32))).toInt8.toInt32))) (p2 + (4 : Int32)).toNatClampNeg (nar .byte (((128 : Int32) ||| (((p0.toUInt32 >>> ((6 : Int32) &&& 31).toUInt32).toInt32) &&& (63 : Int32))).toInt8.toInt32))) (p2 + (3 : Int32)).toNatClampNeg (nar .byte (((128 : Int32) ||| (((p0.toUInt32 >>> ((12 : Int32) &&& 31).toUInt32).toInt32) &&& (63 : Int32))).toInt8.toInt32))) (p2 + (2 : Int32)).toNatClampNeg (nar .byte (((128 : Int32) ||| (((p0.toUInt32 >>> ((18 : Int32) &&& 31).toUInt32).toInt32) &&& (63 : Int32))).toInt8.toInt32))) (p2 + (1 : Int32)).toNatClampNeg (nar .byte (((128 : Int32) ||| (((p0.toUInt32 >>> ((24 : Int32) &&& 31).toUInt32).toInt32) &&& (63 : Int32))).toInt8.toInt32))) p2.toNatClampNeg (nar .byte (((252 : Int32) ||| ((p0.toUInt32 >>> ((30 : Int32) &&& 31).toUInt32).toInt32)).toInt8.toInt32))))
theorem EncA.c5 {p0 p2 : Int32} {g : Nat → Int32} (h0 : p0 < (67108864 : Int32)) : EncA p0 p2 g (5 : Int32) (upd (upd (upd (upd (upd g (p2 + (4 : Int32)).toNatClampNeg (nar .byte (((128 : Int32) ||| (p0 &&& (63 : Int32))).toInt8.toInt32))) (p2 + (3 : Int32)).toNatClampNeg (nar .byte (((128 : Int32) ||| (((p0.toUInt32 >>> ((6 : Int32) &&& 31).toUInt32).toInt32) &&& (63 : Int32))).toInt8.toInt32))) (p2 + (2 : Int32)).toNatClampNeg (nar .byte (((128 : Int32) ||| (((p0.toUInt32 >>> ((12 : Int32) &&& 31).toUInt32).toInt32) &&& (63 : Int32))).toInt8.toInt32))) (p2 + (1 : Int32)).toNatClampNeg (nar .byte (((128 : Int32) ||| (((p0.toUInt32 >>> ((18 : Int32) &&& 31).toUInt32).toInt32) &&& (63 : Int32))).toInt8.toInt32))) p2.toNatClampNeg (nar .byte (((248 : Int32) ||| ((p0.toUInt32 >>> ((24 : Int32) &&& 31).toUInt32).toInt32)).toInt8.toInt32))) := Or.inl ⟨h0, rfl, rfl⟩
theorem EncA.c6 {p0 p2 : Int32} {g : Nat → Int32} (h0 : ¬ p0 < (67108864 : Int32)) : EncA p0 p2 g (6 : Int32) (upd (upd (upd (upd (upd (upd g (p2 + (5 : Int32)).toNatClampNeg (nar .byte (((128 : Int32) ||| (p0 &&& (63 : Int32))).toInt8.toInt32))) (p2 + (4 : Int32)).toNatClampNeg (nar .byte (((128 : Int32) ||| (((p0.toUInt32 >>> ((6 : Int32) &&& 31).toUInt32).toInt32) &&& (63 : Int32))).toInt8.toInt32))) (p2 + (3 : Int32)).toNatClampNeg (nar .byte (((128 : Int32) ||| (((p0.toUInt32 >>> ((12 : Int32) &&& 31).toUInt32).toInt32) &&& (63 : Int32))).toInt8.toInt32))) (p2 + (2 : Int32)).toNatClampNeg (nar .byte (((128 : Int32) ||| (((p0.toUInt32 >>> ((18 : Int32) &&& 31).toUInt32).toInt32) &&& (63 : Int32))).toInt8.toInt32))) (p2 + (1 : Int32)).toNatClampNeg (nar .byte (((128 : Int32) ||| (((p0.toUInt32 >>> ((24 : Int32) &&& 31).toUInt32).toInt32) &&& (63 : Int32))).toInt8.toInt32))) p2.toNatClampNeg (nar .byte (((252 : Int32) ||| ((p0.toUInt32 >>> ((30 : Int32) &&& 31).toUInt32).toInt32)).toInt8.toInt32))) := Or.inr (⟨h0, rfl, rfl⟩)
def QEncA (Z : State) (p0 p2 : Int32) (o1 : Addr) (g : Nat → Int32) (h0 : Heap) (n0 : Nat) (v : Option Value) (h : Heap) (L : List Loc) : Prop :=
  ∃ le g', v = some (.int le) ∧ Fr n0 L ∧ Keep h0 h [o1] ∧ IA Z h o1 .byte 9 (fun k => .int (g' k)) ∧ EncA p0 p2 g le g'
set_option maxRecDepth 65536 in
set_option maxHeartbeats 40000000 in
theorem rm6 (l : Launch) (Z : State) (a0 : Array Value) (hw : ∀ d ∈ tables_1, d.before a0 Z = true) (ws : List Jvm.Cond) (p0 : Int32) (o1 : Addr) (p2 : Int32) (g : Nat → Int32) (h0 : Heap) (n0 : Nat) (Z0 : n0 ≤ h0.size) (A_d : IA Z h0 o1 .byte 9 (fun k => .int (g k))) (g_o1 : n0 ≤ o1) (ho : ∃ k : Fin 4, p2 = Int32.ofNat k.val) :
    MetFree l (⟨"com/example/ucs_to_octets/ucstooctets/Utf8", "encodeAboveFourOctets", "(I[BI)I"⟩ : MethodName) (head1 (Jvm.Cond.code (⟨"com/example/ucs_to_octets/ucstooctets/Utf8", "encodeAboveFourOctets", "(I[BI)I"⟩ : MethodName) prog_32_method_4_code 4 (some .int) :: ws) ({ frames := 0, cells := 0, slots := 0, locals := 0 } : Room)) (fun a U => a = #[(.int p0), (.ref o1), (.int p2)] ∧ Z.Warmed39 U.vm ∧ U.heap = h0) (fun _ _ _ _ _ => True) (fun _ U o U' => ∃ v L, o = .returned v ∧ (QEncA Z p0 p2 o1 g h0 n0) v U'.heap L ∧ FrameEnd U o U' L ({ frames := 0, cells := 0, slots := 0, locals := 0 } : Room).cells ({ frames := 0, cells := 0, slots := 0, locals := 0 } : Room).slots) := by
  refine MetFree.of_bodySF (plainFor_of_name pn_6) hisR ?_
  intro p e s m args below meth c s₁ Bd hml0 hP hK
  obtain ⟨rfl, hZ, hh⟩ := hP
  have hx := Bd.exec
  have hby := Bd.bytes
  have hlk : meth.locks = false := BodyLoose.notSynchronized Bd
  have hml : c.maxLocals = 4 := hml0
  have hown : s.vm.findClass "com/example/ucs_to_octets/ucstooctets/Utf8" = some m.cls := findClass_of_methodNamed Bd.named
  have hnm := (name_of_methodNamed Bd.named Bd.method).1
  have X0 : Stand p l e ({ frames := 0, cells := 0, slots := 0, locals := 0 } : Room) s m #[(.int p0), (.ref o1), (.int p2)] below meth c s₁ ([] : List Loc) 0 0 := Stand.of_body Bd
  have e0 : s₁.heap = h0 := by rw [← hh, Bd.state]; rfl
  show Go p e below s 0 0 (QEncA Z p0 p2 o1 g h0 n0) s₁ (entryFrame m #[(.int p0), (.ref o1), (.int p2)] 4)
  rw [ef_6 m p0 o1 p2]
  have N0 := Fr.nil n0
  refine Go.step (g' := (mkF m 1 #[.val (.int p0), .val (.ref o1), .val (.int p2), .unset] [(.int p0)])) (fun _ k => XS.iloadN X0.here hx rfl (hb hby d6_0) rfl  k) ?_
  refine Go.step (g' := (mkF m 3 #[.val (.int p0), .val (.ref o1), .val (.int p2), .unset] [(.int (67108864 : Int32)), (.int p0)])) (fun _ k => X0.ldcI hx hown (mvT hZ (hw _ (List.mem_of_getElem? (i := 40) rfl))) rfl (hb hby d6_1) k) ?_
  by_cases hc3 : p0 < (67108864 : Int32)
  · skip
    refine Go.step (g' := (mkF m 6 #[.val (.int p0), .val (.ref o1), .val (.int p2), .unset] [])) (fun _ k => XS.icmpNo X0.here hx rfl (hb hby d6_3) rfl (tlt hc3).2.1 k) ?_
    refine Go.step (g' := (mkF m 7 #[.val (.int p0), .val (.ref o1), .val (.int p2), .unset] [(.ref o1)])) (fun _ k => XS.aloadN X0.here hx rfl (hb hby d6_6) rfl rfl  k) ?_
    refine Go.step (g' := (mkF m 8 #[.val (.int p0), .val (.ref o1), .val (.int p2), .unset] [(.int p2), (.ref o1)])) (fun _ k => XS.iloadN X0.here hx rfl (hb hby d6_7) rfl  k) ?_
    refine Go.step (g' := (mkF m 9 #[.val (.int p0), .val (.ref o1), .val (.int p2), .unset] [(.int (4 : Int32)), (.int p2), (.ref o1)])) (fun _ k => XS.iconst X0.here hx rfl (hb hby d6_8) k) ?_
    refine Go.step (g' := (mkF m 10 #[.val (.int p0), .val (.ref o1), .val (.int p2), .unset] [(.int (p2 + (4 : Int32))), (.ref o1)])) (fun _ k => XS.iadd X0.here hx rfl (hb hby d6_9) rfl k) ?_
    refine Go.step (g' := (mkF m 13 #[.val (.int p0), .val (.ref o1), .val (.int p2), .unset] [(.int (128 : Int32)), (.int (p2 + (4 : Int32))), (.ref o1)])) (fun _ k => XS.sipush X0.here hx rfl (hb hby d6_10) k) ?_
    refine Go.step (g' := (mkF m 14 #[.val (.int p0), .val (.ref o1), .val (.int p2), .unset] [(.int p0), (.int (128 : Int32)), (.int (p2 + (4 : Int32))), (.ref o1)])) (fun _ k => XS.iloadN X0.here hx rfl (hb hby d6_13) rfl  k) ?_
    refine Go.step (g' := (mkF m 16 #[.val (.int p0), .val (.ref o1), .val (.int p2), .unset] [(.int (63 : Int32)), (.int p0), (.int (128 : Int32)), (.int (p2 + (4 : Int32))), (.ref o1)])) (fun _ k => XS.bipush X0.here hx rfl (hb hby d6_14) k) ?_
    refine Go.step (g' := (mkF m 17 #[.val (.int p0), .val (.ref o1), .val (.int p2), .unset] [(.int (p0 &&& (63 : Int32))), (.int (128 : Int32)), (.int (p2 + (4 : Int32))), (.ref o1)])) (fun _ k => XS.iand X0.here hx rfl (hb hby d6_16) rfl k) ?_
    refine Go.step (g' := (mkF m 18 #[.val (.int p0), .val (.ref o1), .val (.int p2), .unset] [(.int ((128 : Int32) ||| (p0 &&& (63 : Int32)))), (.int (p2 + (4 : Int32))), (.ref o1)])) (fun _ k => XS.ior X0.here hx rfl (hb hby d6_17) rfl k) ?_
    refine Go.step (g' := (mkF m 19 #[.val (.int p0), .val (.ref o1), .val (.int p2), .unset] [(.int (((128 : Int32) ||| (p0 &&& (63 : Int32))).toInt8.toInt32)), (.int (p2 + (4 : Int32))), (.ref o1)])) (fun _ k => XS.i2b X0.here hx rfl (hb hby d6_18) rfl k) ?_
    obtain ⟨T1, h1, lc1, X1, e1, W1, N1, V1, st1⟩ := putAB X0 hx hZ e0 A_d (j := (p2 + (4 : Int32))) (own_ix ho 4) N0 g_o1 (gf := (mkF m 19 #[.val (.int p0), .val (.ref o1), .val (.int p2), .unset] [(.int (((128 : Int32) ||| (p0 &&& (63 : Int32))).toInt8.toInt32)), (.int (p2 + (4 : Int32))), (.ref o1)])) rfl rfl (hb hby d6_19)
    refine Go.step (g' := (mkF m 20 #[.val (.int p0), .val (.ref o1), .val (.int p2), .unset] [])) st1 ?_
    have Q2 := ((Keep.refl h0 [o1]).wr W1 (Or.inl (List.mem_of_getElem? (i := 0) rfl)))
    refine Go.step (g' := (mkF m 21 #[.val (.int p0), .val (.ref o1), .val (.int p2), .unset] [(.ref o1)])) (fun _ k => XS.aloadN X1.here hx rfl (hb hby d6_20) rfl rfl  k) ?_
    refine Go.step (g' := (mkF m 22 #[.val (.int p0), .val (.ref o1), .val (.int p2), .unset] [(.int p2), (.ref o1)])) (fun _ k => XS.iloadN X1.here hx rfl (hb hby d6_21) rfl  k) ?_
    refine Go.step (g' := (mkF m 23 #[.val (.int p0), .val (.ref o1), .val (.int p2), .unset] [(.int (3 : Int32)), (.int p2), (.ref o1)])) (fun _ k => XS.iconst X1.here hx rfl (hb hby d6_22) k) ?_
    refine Go.step (g' := (mkF m 24 #[.val (.int p0), .val (.ref o1), .val (.int p2), .unset] [(.int (p2 + (3 : Int32))), (.ref o1)])) (fun _ k => XS.iadd X1.here hx rfl (hb hby d6_23) rfl k) ?_
    refine Go.step (g' := (mkF m 27 #[.val (.int p0), .val (.ref o1), .val (.int p2), .unset] [(.int (128 : Int32)), (.int (p2 + (3 : Int32))), (.ref o1)])) (fun _ k => XS.sipush X1.here hx rfl (hb hby d6_24) k) ?_
    refine Go.step (g' := (mkF m 28 #[.val (.int p0), .val (.ref o1), .val (.int p2), .unset] [(.int p0), (.int (128 : Int32)), (.int (p2 + (3 : Int32))), (.ref o1)])) (fun _ k => XS.iloadN X1.here hx rfl (hb hby d6_27) rfl  k) ?_
    refine Go.step (g' := (mkF m 30 #[.val (.int p0), .val (.ref o1), .val (.int p2), .unset] [(.int (6 : Int32)), (.int p0), (.int (128 : Int32)), (.int (p2 + (3 : Int32))), (.ref o1)])) (fun _ k => XS.bipush X1.here hx rfl (hb hby d6_28) k) ?_
    refine Go.step (g' := (mkF m 31 #[.val (.int p0), .val (.ref o1), .val (.int p2), .unset] [(.int ((p0.toUInt32 >>> ((6 : Int32) &&& 31).toUInt32).toInt32)), (.int (128 : Int32)), (.int (p2 + (3 : Int32))), (.ref o1)])) (fun _ k => XS.iushr X1.here hx rfl (hb hby d6_30) rfl k) ?_
    refine Go.step (g' := (mkF m 33 #[.val (.int p0), .val (.ref o1), .val (.int p2), .unset] [(.int (63 : Int32)), (.int ((p0.toUInt32 >>> ((6 : Int32) &&& 31).toUInt32).toInt32)), (.int (128 : Int32)), (.int (p2 + (3 : Int32))), (.ref o1)])) (fun _ k => XS.bipush X1.here hx rfl (hb hby d6_31) k) ?_
    refine Go.step (g' := (mkF m 34 #[.val (.int p0), .val (.ref o1), .val (.int p2), .unset] [(.int (((p0.toUInt32 >>> ((6 : Int32) &&& 31).toUInt32).toInt32) &&& (63 : Int32))), (.int (128 : Int32)), (.int (p2 + (3 : Int32))), (.ref o1)])) (fun _ k => XS.iand X1.here hx rfl (hb hby d6_33) rfl k) ?_
    refine Go.step (g' := (mkF m 35 #[.val (.int p0), .val (.ref o1), .val (.int p2), .unset] [(.int ((128 : Int32) ||| (((p0.toUInt32 >>> ((6 : Int32) &&& 31).toUInt32).toInt32) &&& (63 : Int32)))), (.int (p2 + (3 : Int32))), (.ref o1)])) (fun _ k => XS.ior X1.here hx rfl (hb hby d6_34) rfl k) ?_
    refine Go.step (g' := (mkF m 36 #[.val (.int p0), .val (.ref o1), .val (.int p2), .unset] [(.int (((128 : Int32) ||| (((p0.toUInt32 >>> ((6 : Int32) &&& 31).toUInt32).toInt32) &&& (63 : Int32))).toInt8.toInt32)), (.int (p2 + (3 : Int32))), (.ref o1)])) (fun _ k => XS.i2b X1.here hx rfl (hb hby d6_35) rfl k) ?_
    obtain ⟨T3, h3, lc3, X3, e3, W3, N3, V3, st3⟩ := putAB X1 hx hZ e1 V1 (j := (p2 + (3 : Int32))) (own_ix ho 3) N1 g_o1 (gf := (mkF m 36 #[.val (.int p0), .val (.ref o1), .val (.int p2), .unset] [(.int (((128 : Int32) ||| (((p0.toUInt32 >>> ((6 : Int32) &&& 31).toUInt32).toInt32) &&& (63 : Int32))).toInt8.toInt32)), (.int (p2 + (3 : Int32))), (.ref o1)])) rfl rfl (hb hby d6_36)
    refine Go.step (g' := (mkF m 37 #[.val (.int p0), .val (.ref o1), .val (.int p2), .unset] [])) st3 ?_
    have Q4 := (Nat.le_trans (Nat.le_trans Z0 (Keep.of_wr W1).1) (Keep.of_wr W3).1)
    refine Go.step (g' := (mkF m 38 #[.val (.int p0), .val (.ref o1), .val (.int p2), .unset] [(.ref o1)])) (fun _ k => XS.aloadN X3.here hx rfl (hb hby d6_37) rfl rfl  k) ?_
    refine Go.step (g' := (mkF m 39 #[.val (.int p0), .val (.ref o1), .val (.int p2), .unset] [(.int p2), (.ref o1)])) (fun _ k => XS.iloadN X3.here hx rfl (hb hby d6_38) rfl  k) ?_
    refine Go.step (g' := (mkF m 40 #[.val (.int p0), .val (.ref o1), .val (.int p2), .unset] [(.int (2 : Int32)), (.int p2), (.ref o1)])) (fun _ k => XS.iconst X3.here hx rfl (hb hby d6_39) k) ?_
    refine Go.step (g' := (mkF m 41 #[.val (.int p0), .val (.ref o1), .val (.int p2), .unset] [(.int (p2 + (2 : Int32))), (.ref o1)])) (fun _ k => XS.iadd X3.here hx rfl (hb hby d6_40) rfl k) ?_
    refine Go.step (g' := (mkF m 44 #[.val (.int p0), .val (.ref o1), .val (.int p2), .unset] [(.int (128 : Int32)), (.int (p2 + (2 : Int32))), (.ref o1)])) (fun _ k => XS.sipush X3.here hx rfl (hb hby d6_41) k) ?_
    refine Go.step (g' := (mkF m 45 #[.val (.int p0), .val (.ref o1), .val (.int p2), .unset] [(.int p0), (.int (128 : Int32)), (.int (p2 + (2 : Int32))), (.ref o1)])) (fun _ k => XS.iloadN X3.here hx rfl (hb hby d6_44) rfl  k) ?_
    refine Go.step (g' := (mkF m 47 #[.val (.int p0), .val (.ref o1), .val (.int p2), .unset] [(.int (12 : Int32)), (.int p0), (.int (128 : Int32)), (.int (p2 + (2 : Int32))), (.ref o1)])) (fun _ k => XS.bipush X3.here hx rfl (hb hby d6_45) k) ?_
    refine Go.step (g' := (mkF m 48 #[.val (.int p0), .val (.ref o1), .val (.int p2), .unset] [(.int ((p0.toUInt32 >>> ((12 : Int32) &&& 31).toUInt32).toInt32)), (.int (128 : Int32)), (.int (p2 + (2 : Int32))), (.ref o1)])) (fun _ k => XS.iushr X3.here hx rfl (hb hby d6_47) rfl k) ?_
    refine Go.step (g' := (mkF m 50 #[.val (.int p0), .val (.ref o1), .val (.int p2), .unset] [(.int (63 : Int32)), (.int ((p0.toUInt32 >>> ((12 : Int32) &&& 31).toUInt32).toInt32)), (.int (128 : Int32)), (.int (p2 + (2 : Int32))), (.ref o1)])) (fun _ k => XS.bipush X3.here hx rfl (hb hby d6_48) k) ?_
    refine Go.step (g' := (mkF m 51 #[.val (.int p0), .val (.ref o1), .val (.int p2), .unset] [(.int (((p0.toUInt32 >>> ((12 : Int32) &&& 31).toUInt32).toInt32) &&& (63 : Int32))), (.int (128 : Int32)), (.int (p2 + (2 : Int32))), (.ref o1)])) (fun _ k => XS.iand X3.here hx rfl (hb hby d6_50) rfl k) ?_
    refine Go.step (g' := (mkF m 52 #[.val (.int p0), .val (.ref o1), .val (.int p2), .unset] [(.int ((128 : Int32) ||| (((p0.toUInt32 >>> ((12 : Int32) &&& 31).toUInt32).toInt32) &&& (63 : Int32)))), (.int (p2 + (2 : Int32))), (.ref o1)])) (fun _ k => XS.ior X3.here hx rfl (hb hby d6_51) rfl k) ?_
    refine Go.step (g' := (mkF m 53 #[.val (.int p0), .val (.ref o1), .val (.int p2), .unset] [(.int (((128 : Int32) ||| (((p0.toUInt32 >>> ((12 : Int32) &&& 31).toUInt32).toInt32) &&& (63 : Int32))).toInt8.toInt32)), (.int (p2 + (2 : Int32))), (.ref o1)])) (fun _ k => XS.i2b X3.here hx rfl (hb hby d6_52) rfl k) ?_
    obtain ⟨T5, h5, lc5, X5, e5, W5, N5, V5, st5⟩ := putAB X3 hx hZ e3 V3 (j := (p2 + (2 : Int32))) (own_ix ho 2) N3 g_o1 (gf := (mkF m 53 #[.val (.int p0), .val (.ref o1), .val (.int p2), .unset] [(.int (((128 : Int32) ||| (((p0.toUInt32 >>> ((12 : Int32) &&& 31).toUInt32).toInt32) &&& (63 : Int32))).toInt8.toInt32)), (.int (p2 + (2 : Int32))), (.ref o1)])) rfl rfl (hb hby d6_53)
    refine Go.step (g' := (mkF m 54 #[.val (.int p0), .val (.ref o1), .val (.int p2), .unset] [])) st5 ?_
    have Q6 := ((Q2.wr W3 (Or.inl (List.mem_of_getElem? (i := 0) rfl))).wr W5 (Or.inl (List.mem_of_getElem? (i := 0) rfl)))
    refine Go.step (g' := (mkF m 55 #[.val (.int p0), .val (.ref o1), .val (.int p2), .unset] [(.ref o1)])) (fun _ k => XS.aloadN X5.here hx rfl (hb hby d6_54) rfl rfl  k) ?_
    refine Go.step (g' := (mkF m 56 #[.val (.int p0), .val (.ref o1), .val (.int p2), .unset] [(.int p2), (.ref o1)])) (fun _ k => XS.iloadN X5.here hx rfl (hb hby d6_55) rfl  k) ?_
    refine Go.step (g' := (mkF m 57 #[.val (.int p0), .val (.ref o1), .val (.int p2), .unset] [(.int (1 : Int32)), (.int p2), (.ref o1)])) (fun _ k => XS.iconst X5.here hx rfl (hb hby d6_56) k) ?_
    refine Go.step (g' := (mkF m 58 #[.val (.int p0), .val (.ref o1), .val (.int p2), .unset] [(.int (p2 + (1 : Int32))), (.ref o1)])) (fun _ k => XS.iadd X5.here hx rfl (hb hby d6_57) rfl k) ?_
    refine Go.step (g' := (mkF m 61 #[.val (.int p0), .val (.ref o1), .val (.int p2), .unset] [(.int (128 : Int32)), (.int (p2 + (1 : Int32))), (.ref o1)])) (fun _ k => XS.sipush X5.here hx rfl (hb hby d6_58) k) ?_
    refine Go.step (g' := (mkF m 62 #[.val (.int p0), .val (.ref o1), .val (.int p2), .unset] [(.int p0), (.int (128 : Int32)), (.int (p2 + (1 : Int32))), (.ref o1)])) (fun _ k => XS.iloadN X5.here hx rfl (hb hby d6_61) rfl  k) ?_
    refine Go.step (g' := (mkF m 64 #[.val (.int p0), .val (.ref o1), .val (.int p2), .unset] [(.int (18 : Int32)), (.int p0), (.int (128 : Int32)), (.int (p2 + (1 : Int32))), (.ref o1)])) (fun _ k => XS.bipush X5.here hx rfl (hb hby d6_62) k) ?_
    refine Go.step (g' := (mkF m 65 #[.val (.int p0), .val (.ref o1), .val (.int p2), .unset] [(.int ((p0.toUInt32 >>> ((18 : Int32) &&& 31).toUInt32).toInt32)), (.int (128 : Int32)), (.int (p2 + (1 : Int32))), (.ref o1)])) (fun _ k => XS.iushr X5.here hx rfl (hb hby d6_64) rfl k) ?_
    refine Go.step (g' := (mkF m 67 #[.val (.int p0), .val (.ref o1), .val (.int p2), .unset] [(.int (63 : Int32)), (.int ((p0.toUInt32 >>> ((18 : Int32) &&& 31).toUInt32).toInt32)), (.int (128 : Int32)), (.int (p2 + (1 : Int32))), (.ref o1)])) (fun _ k => XS.bipush X5.here hx rfl (hb hby d6_65) k) ?_
    refine Go.step (g' := (mkF m 68 #[.val (.int p0), .val (.ref o1), .val (.int p2), .unset] [(.int (((p0.toUInt32 >>> ((18 : Int32) &&& 31).toUInt32).toInt32) &&& (63 : Int32))), (.int (128 : Int32)), (.int (p2 + (1 : Int32))), (.ref o1)])) (fun _ k => XS.iand X5.here hx rfl (hb hby d6_67) rfl k) ?_
    refine Go.step (g' := (mkF m 69 #[.val (.int p0), .val (.ref o1), .val (.int p2), .unset] [(.int ((128 : Int32) ||| (((p0.toUInt32 >>> ((18 : Int32) &&& 31).toUInt32).toInt32) &&& (63 : Int32)))), (.int (p2 + (1 : Int32))), (.ref o1)])) (fun _ k => XS.ior X5.here hx rfl (hb hby d6_68) rfl k) ?_
    refine Go.step (g' := (mkF m 70 #[.val (.int p0), .val (.ref o1), .val (.int p2), .unset] [(.int (((128 : Int32) ||| (((p0.toUInt32 >>> ((18 : Int32) &&& 31).toUInt32).toInt32) &&& (63 : Int32))).toInt8.toInt32)), (.int (p2 + (1 : Int32))), (.ref o1)])) (fun _ k => XS.i2b X5.here hx rfl (hb hby d6_69) rfl k) ?_
    obtain ⟨T7, h7, lc7, X7, e7, W7, N7, V7, st7⟩ := putAB X5 hx hZ e5 V5 (j := (p2 + (1 : Int32))) (own_ix ho 1) N5 g_o1 (gf := (mkF m 70 #[.val (.int p0), .val (.ref o1), .val (.int p2), .unset] [(.int (((128 : Int32) ||| (((p0.toUInt32 >>> ((18 : Int32) &&& 31).toUInt32).toInt32) &&& (63 : Int32))).toInt8.toInt32)), (.int (p2 + (1 : Int32))), (.ref o1)])) rfl rfl (hb hby d6_70)
    refine Go.step (g' := (mkF m 71 #[.val (.int p0), .val (.ref o1), .val (.int p2), .unset] [])) st7 ?_
    have Q8 := (Nat.le_trans (Nat.le_trans Q4 (Keep.of_wr W5).1) (Keep.of_wr W7).1)
    refine Go.step (g' := (mkF m 72 #[.val (.int p0), .val (.ref o1), .val (.int p2), .unset] [(.ref o1)])) (fun _ k => XS.aloadN X7.here hx rfl (hb hby d6_71) rfl rfl  k) ?_
    refine Go.step (g' := (mkF m 73 #[.val (.int p0), .val (.ref o1), .val (.int p2), .unset] [(.int p2), (.ref o1)])) (fun _ k => XS.iloadN X7.here hx rfl (hb hby d6_72) rfl  k) ?_
    refine Go.step (g' := (mkF m 76 #[.val (.int p0), .val (.ref o1), .val (.int p2), .unset] [(.int (248 : Int32)), (.int p2), (.ref o1)])) (fun _ k => XS.sipush X7.here hx rfl (hb hby d6_73) k) ?_
    refine Go.step (g' := (mkF m 77 #[.val (.int p0), .val (.ref o1), .val (.int p2), .unset] [(.int p0), (.int (248 : Int32)), (.int p2), (.ref o1)])) (fun _ k => XS.iloadN X7.here hx rfl (hb hby d6_76) rfl  k) ?_
    refine Go.step (g' := (mkF m 79 #[.val (.int p0), .val (.ref o1), .val (.int p2), .unset] [(.int (24 : Int32)), (.int p0), (.int (248 : Int32)), (.int p2), (.ref o1)])) (fun _ k => XS.bipush X7.here hx rfl (hb hby d6_77) k) ?_
    refine Go.step (g' := (mkF m 80 #[.val (.int p0), .val (.ref o1), .val (.int p2), .unset] [(.int ((p0.toUInt32 >>> ((24 : Int32) &&& 31).toUInt32).toInt32)), (.int (248 : Int32)), (.int p2), (.ref o1)])) (fun _ k => XS.iushr X7.here hx rfl (hb hby d6_79) rfl k) ?_
    refine Go.step (g' := (mkF m 81 #[.val (.int p0), .val (.ref o1), .val (.int p2), .unset] [(.int ((248 : Int32) ||| ((p0.toUInt32 >>> ((24 : Int32) &&& 31).toUInt32).toInt32))), (.int p2), (.ref o1)])) (fun _ k => XS.ior X7.here hx rfl (hb hby d6_80) rfl k) ?_
    refine Go.step (g' := (mkF m 82 #[.val (.int p0), .val (.ref o1), .val (.int p2), .unset] [(.int (((248 : Int32) ||| ((p0.toUInt32 >>> ((24 : Int32) &&& 31).toUInt32).toInt32)).toInt8.toInt32)), (.int p2), (.ref o1)])) (fun _ k => XS.i2b X7.here hx rfl (hb hby d6_81) rfl k) ?_
    obtain ⟨T9, h9, lc9, X9, e9, W9, N9, V9, st9⟩ := putAB X7 hx hZ e7 V7 (j := p2) (own_ix0 ho) N7 g_o1 (gf := (mkF m 82 #[.val (.int p0), .val (.ref o1), .val (.int p2), .unset] [(.int (((248 : Int32) ||| ((p0.toUInt32 >>> ((24 : Int32) &&& 31).toUInt32).toInt32)).toInt8.toInt32)), (.int p2), (.ref o1)])) rfl rfl (hb hby d6_82)
    refine Go.step (g' := (mkF m 83 #[.val (.int p0), .val (.ref o1), .val (.int p2), .unset] [])) st9 ?_
    have Q10 := ((Q6.wr W7 (Or.inl (List.mem_of_getElem? (i := 0) rfl))).wr W9 (Or.inl (List.mem_of_getElem? (i := 0) rfl)))
    refine Go.step (g' := (mkF m 84 #[.val (.int p0), .val (.ref o1), .val (.int p2), .unset] [(.int (5 : Int32))])) (fun _ k => XS.iconst X9.here hx rfl (hb hby d6_83) k) ?_
    refine Go.step (g' := (mkF m 85 #[.val (.int p0), .val (.ref o1), .val (.int p2), .val (.int (5 : Int32))] [])) (fun _ k => XS.istoreN X9.here hx rfl (hb hby d6_84) rfl (l' := #[.val (.int p0), .val (.ref o1), .val (.int p2), .val (.int (5 : Int32))]) rfl k) ?_
    refine Go.step (g' := (mkF m 185 #[.val (.int p0), .val (.ref o1), .val (.int p2), .val (.int (5 : Int32))] [])) (fun _ k => XS.goto X9.here hx rfl (pc0 := 85) (pc' := 185) rfl (hb hby d6_85) (by decide) (by decide) k) ?_
    skip
    refine Go.step (g' := (mkF m 186 #[.val (.int p0), .val (.ref o1), .val (.int p2), .val (.int (5 : Int32))] [(.int (5 : Int32))])) (fun _ k => XS.iloadN X9.here hx rfl (hb hby d6_185) rfl  k) ?_
    exact Go.retW X9 hx hlk (t := .int) Bd.returns rfl (Or.inl ⟨rfl, Or.inl rfl, _, rfl⟩) (hb hby d6_186) (by decide) (by decide) (by rw [e9]; exact ⟨_, _, rfl, N9, Q10, V9, (EncA.c5 (by assumption))⟩)
  · skip
    refine Go.step (g' := (mkF m 88 #[.val (.int p0), .val (.ref o1), .val (.int p2), .unset] [])) (fun _ k => XS.icmpYes X0.here hx rfl (pc0 := 3) (pc' := 88) rfl (hb hby d6_3) rfl (flt hc3).2.1 (by decide) (by decide) k) ?_
    refine Go.step (g' := (mkF m 89 #[.val (.int p0), .val (.ref o1), .val (.int p2), .unset] [(.ref o1)])) (fun _ k => XS.aloadN X0.here hx rfl (hb hby d6_88) rfl rfl  k) ?_
    refine Go.step (g' := (mkF m 90 #[.val (.int p0), .val (.ref o1), .val (.int p2), .unset] [(.int p2), (.ref o1)])) (fun _ k => XS.iloadN X0.here hx rfl (hb hby d6_89) rfl  k) ?_
    refine Go.step (g' := (mkF m 91 #[.val (.int p0), .val (.ref o1), .val (.int p2), .unset] [(.int (5 : Int32)), (.int p2), (.ref o1)])) (fun _ k => XS.iconst X0.here hx rfl (hb hby d6_90) k) ?_
    refine Go.step (g' := (mkF m 92 #[.val (.int p0), .val (.ref o1), .val (.int p2), .unset] [(.int (p2 + (5 : Int32))), (.ref o1)])) (fun _ k => XS.iadd X0.here hx rfl (hb hby d6_91) rfl k) ?_
    refine Go.step (g' := (mkF m 95 #[.val (.int p0), .val (.ref o1), .val (.int p2), .unset] [(.int (128 : Int32)), (.int (p2 + (5 : Int32))), (.ref o1)])) (fun _ k => XS.sipush X0.here hx rfl (hb hby d6_92) k) ?_
    refine Go.step (g' := (mkF m 96 #[.val (.int p0), .val (.ref o1), .val (.int p2), .unset] [(.int p0), (.int (128 : Int32)), (.int (p2 + (5 : Int32))), (.ref o1)])) (fun _ k => XS.iloadN X0.here hx rfl (hb hby d6_95) rfl  k) ?_
    refine Go.step (g' := (mkF m 98 #[.val (.int p0), .val (.ref o1), .val (.int p2), .unset] [(.int (63 : Int32)), (.int p0), (.int (128 : Int32)), (.int (p2 + (5 : Int32))), (.ref o1)])) (fun _ k => XS.bipush X0.here hx rfl (hb hby d6_96) k) ?_
    refine Go.step (g' := (mkF m 99 #[.val (.int p0), .val (.ref o1), .val (.int p2), .unset] [(.int (p0 &&& (63 : Int32))), (.int (128 : Int32)), (.int (p2 + (5 : Int32))), (.ref o1)])) (fun _ k => XS.iand X0.here hx rfl (hb hby d6_98) rfl k) ?_
    refine Go.step (g' := (mkF m 100 #[.val (.int p0), .val (.ref o1), .val (.int p2), .unset] [(.int ((128 : Int32) ||| (p0 &&& (63 : Int32)))), (.int (p2 + (5 : Int32))), (.ref o1)])) (fun _ k => XS.ior X0.here hx rfl (hb hby d6_99) rfl k) ?_
    refine Go.step (g' := (mkF m 101 #[.val (.int p0), .val (.ref o1), .val (.int p2), .unset] [(.int (((128 : Int32) ||| (p0 &&& (63 : Int32))).toInt8.toInt32)), (.int (p2 + (5 : Int32))), (.ref o1)])) (fun _ k => XS.i2b X0.here hx rfl (hb hby d6_100) rfl k) ?_
    obtain ⟨T11, h11, lc11, X11, e11, W11, N11, V11, st11⟩ := putAB X0 hx hZ e0 A_d (j := (p2 + (5 : Int32))) (own_ix ho 5) N0 g_o1 (gf := (mkF m 101 #[.val (.int p0), .val (.ref o1), .val (.int p2), .unset] [(.int (((128 : Int32) ||| (p0 &&& (63 : Int32))).toInt8.toInt32)), (.int (p2 + (5 : Int32))), (.ref o1)])) rfl rfl (hb hby d6_101)
    refine Go.step (g' := (mkF m 102 #[.val (.int p0), .val (.ref o1), .val (.int p2), .unset] [])) st11 ?_
    have Q12 := ((Keep.refl h0 [o1]).wr W11 (Or.inl (List.mem_of_getElem? (i := 0) rfl)))
    refine Go.step (g' := (mkF m 103 #[.val (.int p0), .val (.ref o1), .val (.int p2), .unset] [(.ref o1)])) (fun _ k => XS.aloadN X11.here hx rfl (hb hby d6_102) rfl rfl  k) ?_
    refine Go.step (g' := (mkF m 104 #[.val (.int p0), .val (.ref o1), .val (.int p2), .unset] [(.int p2), (.ref o1)])) (fun _ k => XS.iloadN X11.here hx rfl (hb hby d6_103) rfl  k) ?_
    refine Go.step (g' := (mkF m 105 #[.val (.int p0), .val (.ref o1), .val (.int p2), .unset] [(.int (4 : Int32)), (.int p2), (.ref o1)])) (fun _ k => XS.iconst X11.here hx rfl (hb hby d6_104) k) ?_
    refine Go.step (g' := (mkF m 106 #[.val (.int p0), .val (.ref o1), .val (.int p2), .unset] [(.int (p2 + (4 : Int32))), (.ref o1)])) (fun _ k => XS.iadd X11.here hx rfl (hb hby d6_105) rfl k) ?_
    refine Go.step (g' := (mkF m 109 #[.val (.int p0), .val (.ref o1), .val (.int p2), .unset] [(.int (128 : Int32)), (.int (p2 + (4 : Int32))), (.ref o1)])) (fun _ k => XS.sipush X11.here hx rfl (hb hby d6_106) k) ?_
    refine Go.step (g' := (mkF m 110 #[.val (.int p0), .val (.ref o1), .val (.int p2), .unset] [(.int p0), (.int (128 : Int32)), (.int (p2 + (4 : Int32))), (.ref o1)])) (fun _ k => XS.iloadN X11.here hx rfl (hb hby d6_109) rfl  k) ?_
    refine Go.step (g' := (mkF m 112 #[.val (.int p0), .val (.ref o1), .val (.int p2), .unset] [(.int (6 : Int32)), (.int p0), (.int (128 : Int32)), (.int (p2 + (4 : Int32))), (.ref o1)])) (fun _ k => XS.bipush X11.here hx rfl (hb hby d6_110) k) ?_
    refine Go.step (g' := (mkF m 113 #[.val (.int p0), .val (.ref o1), .val (.int p2), .unset] [(.int ((p0.toUInt32 >>> ((6 : Int32) &&& 31).toUInt32).toInt32)), (.int (128 : Int32)), (.int (p2 + (4 : Int32))), (.ref o1)])) (fun _ k => XS.iushr X11.here hx rfl (hb hby d6_112) rfl k) ?_
    refine Go.step (g' := (mkF m 115 #[.val (.int p0), .val (.ref o1), .val (.int p2), .unset] [(.int (63 : Int32)), (.int ((p0.toUInt32 >>> ((6 : Int32) &&& 31).toUInt32).toInt32)), (.int (128 : Int32)), (.int (p2 + (4 : Int32))), (.ref o1)])) (fun _ k => XS.bipush X11.here hx rfl (hb hby d6_113) k) ?_
    refine Go.step (g' := (mkF m 116 #[.val (.int p0), .val (.ref o1), .val (.int p2), .unset] [(.int (((p0.toUInt32 >>> ((6 : Int32) &&& 31).toUInt32).toInt32) &&& (63 : Int32))), (.int (128 : Int32)), (.int (p2 + (4 : Int32))), (.ref o1)])) (fun _ k => XS.iand X11.here hx rfl (hb hby d6_115) rfl k) ?_
    refine Go.step (g' := (mkF m 117 #[.val (.int p0), .val (.ref o1), .val (.int p2), .unset] [(.int ((128 : Int32) ||| (((p0.toUInt32 >>> ((6 : Int32) &&& 31).toUInt32).toInt32) &&& (63 : Int32)))), (.int (p2 + (4 : Int32))), (.ref o1)])) (fun _ k => XS.ior X11.here hx rfl (hb hby d6_116) rfl k) ?_
    refine Go.step (g' := (mkF m 118 #[.val (.int p0), .val (.ref o1), .val (.int p2), .unset] [(.int (((128 : Int32) ||| (((p0.toUInt32 >>> ((6 : Int32) &&& 31).toUInt32).toInt32) &&& (63 : Int32))).toInt8.toInt32)), (.int (p2 + (4 : Int32))), (.ref o1)])) (fun _ k => XS.i2b X11.here hx rfl (hb hby d6_117) rfl k) ?_
    obtain ⟨T13, h13, lc13, X13, e13, W13, N13, V13, st13⟩ := putAB X11 hx hZ e11 V11 (j := (p2 + (4 : Int32))) (own_ix ho 4) N11 g_o1 (gf := (mkF m 118 #[.val (.int p0), .val (.ref o1), .val (.int p2), .unset] [(.int (((128 : Int32) ||| (((p0.toUInt32 >>> ((6 : Int32) &&& 31).toUInt32).toInt32) &&& (63 : Int32))).toInt8.toInt32)), (.int (p2 + (4 : Int32))), (.ref o1)])) rfl rfl (hb hby d6_118)
    refine Go.step (g' := (mkF m 119 #[.val (.int p0), .val (.ref o1), .val (.int p2), .unset] [])) st13 ?_
    have Q14 := (Nat.le_trans (Nat.le_trans Z0 (Keep.of_wr W11).1) (Keep.of_wr W13).1)
    refine Go.step (g' := (mkF m 120 #[.val (.int p0), .val (.ref o1), .val (.int p2), .unset] [(.ref o1)])) (fun _ k => XS.aloadN X13.here hx rfl (hb hby d6_119) rfl rfl  k) ?_
    refine Go.step (g' := (mkF m 121 #[.val (.int p0), .val (.ref o1), .val (.int p2), .unset] [(.int p2), (.ref o1)])) (fun _ k => XS.iloadN X13.here hx rfl (hb hby d6_120) rfl  k) ?_
    refine Go.step (g' := (mkF m 122 #[.val (.int p0), .val (.ref o1), .val (.int p2), .unset] [(.int (3 : Int32)), (.int p2), (.ref o1)])) (fun _ k => XS.iconst X13.here hx rfl (hb hby d6_121) k) ?_
    refine Go.step (g' := (mkF m 123 #[.val (.int p0), .val (.ref o1), .val (.int p2), .unset] [(.int (p2 + (3 : Int32))), (.ref o1)])) (fun _ k => XS.iadd X13.here hx rfl (hb hby d6_122) rfl k) ?_
    refine Go.step (g' := (mkF m 126 #[.val (.int p0), .val (.ref o1), .val (.int p2), .unset] [(.int (128 : Int32)), (.int (p2 + (3 : Int32))), (.ref o1)])) (fun _ k => XS.sipush X13.here hx rfl (hb hby d6_123) k) ?_
    refine Go.step (g' := (mkF m 127 #[.val (.int p0), .val (.ref o1), .val (.int p2), .unset] [(.int p0), (.int (128 : Int32)), (.int (p2 + (3 : Int32))), (.ref o1)])) (fun _ k => XS.iloadN X13.here hx rfl (hb hby d6_126) rfl  k) ?_
    refine Go.step (g' := (mkF m 129 #[.val (.int p0), .val (.ref o1), .val (.int p2), .unset] [(.int (12 : Int32)), (.int p0), (.int (128 : Int32)), (.int (p2 + (3 : Int32))), (.ref o1)])) (fun _ k => XS.bipush X13.here hx rfl (hb hby d6_127) k) ?_
    refine Go.step (g' := (mkF m 130 #[.val (.int p0), .val (.ref o1), .val (.int p2), .unset] [(.int ((p0.toUInt32 >>> ((12 : Int32) &&& 31).toUInt32).toInt32)), (.int (128 : Int32)), (.int (p2 + (3 : Int32))), (.ref o1)])) (fun _ k => XS.iushr X13.here hx rfl (hb hby d6_129) rfl k) ?_
    refine Go.step (g' := (mkF m 132 #[.val (.int p0), .val (.ref o1), .val (.int p2), .unset] [(.int (63 : Int32)), (.int ((p0.toUInt32 >>> ((12 : Int32) &&& 31).toUInt32).toInt32)), (.int (128 : Int32)), (.int (p2 + (3 : Int32))), (.ref o1)])) (fun _ k => XS.bipush X13.here hx rfl (hb hby d6_130) k) ?_
    refine Go.step (g' := (mkF m 133 #[.val (.int p0), .val (.ref o1), .val (.int p2), .unset] [(.int (((p0.toUInt32 >>> ((12 : Int32) &&& 31).toUInt32).toInt32) &&& (63 : Int32))), (.int (128 : Int32)), (.int (p2 + (3 : Int32))), (.ref o1)])) (fun _ k => XS.iand X13.here hx rfl (hb hby d6_132) rfl k) ?_
    refine Go.step (g' := (mkF m 134 #[.val (.int p0), .val (.ref o1), .val (.int p2), .unset] [(.int ((128 : Int32) ||| (((p0.toUInt32 >>> ((12 : Int32) &&& 31).toUInt32).toInt32) &&& (63 : Int32)))), (.int (p2 + (3 : Int32))), (.ref o1)])) (fun _ k => XS.ior X13.here hx rfl (hb hby d6_133) rfl k) ?_
    refine Go.step (g' := (mkF m 135 #[.val (.int p0), .val (.ref o1), .val (.int p2), .unset] [(.int (((128 : Int32) ||| (((p0.toUInt32 >>> ((12 : Int32) &&& 31).toUInt32).toInt32) &&& (63 : Int32))).toInt8.toInt32)), (.int (p2 + (3 : Int32))), (.ref o1)])) (fun _ k => XS.i2b X13.here hx rfl (hb hby d6_134) rfl k) ?_
    obtain ⟨T15, h15, lc15, X15, e15, W15, N15, V15, st15⟩ := putAB X13 hx hZ e13 V13 (j := (p2 + (3 : Int32))) (own_ix ho 3) N13 g_o1 (gf := (mkF m 135 #[.val (.int p0), .val (.ref o1), .val (.int p2), .unset] [(.int (((128 : Int32) ||| (((p0.toUInt32 >>> ((12 : Int32) &&& 31).toUInt32).toInt32) &&& (63 : Int32))).toInt8.toInt32)), (.int (p2 + (3 : Int32))), (.ref o1)])) rfl rfl (hb hby d6_135)
    refine Go.step (g' := (mkF m 136 #[.val (.int p0), .val (.ref o1), .val (.int p2), .unset] [])) st15 ?_
    have Q16 := ((Q12.wr W13 (Or.inl (List.mem_of_getElem? (i := 0) rfl))).wr W15 (Or.inl (List.mem_of_getElem? (i := 0) rfl)))
    refine Go.step (g' := (mkF m 137 #[.val (.int p0), .val (.ref o1), .val (.int p2), .unset] [(.ref o1)])) (fun _ k => XS.aloadN X15.here hx rfl (hb hby d6_136) rfl rfl  k) ?_
    refine Go.step (g' := (mkF m 138 #[.val (.int p0), .val (.ref o1), .val (.int p2), .unset] [(.int p2), (.ref o1)])) (fun _ k => XS.iloadN X15.here hx rfl (hb hby d6_137) rfl  k) ?_
    refine Go.step (g' := (mkF m 139 #[.val (.int p0), .val (.ref o1), .val (.int p2), .unset] [(.int (2 : Int32)), (.int p2), (.ref o1)])) (fun _ k => XS.iconst X15.here hx rfl (hb hby d6_138) k) ?_
    refine Go.step (g' := (mkF m 140 #[.val (.int p0), .val (.ref o1), .val (.int p2), .unset] [(.int (p2 + (2 : Int32))), (.ref o1)])) (fun _ k => XS.iadd X15.here hx rfl (hb hby d6_139) rfl k) ?_
    refine Go.step (g' := (mkF m 143 #[.val (.int p0), .val (.ref o1), .val (.int p2), .unset] [(.int (128 : Int32)), (.int (p2 + (2 : Int32))), (.ref o1)])) (fun _ k => XS.sipush X15.here hx rfl (hb hby d6_140) k) ?_
    refine Go.step (g' := (mkF m 144 #[.val (.int p0), .val (.ref o1), .val (.int p2), .unset] [(.int p0), (.int (128 : Int32)), (.int (p2 + (2 : Int32))), (.ref o1)])) (fun _ k => XS.iloadN X15.here hx rfl (hb hby d6_143) rfl  k) ?_
    refine Go.step (g' := (mkF m 146 #[.val (.int p0), .val (.ref o1), .val (.int p2), .unset] [(.int (18 : Int32)), (.int p0), (.int (128 : Int32)), (.int (p2 + (2 : Int32))), (.ref o1)])) (fun _ k => XS.bipush X15.here hx rfl (hb hby d6_144) k) ?_
    refine Go.step (g' := (mkF m 147 #[.val (.int p0), .val (.ref o1), .val (.int p2), .unset] [(.int ((p0.toUInt32 >>> ((18 : Int32) &&& 31).toUInt32).toInt32)), (.int (128 : Int32)), (.int (p2 + (2 : Int32))), (.ref o1)])) (fun _ k => XS.iushr X15.here hx rfl (hb hby d6_146) rfl k) ?_
    refine Go.step (g' := (mkF m 149 #[.val (.int p0), .val (.ref o1), .val (.int p2), .unset] [(.int (63 : Int32)), (.int ((p0.toUInt32 >>> ((18 : Int32) &&& 31).toUInt32).toInt32)), (.int (128 : Int32)), (.int (p2 + (2 : Int32))), (.ref o1)])) (fun _ k => XS.bipush X15.here hx rfl (hb hby d6_147) k) ?_
    refine Go.step (g' := (mkF m 150 #[.val (.int p0), .val (.ref o1), .val (.int p2), .unset] [(.int (((p0.toUInt32 >>> ((18 : Int32) &&& 31).toUInt32).toInt32) &&& (63 : Int32))), (.int (128 : Int32)), (.int (p2 + (2 : Int32))), (.ref o1)])) (fun _ k => XS.iand X15.here hx rfl (hb hby d6_149) rfl k) ?_
    refine Go.step (g' := (mkF m 151 #[.val (.int p0), .val (.ref o1), .val (.int p2), .unset] [(.int ((128 : Int32) ||| (((p0.toUInt32 >>> ((18 : Int32) &&& 31).toUInt32).toInt32) &&& (63 : Int32)))), (.int (p2 + (2 : Int32))), (.ref o1)])) (fun _ k => XS.ior X15.here hx rfl (hb hby d6_150) rfl k) ?_
    refine Go.step (g' := (mkF m 152 #[.val (.int p0), .val (.ref o1), .val (.int p2), .unset] [(.int (((128 : Int32) ||| (((p0.toUInt32 >>> ((18 : Int32) &&& 31).toUInt32).toInt32) &&& (63 : Int32))).toInt8.toInt32)), (.int (p2 + (2 : Int32))), (.ref o1)])) (fun _ k => XS.i2b X15.here hx rfl (hb hby d6_151) rfl k) ?_
    obtain ⟨T17, h17, lc17, X17, e17, W17, N17, V17, st17⟩ := putAB X15 hx hZ e15 V15 (j := (p2 + (2 : Int32))) (own_ix ho 2) N15 g_o1 (gf := (mkF m 152 #[.val (.int p0), .val (.ref o1), .val (.int p2), .unset] [(.int (((128 : Int32) ||| (((p0.toUInt32 >>> ((18 : Int32) &&& 31).toUInt32).toInt32) &&& (63 : Int32))).toInt8.toInt32)), (.int (p2 + (2 : Int32))), (.ref o1)])) rfl rfl (hb hby d6_152)
    refine Go.step (g' := (mkF m 153 #[.val (.int p0), .val (.ref o1), .val (.int p2), .unset] [])) st17 ?_
    have Q18 := (Nat.le_trans (Nat.le_trans Q14 (Keep.of_wr W15).1) (Keep.of_wr W17).1)
    refine Go.step (g' := (mkF m 154 #[.val (.int p0), .val (.ref o1), .val (.int p2), .unset] [(.ref o1)])) (fun _ k => XS.aloadN X17.here hx rfl (hb hby d6_153) rfl rfl  k) ?_
    refine Go.step (g' := (mkF m 155 #[.val (.int p0), .val (.ref o1), .val (.int p2), .unset] [(.int p2), (.ref o1)])) (fun _ k => XS.iloadN X17.here hx rfl (hb hby d6_154) rfl  k) ?_
    refine Go.step (g' := (mkF m 156 #[.val (.int p0), .val (.ref o1), .val (.int p2), .unset] [(.int (1 : Int32)), (.int p2), (.ref o1)])) (fun _ k => XS.iconst X17.here hx rfl (hb hby d6_155) k) ?_
    refine Go.step (g' := (mkF m 157 #[.val (.int p0), .val (.ref o1), .val (.int p2), .unset] [(.int (p2 + (1 : Int32))), (.ref o1)])) (fun _ k => XS.iadd X17.here hx rfl (hb hby d6_156) rfl k) ?_
    refine Go.step (g' := (mkF m 160 #[.val (.int p0), .val (.ref o1), .val (.int p2), .unset] [(.int (128 : Int32)), (.int (p2 + (1 : Int32))), (.ref o1)])) (fun _ k => XS.sipush X17.here hx rfl (hb hby d6_157) k) ?_
    refine Go.step (g' := (mkF m 161 #[.val (.int p0), .val (.ref o1), .val (.int p2), .unset] [(.int p0), (.int (128 : Int32)), (.int (p2 + (1 : Int32))), (.ref o1)])) (fun _ k => XS.iloadN X17.here hx rfl (hb hby d6_160) rfl  k) ?_
    refine Go.step (g' := (mkF m 163 #[.val (.int p0), .val (.ref o1), .val (.int p2), .unset] [(.int (24 : Int32)), (.int p0), (.int (128 : Int32)), (.int (p2 + (1 : Int32))), (.ref o1)])) (fun _ k => XS.bipush X17.here hx rfl (hb hby d6_161) k) ?_
    refine Go.step (g' := (mkF m 164 #[.val (.int p0), .val (.ref o1), .val (.int p2), .unset] [(.int ((p0.toUInt32 >>> ((24 : Int32) &&& 31).toUInt32).toInt32)), (.int (128 : Int32)), (.int (p2 + (1 : Int32))), (.ref o1)])) (fun _ k => XS.iushr X17.here hx rfl (hb hby d6_163) rfl k) ?_
    refine Go.step (g' := (mkF m 166 #[.val (.int p0), .val (.ref o1), .val (.int p2), .unset] [(.int (63 : Int32)), (.int ((p0.toUInt32 >>> ((24 : Int32) &&& 31).toUInt32).toInt32)), (.int (128 : Int32)), (.int (p2 + (1 : Int32))), (.ref o1)])) (fun _ k => XS.bipush X17.here hx rfl (hb hby d6_164) k) ?_
    refine Go.step (g' := (mkF m 167 #[.val (.int p0), .val (.ref o1), .val (.int p2), .unset] [(.int (((p0.toUInt32 >>> ((24 : Int32) &&& 31).toUInt32).toInt32) &&& (63 : Int32))), (.int (128 : Int32)), (.int (p2 + (1 : Int32))), (.ref o1)])) (fun _ k => XS.iand X17.here hx rfl (hb hby d6_166) rfl k) ?_
    refine Go.step (g' := (mkF m 168 #[.val (.int p0), .val (.ref o1), .val (.int p2), .unset] [(.int ((128 : Int32) ||| (((p0.toUInt32 >>> ((24 : Int32) &&& 31).toUInt32).toInt32) &&& (63 : Int32)))), (.int (p2 + (1 : Int32))), (.ref o1)])) (fun _ k => XS.ior X17.here hx rfl (hb hby d6_167) rfl k) ?_
    refine Go.step (g' := (mkF m 169 #[.val (.int p0), .val (.ref o1), .val (.int p2), .unset] [(.int (((128 : Int32) ||| (((p0.toUInt32 >>> ((24 : Int32) &&& 31).toUInt32).toInt32) &&& (63 : Int32))).toInt8.toInt32)), (.int (p2 + (1 : Int32))), (.ref o1)])) (fun _ k => XS.i2b X17.here hx rfl (hb hby d6_168) rfl k) ?_
    obtain ⟨T19, h19, lc19, X19, e19, W19, N19, V19, st19⟩ := putAB X17 hx hZ e17 V17 (j := (p2 + (1 : Int32))) (own_ix ho 1) N17 g_o1 (gf := (mkF m 169 #[.val (.int p0), .val (.ref o1), .val (.int p2), .unset] [(.int (((128 : Int32) ||| (((p0.toUInt32 >>> ((24 : Int32) &&& 31).toUInt32).toInt32) &&& (63 : Int32))).toInt8.toInt32)), (.int (p2 + (1 : Int32))), (.ref o1)])) rfl rfl (hb hby d6_169)
    refine Go.step (g' := (mkF m 170 #[.val (.int p0), .val (.ref o1), .val (.int p2), .unset] [])) st19 ?_
    have Q20 := ((Q16.wr W17 (Or.inl (List.mem_of_getElem? (i := 0) rfl))).wr W19 (Or.inl (List.mem_of_getElem? (i := 0) rfl)))
    refine Go.step (g' := (mkF m 171 #[.val (.int p0), .val (.ref o1), .val (.int p2), .unset] [(.ref o1)])) (fun _ k => XS.aloadN X19.here hx rfl (hb hby d6_170) rfl rfl  k) ?_
    refine Go.step (g' := (mkF m 172 #[.val (.int p0), .val (.ref o1), .val (.int p2), .unset] [(.int p2), (.ref o1)])) (fun _ k => XS.iloadN X19.here hx rfl (hb hby d6_171) rfl  k) ?_
    refine Go.step (g' := (mkF m 175 #[.val (.int p0), .val (.ref o1), .val (.int p2), .unset] [(.int (252 : Int32)), (.int p2), (.ref o1)])) (fun _ k => XS.sipush X19.here hx rfl (hb hby d6_172) k) ?_
    refine Go.step (g' := (mkF m 176 #[.val (.int p0), .val (.ref o1), .val (.int p2), .unset] [(.int p0), (.int (252 : Int32)), (.int p2), (.ref o1)])) (fun _ k => XS.iloadN X19.here hx rfl (hb hby d6_175) rfl  k) ?_
    refine Go.step (g' := (mkF m 178 #[.val (.int p0), .val (.ref o1), .val (.int p2), .unset] [(.int (30 : Int32)), (.int p0), (.int (252 : Int32)), (.int p2), (.ref o1)])) (fun _ k => XS.bipush X19.here hx rfl (hb hby d6_176) k) ?_
    refine Go.step (g' := (mkF m 179 #[.val (.int p0), .val (.ref o1), .val (.int p2), .unset] [(.int ((p0.toUInt32 >>> ((30 : Int32) &&& 31).toUInt32).toInt32)), (.int (252 : Int32)), (.int p2), (.ref o1)])) (fun _ k => XS.iushr X19.here hx rfl (hb hby d6_178) rfl k) ?_
    refine Go.step (g' := (mkF m 180 #[.val (.int p0), .val (.ref o1), .val (.int p2), .unset] [(.int ((252 : Int32) ||| ((p0.toUInt32 >>> ((30 : Int32) &&& 31).toUInt32).toInt32))), (.int p2), (.ref o1)])) (fun _ k => XS.ior X19.here hx rfl (hb hby d6_179) rfl k) ?_
    refine Go.step (g' := (mkF m 181 #[.val (.int p0), .val (.ref o1), .val (.int p2), .unset] [(.int (((252 : Int32) ||| ((p0.toUInt32 >>> ((30 : Int32) &&& 31).toUInt32).toInt32)).toInt8.toInt32)), (.int p2), (.ref o1)])) (fun _ k => XS.i2b X19.here hx rfl (hb hby d6_180) rfl k) ?_
    obtain ⟨T21, h21, lc21, X21, e21, W21, N21, V21, st21⟩ := putAB X19 hx hZ e19 V19 (j := p2) (own_ix0 ho) N19 g_o1 (gf := (mkF m 181 #[.val (.int p0), .val (.ref o1), .val (.int p2), .unset] [(.int (((252 : Int32) ||| ((p0.toUInt32 >>> ((30 : Int32) &&& 31).toUInt32).toInt32)).toInt8.toInt32)), (.int p2), (.ref o1)])) rfl rfl (hb hby d6_181)
    refine Go.step (g' := (mkF m 182 #[.val (.int p0), .val (.ref o1), .val (.int p2), .unset] [])) st21 ?_
    have Q22 := (Nat.le_trans (Nat.le_trans Q18 (Keep.of_wr W19).1) (Keep.of_wr W21).1)
    refine Go.step (g' := (mkF m 184 #[.val (.int p0), .val (.ref o1), .val (.int p2), .unset] [(.int (6 : Int32))])) (fun _ k => XS.bipush X21.here hx rfl (hb hby d6_182) k) ?_
    refine Go.step (g' := (mkF m 185 #[.val (.int p0), .val (.ref o1), .val (.int p2), .val (.int (6 : Int32))] [])) (fun _ k => XS.istoreN X21.here hx rfl (hb hby d6_184) rfl (l' := #[.val (.int p0), .val (.ref o1), .val (.int p2), .val (.int (6 : Int32))]) rfl k) ?_
    skip
    refine Go.step (g' := (mkF m 186 #[.val (.int p0), .val (.ref o1), .val (.int p2), .val (.int (6 : Int32))] [(.int (6 : Int32))])) (fun _ k => XS.iloadN X21.here hx rfl (hb hby d6_185) rfl  k) ?_
    exact Go.retW X21 hx hlk (t := .int) Bd.returns rfl (Or.inl ⟨rfl, Or.inl rfl, _, rfl⟩) (hb hby d6_186) (by decide) (by decide) (by rw [e21]; exact ⟨_, _, rfl, N21, (Q20.wr W21 (Or.inl (List.mem_of_getElem? (i := 0) rfl))), V21, (EncA.c6 (by assumption))⟩)
theorem d2_0 : decode prog_2_method_5_code 0 = .ok (.iload_n 1, 1) := by decide +kernel
theorem d2_1 : decode prog_2_method_5_code 1 = .ok (.ifCond .lt 27, 3) := by decide +kernel
theorem d2_4 : decode prog_2_method_5_code 4 = .ok (.iload_n 1, 1) := by decide +kernel
theorem d2_5 : decode prog_2_method_5_code 5 = .ok (.aload_n 0, 1) := by decide +kernel
theorem d2_6 : decode prog_2_method_5_code 6 = .ok (.getfield 29, 3) := by decide +kernel
theorem d2_9 : decode prog_2_method_5_code 9 = .ok (.if_icmp .gt 19, 3) := by decide +kernel
theorem d2_12 : decode prog_2_method_5_code 12 = .ok (.iload_n 1, 1) := by decide +kernel
theorem d2_13 : decode prog_2_method_5_code 13 = .ok (.ldc 33, 2) := by decide +kernel
theorem d2_15 : decode prog_2_method_5_code 15 = .ok (.if_icmp .lt 9, 3) := by decide +kernel
theorem d2_18 : decode prog_2_method_5_code 18 = .ok (.iload_n 1, 1) := by decide +kernel
theorem d2_19 : decode prog_2_method_5_code 19 = .ok (.ldc 34, 2) := by decide +kernel
theorem d2_21 : decode prog_2_method_5_code 21 = .ok (.if_icmp .le 7, 3) := by decide +kernel
theorem d2_24 : decode prog_2_method_5_code 24 = .ok (.iconst 1, 1) := by decide +kernel
theorem d2_25 : decode prog_2_method_5_code 25 = .ok (.goto 4, 3) := by decide +kernel
theorem d2_28 : decode prog_2_method_5_code 28 = .ok (.iconst 0, 1) := by decide +kernel
theorem d2_29 : decode prog_2_method_5_code 29 = .ok (.ireturn, 1) := by decide +kernel
theorem pn_2 : plainName "com/example/ucs_to_octets/ucstooctets/CodeSpace" = true := by first | (simp [plainName, overriddenIn]; done) | decide +kernel
theorem ef_2 (m : MethodId) (o0 : Addr) (p1 : Int32) : entryFrame m #[(.ref o0), (.int p1)] 2 = mkF m 0 #[.val (.ref o0), .val (.int p1)] [] := by first | (simp [entryFrame, mkF, argsToLocals, Value.category]; done) | rfl
def f2_29 (v29_s0 : Int32) : Int32 := (nar .boolean v29_s0)
def f2_28 : Int32 := (f2_29 (0 : Int32))
def f2_24 : Int32 := (f2_29 (1 : Int32))
def f2_18 (p1 : Int32) : Int32 := if (57343 : Int32) < p1 then f2_24 else f2_28
def f2_12 (p1 : Int32) : Int32 := if p1 < (55296 : Int32) then f2_24 else (f2_18 p1)
def f2_4 (p1 : Int32) (hi : Int32) : Int32 := if hi < p1 then f2_28 else (f2_12 p1)
def f2_0 (p1 : Int32) (hi : Int32) : Int32 := if p1 < (0 : Int32) then f2_28 else (f2_4 p1 hi)
set_option maxRecDepth 65536 in
set_option maxHeartbeats 40000000 in
theorem rm2 (l : Launch) (Z : State) (a0 : Array Value) (hw : ∀ d ∈ tables_1, d.before a0 Z = true) (ws : List Jvm.Cond) (o0 : Addr) (p1 : Int32) (hi : Int32) (h0 : Heap) (F_hi : Fld Z h0 o0 "com/example/ucs_to_octets/ucstooctets/CodeSpace" "highest" "I" (.int hi)) :
    MetFree l (⟨"com/example/ucs_to_octets/ucstooctets/CodeSpace", "contains", "(I)Z"⟩ : MethodName) (head1 (Jvm.Cond.code (⟨"com/example/ucs_to_octets/ucstooctets/CodeSpace", "contains", "(I)Z"⟩ : MethodName) prog_2_method_5_code 2 (some .boolean) :: ws) ({ frames := 0, cells := 0, slots := 0, locals := 0 } : Room)) (fun a U => a = #[(.ref o0), (.int p1)] ∧ Z.Warmed39 U.vm ∧ U.heap = h0) (fun _ _ _ _ _ => True) (fun _ U o U' => ∃ v L, o = .returned v ∧ (PureQ (.int (f2_0 p1 hi)) h0) v U'.heap L ∧ FrameEnd U o U' L ({ frames := 0, cells := 0, slots := 0, locals := 0 } : Room).cells ({ frames := 0, cells := 0, slots := 0, locals := 0 } : Room).slots) := by
  refine MetFree.of_bodySF (plainFor_of_name pn_2) hisR ?_
  intro p e s m args below meth c s₁ Bd hml0 hP hK
  obtain ⟨rfl, hZ, hh⟩ := hP
  have hx := Bd.exec
  have hby := Bd.bytes
  have hlk : meth.locks = false := BodyLoose.notSynchronized Bd
  have hml : c.maxLocals = 2 := hml0
  have hown : s.vm.findClass "com/example/ucs_to_octets/ucstooctets/CodeSpace" = some m.cls := findClass_of_methodNamed Bd.named
  have hnm := (name_of_methodNamed Bd.named Bd.method).1
  have X0 : Stand p l e ({ frames := 0, cells := 0, slots := 0, locals := 0 } : Room) s m #[(.ref o0), (.int p1)] below meth c s₁ ([] : List Loc) 0 0 := Stand.of_body Bd
  have e0 : s₁.heap = h0 := by rw [← hh, Bd.state]; rfl
  show Go p e below s 0 0 (PureQ (.int (f2_0 p1 hi)) h0) s₁ (entryFrame m #[(.ref o0), (.int p1)] 2)
  rw [ef_2 m o0 p1]
  refine Go.step (g' := (mkF m 1 #[.val (.ref o0), .val (.int p1)] [(.int p1)])) (fun _ k => XS.iloadN X0.here hx rfl (hb hby d2_0) rfl  k) ?_
  have t29 : ∀ (T_29 : State) (X_29 : Stand p l e ({ frames := 0, cells := 0, slots := 0, locals := 0 } : Room) s m #[(.ref o0), (.int p1)] below meth c T_29 ([] : List Loc) 0 0) (e_29 : T_29.heap = h0) (v29_s0 : Int32), Go p e below s 0 0 (PureQ (.int (f2_29 v29_s0)) h0) T_29 (mkF m 29 #[.val (.ref o0), .val (.int p1)] [(.int v29_s0)]) := by
    intro T_29 X_29 e_29 v29_s0
    exact Go.retN X_29 hx hlk (t := .boolean) Bd.returns (by simp) (hb hby d2_29) (by decide) (by decide) ⟨rfl, rfl, e_29⟩
  have t28 : ∀ (T_28 : State) (X_28 : Stand p l e ({ frames := 0, cells := 0, slots := 0, locals := 0 } : Room) s m #[(.ref o0), (.int p1)] below meth c T_28 ([] : List Loc) 0 0) (e_28 : T_28.heap = h0), Go p e below s 0 0 (PureQ (.int f2_28) h0) T_28 (mkF m 28 #[.val (.ref o0), .val (.int p1)] []) := by
    intro T_28 X_28 e_28
    refine Go.step (g' := (mkF m 29 #[.val (.ref o0), .val (.int p1)] [(.int (0 : Int32))])) (fun _ k => XS.iconst X_28.here hx rfl (hb hby d2_28) k) ?_
    rw [show f2_28 = (f2_29 (0 : Int32)) from rfl]
    exact t29 T_28 X_28 e_28 (0 : Int32)
  by_cases hc1 : p1 < (0 : Int32)
  · rw [show (f2_0 p1 hi) = f2_28 from if_pos hc1]
    refine Go.step (g' := (mkF m 28 #[.val (.ref o0), .val (.int p1)] [])) (fun _ k => XS.ifYes X0.here hx rfl (pc0 := 1) (pc' := 28) rfl (hb hby d2_1) rfl ((if0 _ _).trans (tlt hc1).1) (by decide) (by decide) k) ?_
    exact t28 s₁ X0 e0
  · rw [show (f2_0 p1 hi) = (f2_4 p1 hi) from if_neg hc1]
    refine Go.step (g' := (mkF m 4 #[.val (.ref o0), .val (.int p1)] [])) (fun _ k => XS.ifNo X0.here hx rfl (hb hby d2_1) rfl ((if0 _ _).trans (flt hc1).1) k) ?_
    refine Go.step (g' := (mkF m 5 #[.val (.ref o0), .val (.int p1)] [(.int p1)])) (fun _ k => XS.iloadN X0.here hx rfl (hb hby d2_4) rfl  k) ?_
    refine Go.step (g' := (mkF m 6 #[.val (.ref o0), .val (.int p1)] [(.ref o0), (.int p1)])) (fun _ k => XS.aloadN X0.here hx rfl (hb hby d2_5) rfl rfl  k) ?_
    obtain ⟨T1, X1, e1, st1⟩ := getF X0 hx hZ hown (host := "") (Or.inl (hw _ (List.mem_of_getElem? (i := 15) rfl))) Via.refl e0 F_hi (g := (mkF m 6 #[.val (.ref o0), .val (.int p1)] [(.ref o0), (.int p1)])) rfl rfl (hb hby d2_6)
    refine Go.step (g' := (mkF m 9 #[.val (.ref o0), .val (.int p1)] [(.int hi), (.int p1)])) st1 ?_
    by_cases hc9 : hi < p1
    · rw [show (f2_4 p1 hi) = f2_28 from if_pos hc9]
      refine Go.step (g' := (mkF m 28 #[.val (.ref o0), .val (.int p1)] [])) (fun _ k => XS.icmpYes X1.here hx rfl (pc0 := 9) (pc' := 28) rfl (hb hby d2_9) rfl (tlt hc9).2.2.1 (by decide) (by decide) k) ?_
      exact t28 T1 X1 e1
    · rw [show (f2_4 p1 hi) = (f2_12 p1) from if_neg hc9]
      refine Go.step (g' := (mkF m 12 #[.val (.ref o0), .val (.int p1)] [])) (fun _ k => XS.icmpNo X1.here hx rfl (hb hby d2_9) rfl (flt hc9).2.2.1 k) ?_
      refine Go.step (g' := (mkF m 13 #[.val (.ref o0), .val (.int p1)] [(.int p1)])) (fun _ k => XS.iloadN X1.here hx rfl (hb hby d2_12) rfl  k) ?_
      refine Go.step (g' := (mkF m 15 #[.val (.ref o0), .val (.int p1)] [(.int (55296 : Int32)), (.int p1)])) (fun _ k => X1.ldcI hx hown (mvT hZ (hw _ (List.mem_of_getElem? (i := 17) rfl))) rfl (hb hby d2_13) k) ?_
      have t24 : Go p e below s 0 0 (PureQ (.int f2_24) h0) T1 (mkF m 24 #[.val (.ref o0), .val (.int p1)] []) := by
        refine Go.step (g' := (mkF m 25 #[.val (.ref o0), .val (.int p1)] [(.int (1 : Int32))])) (fun _ k => XS.iconst X1.here hx rfl (hb hby d2_24) k) ?_
        refine Go.step (g' := (mkF m 29 #[.val (.ref o0), .val (.int p1)] [(.int (1 : Int32))])) (fun _ k => XS.goto X1.here hx rfl (pc0 := 25) (pc' := 29) rfl (hb hby d2_25) (by decide) (by decide) k) ?_
        rw [show f2_24 = (f2_29 (1 : Int32)) from rfl]
        exact t29 T1 X1 e1 (1 : Int32)
      by_cases hc15 : p1 < (55296 : Int32)
      · rw [show (f2_12 p1) = f2_24 from if_pos hc15]
        refine Go.step (g' := (mkF m 24 #[.val (.ref o0), .val (.int p1)] [])) (fun _ k => XS.icmpYes X1.here hx rfl (pc0 := 15) (pc' := 24) rfl (hb hby d2_15) rfl (tlt hc15).1 (by decide) (by decide) k) ?_
        exact t24 
      · rw [show (f2_12 p1) = (f2_18 p1) from if_neg hc15]
        refine Go.step (g' := (mkF m 18 #[.val (.ref o0), .val (.int p1)] [])) (fun _ k => XS.icmpNo X1.here hx rfl (hb hby d2_15) rfl (flt hc15).1 k) ?_
        refine Go.step (g' := (mkF m 19 #[.val (.ref o0), .val (.int p1)] [(.int p1)])) (fun _ k => XS.iloadN X1.here hx rfl (hb hby d2_18) rfl  k) ?_
        refine Go.step (g' := (mkF m 21 #[.val (.ref o0), .val (.int p1)] [(.int (57343 : Int32)), (.int p1)])) (fun _ k => X1.ldcI hx hown (mvT hZ (hw _ (List.mem_of_getElem? (i := 34) rfl))) rfl (hb hby d2_19) k) ?_
        by_cases hc21 : (57343 : Int32) < p1
        · rw [show (f2_18 p1) = f2_24 from if_pos hc21]
          refine Go.step (g' := (mkF m 24 #[.val (.ref o0), .val (.int p1)] [])) (fun _ k => XS.icmpNo X1.here hx rfl (hb hby d2_21) rfl (tlt hc21).2.2.2 k) ?_
          exact t24 
        · rw [show (f2_18 p1) = f2_28 from if_neg hc21]
          refine Go.step (g' := (mkF m 28 #[.val (.ref o0), .val (.int p1)] [])) (fun _ k => XS.icmpYes X1.here hx rfl (pc0 := 21) (pc' := 28) rfl (hb hby d2_21) rfl (flt hc21).2.2.2 (by decide) (by decide) k) ?_
          exact t28 T1 X1 e1
theorem own_con (x hi : Int32) (h0 : ¬ x < 0) (h1 : ¬ hi < x) (h2 : x < 55296 ∨ 57343 < x) : ¬ f2_0 x hi = (0 : Int32) := by
  have n1 : f2_24 = 1 := by decide
  unfold f2_0
  rw [if_neg h0]; unfold f2_4; rw [if_neg h1]; unfold f2_12 f2_18
  rcases h2 with h2 | h2
  · rw [if_pos h2, n1]; decide
  · by_cases h3 : x < 55296
    · rw [if_pos h3, n1]; decide
    · rw [if_neg h3, if_pos h2, n1]; decide
theorem d1_0 : decode prog_32_method_3_code 0 = .ok (.aload_n 3, 1) := by decide +kernel
theorem d1_1 : decode prog_32_method_3_code 1 = .ok (.iload_n 0, 1) := by decide +kernel
theorem d1_2 : decode prog_32_method_3_code 2 = .ok (.invokevirtual 19, 3) := by decide +kernel
theorem d1_5 : decode prog_32_method_3_code 5 = .ok (.ifCond .ne 27, 3) := by decide +kernel
theorem d1_32 : decode prog_32_method_3_code 32 = .ok (.iload_n 0, 1) := by decide +kernel
theorem d1_33 : decode prog_32_method_3_code 33 = .ok (.sipush 128, 3) := by decide +kernel
theorem d1_36 : decode prog_32_method_3_code 36 = .ok (.if_icmp .ge 14, 3) := by decide +kernel
theorem d1_39 : decode prog_32_method_3_code 39 = .ok (.aload_n 1, 1) := by decide +kernel
theorem d1_40 : decode prog_32_method_3_code 40 = .ok (.iload_n 2, 1) := by decide +kernel
theorem d1_41 : decode prog_32_method_3_code 41 = .ok (.iload_n 0, 1) := by decide +kernel
theorem d1_42 : decode prog_32_method_3_code 42 = .ok (.i2b, 1) := by decide +kernel
theorem d1_43 : decode prog_32_method_3_code 43 = .ok (.bastore, 1) := by decide +kernel
theorem d1_44 : decode prog_32_method_3_code 44 = .ok (.iconst 1, 1) := by decide +kernel
theorem d1_45 : decode prog_32_method_3_code 45 = .ok (.istore 4, 2) := by decide +kernel
theorem d1_47 : decode prog_32_method_3_code 47 = .ok (.goto 177, 3) := by decide +kernel
theorem d1_50 : decode prog_32_method_3_code 50 = .ok (.iload_n 0, 1) := by decide +kernel
theorem d1_51 : decode prog_32_method_3_code 51 = .ok (.sipush 2048, 3) := by decide +kernel
theorem d1_54 : decode prog_32_method_3_code 54 = .ok (.if_icmp .ge 35, 3) := by decide +kernel
theorem d1_57 : decode prog_32_method_3_code 57 = .ok (.aload_n 1, 1) := by decide +kernel
theorem d1_58 : decode prog_32_method_3_code 58 = .ok (.iload_n 2, 1) := by decide +kernel
theorem d1_59 : decode prog_32_method_3_code 59 = .ok (.iconst 1, 1) := by decide +kernel
theorem d1_60 : decode prog_32_method_3_code 60 = .ok (.iadd, 1) := by decide +kernel
theorem d1_61 : decode prog_32_method_3_code 61 = .ok (.sipush 128, 3) := by decide +kernel
theorem d1_64 : decode prog_32_method_3_code 64 = .ok (.iload_n 0, 1) := by decide +kernel
theorem d1_65 : decode prog_32_method_3_code 65 = .ok (.bipush 63, 2) := by decide +kernel
theorem d1_67 : decode prog_32_method_3_code 67 = .ok (.iand, 1) := by decide +kernel
theorem d1_68 : decode prog_32_method_3_code 68 = .ok (.ior, 1) := by decide +kernel
theorem d1_69 : decode prog_32_method_3_code 69 = .ok (.i2b, 1) := by decide +kernel
theorem d1_70 : decode prog_32_method_3_code 70 = .ok (.bastore, 1) := by decide +kernel
theorem d1_71 : decode prog_32_method_3_code 71 = .ok (.aload_n 1, 1) := by decide +kernel
theorem d1_72 : decode prog_32_method_3_code 72 = .ok (.iload_n 2, 1) := by decide +kernel
theorem d1_73 : decode prog_32_method_3_code 73 = .ok (.sipush 192, 3) := by decide +kernel
theorem d1_76 : decode prog_32_method_3_code 76 = .ok (.iload_n 0, 1) := by decide +kernel
theorem d1_77 : decode prog_32_method_3_code 77 = .ok (.bipush 6, 2) := by decide +kernel
theorem d1_79 : decode prog_32_method_3_code 79 = .ok (.iushr, 1) := by decide +kernel
theorem d1_80 : decode prog_32_method_3_code 80 = .ok (.ior, 1) := by decide +kernel
theorem d1_81 : decode prog_32_method_3_code 81 = .ok (.i2b, 1) := by decide +kernel
theorem d1_82 : decode prog_32_method_3_code 82 = .ok (.bastore, 1) := by decide +kernel
theorem d1_83 : decode prog_32_method_3_code 83 = .ok (.iconst 2, 1) := by decide +kernel
theorem d1_84 : decode prog_32_method_3_code 84 = .ok (.istore 4, 2) := by decide +kernel
theorem d1_86 : decode prog_32_method_3_code 86 = .ok (.goto 138, 3) := by decide +kernel
theorem d1_89 : decode prog_32_method_3_code 89 = .ok (.iload_n 0, 1) := by decide +kernel
theorem d1_90 : decode prog_32_method_3_code 90 = .ok (.ldc 42, 2) := by decide +kernel
theorem d1_92 : decode prog_32_method_3_code 92 = .ok (.if_icmp .ge 52, 3) := by decide +kernel
theorem d1_95 : decode prog_32_method_3_code 95 = .ok (.aload_n 1, 1) := by decide +kernel
theorem d1_96 : decode prog_32_method_3_code 96 = .ok (.iload_n 2, 1) := by decide +kernel
theorem d1_97 : decode prog_32_method_3_code 97 = .ok (.iconst 2, 1) := by decide +kernel
theorem d1_98 : decode prog_32_method_3_code 98 = .ok (.iadd, 1) := by decide +kernel
theorem d1_99 : decode prog_32_method_3_code 99 = .ok (.sipush 128, 3) := by decide +kernel
theorem d1_102 : decode prog_32_method_3_code 102 = .ok (.iload_n 0, 1) := by decide +kernel
theorem d1_103 : decode prog_32_method_3_code 103 = .ok (.bipush 63, 2) := by decide +kernel
theorem d1_105 : decode prog_32_method_3_code 105 = .ok (.iand, 1) := by decide +kernel
theorem d1_106 : decode prog_32_method_3_code 106 = .ok (.ior, 1) := by decide +kernel
theorem d1_107 : decode prog_32_method_3_code 107 = .ok (.i2b, 1) := by decide +kernel
theorem d1_108 : decode prog_32_method_3_code 108 = .ok (.bastore, 1) := by decide +kernel
theorem d1_109 : decode prog_32_method_3_code 109 = .ok (.aload_n 1, 1) := by decide +kernel
theorem d1_110 : decode prog_32_method_3_code 110 = .ok (.iload_n 2, 1) := by decide +kernel
theorem d1_111 : decode prog_32_method_3_code 111 = .ok (.iconst 1, 1) := by decide +kernel
theorem d1_112 : decode prog_32_method_3_code 112 = .ok (.iadd, 1) := by decide +kernel
theorem d1_113 : decode prog_32_method_3_code 113 = .ok (.sipush 128, 3) := by decide +kernel
theorem d1_116 : decode prog_32_method_3_code 116 = .ok (.iload_n 0, 1) := by decide +kernel
theorem d1_117 : decode prog_32_method_3_code 117 = .ok (.bipush 6, 2) := by decide +kernel
theorem d1_119 : decode prog_32_method_3_code 119 = .ok (.iushr, 1) := by decide +kernel
theorem d1_120 : decode prog_32_method_3_code 120 = .ok (.bipush 63, 2) := by decide +kernel
theorem d1_122 : decode prog_32_method_3_code 122 = .ok (.iand, 1) := by decide +kernel
theorem d1_123 : decode prog_32_method_3_code 123 = .ok (.ior, 1) := by decide +kernel
theorem d1_124 : decode prog_32_method_3_code 124 = .ok (.i2b, 1) := by decide +kernel
theorem d1_125 : decode prog_32_method_3_code 125 = .ok (.bastore, 1) := by decide +kernel
theorem d1_126 : decode prog_32_method_3_code 126 = .ok (.aload_n 1, 1) := by decide +kernel
theorem d1_127 : decode prog_32_method_3_code 127 = .ok (.iload_n 2, 1) := by decide +kernel
theorem d1_128 : decode prog_32_method_3_code 128 = .ok (.sipush 224, 3) := by decide +kernel
theorem d1_131 : decode prog_32_method_3_code 131 = .ok (.iload_n 0, 1) := by decide +kernel
theorem d1_132 : decode prog_32_method_3_code 132 = .ok (.bipush 12, 2) := by decide +kernel
theorem d1_134 : decode prog_32_method_3_code 134 = .ok (.iushr, 1) := by decide +kernel
theorem d1_135 : decode prog_32_method_3_code 135 = .ok (.ior, 1) := by decide +kernel
theorem d1_136 : decode prog_32_method_3_code 136 = .ok (.i2b, 1) := by decide +kernel
theorem d1_137 : decode prog_32_method_3_code 137 = .ok (.bastore, 1) := by decide +kernel
theorem d1_138 : decode prog_32_method_3_code 138 = .ok (.iconst 3, 1) := by decide +kernel
theorem d1_139 : decode prog_32_method_3_code 139 = .ok (.istore 4, 2) := by decide +kernel
theorem d1_141 : decode prog_32_method_3_code 141 = .ok (.goto 83, 3) := by decide +kernel
theorem d1_144 : decode prog_32_method_3_code 144 = .ok (.iload_n 0, 1) := by decide +kernel
theorem d1_145 : decode prog_32_method_3_code 145 = .ok (.ldc 43, 2) := by decide +kernel
theorem d1_147 : decode prog_32_method_3_code 147 = .ok (.if_icmp .ge 69, 3) := by decide +kernel
theorem d1_150 : decode prog_32_method_3_code 150 = .ok (.aload_n 1, 1) := by decide +kernel
theorem d1_151 : decode prog_32_method_3_code 151 = .ok (.iload_n 2, 1) := by decide +kernel
theorem d1_152 : decode prog_32_method_3_code 152 = .ok (.iconst 3, 1) := by decide +kernel
theorem d1_153 : decode prog_32_method_3_code 153 = .ok (.iadd, 1) := by decide +kernel
theorem d1_154 : decode prog_32_method_3_code 154 = .ok (.sipush 128, 3) := by decide +kernel
theorem d1_157 : decode prog_32_method_3_code 157 = .ok (.iload_n 0, 1) := by decide +kernel
theorem d1_158 : decode prog_32_method_3_code 158 = .ok (.bipush 63, 2) := by decide +kernel
theorem d1_160 : decode prog_32_method_3_code 160 = .ok (.iand, 1) := by decide +kernel
theorem d1_161 : decode prog_32_method_3_code 161 = .ok (.ior, 1) := by decide +kernel
theorem d1_162 : decode prog_32_method_3_code 162 = .ok (.i2b, 1) := by decide +kernel
theorem d1_163 : decode prog_32_method_3_code 163 = .ok (.bastore, 1) := by decide +kernel
theorem d1_164 : decode prog_32_method_3_code 164 = .ok (.aload_n 1, 1) := by decide +kernel
theorem d1_165 : decode prog_32_method_3_code 165 = .ok (.iload_n 2, 1) := by decide +kernel
theorem d1_166 : decode prog_32_method_3_code 166 = .ok (.iconst 2, 1) := by decide +kernel
theorem d1_167 : decode prog_32_method_3_code 167 = .ok (.iadd, 1) := by decide +kernel
theorem d1_168 : decode prog_32_method_3_code 168 = .ok (.sipush 128, 3) := by decide +kernel
theorem d1_171 : decode prog_32_method_3_code 171 = .ok (.iload_n 0, 1) := by decide +kernel
theorem d1_172 : decode prog_32_method_3_code 172 = .ok (.bipush 6, 2) := by decide +kernel
theorem d1_174 : decode prog_32_method_3_code 174 = .ok (.iushr, 1) := by decide +kernel
theorem d1_175 : decode prog_32_method_3_code 175 = .ok (.bipush 63, 2) := by decide +kernel
theorem d1_177 : decode prog_32_method_3_code 177 = .ok (.iand, 1) := by decide +kernel
theorem d1_178 : decode prog_32_method_3_code 178 = .ok (.ior, 1) := by decide +kernel
theorem d1_179 : decode prog_32_method_3_code 179 = .ok (.i2b, 1) := by decide +kernel
theorem d1_180 : decode prog_32_method_3_code 180 = .ok (.bastore, 1) := by decide +kernel
theorem d1_181 : decode prog_32_method_3_code 181 = .ok (.aload_n 1, 1) := by decide +kernel
theorem d1_182 : decode prog_32_method_3_code 182 = .ok (.iload_n 2, 1) := by decide +kernel
theorem d1_183 : decode prog_32_method_3_code 183 = .ok (.iconst 1, 1) := by decide +kernel
theorem d1_184 : decode prog_32_method_3_code 184 = .ok (.iadd, 1) := by decide +kernel
theorem d1_185 : decode prog_32_method_3_code 185 = .ok (.sipush 128, 3) := by decide +kernel
theorem d1_188 : decode prog_32_method_3_code 188 = .ok (.iload_n 0, 1) := by decide +kernel
theorem d1_189 : decode prog_32_method_3_code 189 = .ok (.bipush 12, 2) := by decide +kernel
theorem d1_191 : decode prog_32_method_3_code 191 = .ok (.iushr, 1) := by decide +kernel
theorem d1_192 : decode prog_32_method_3_code 192 = .ok (.bipush 63, 2) := by decide +kernel
theorem d1_194 : decode prog_32_method_3_code 194 = .ok (.iand, 1) := by decide +kernel
theorem d1_195 : decode prog_32_method_3_code 195 = .ok (.ior, 1) := by decide +kernel
theorem d1_196 : decode prog_32_method_3_code 196 = .ok (.i2b, 1) := by decide +kernel
theorem d1_197 : decode prog_32_method_3_code 197 = .ok (.bastore, 1) := by decide +kernel
theorem d1_198 : decode prog_32_method_3_code 198 = .ok (.aload_n 1, 1) := by decide +kernel
theorem d1_199 : decode prog_32_method_3_code 199 = .ok (.iload_n 2, 1) := by decide +kernel
theorem d1_200 : decode prog_32_method_3_code 200 = .ok (.sipush 240, 3) := by decide +kernel
theorem d1_203 : decode prog_32_method_3_code 203 = .ok (.iload_n 0, 1) := by decide +kernel
theorem d1_204 : decode prog_32_method_3_code 204 = .ok (.bipush 18, 2) := by decide +kernel
theorem d1_206 : decode prog_32_method_3_code 206 = .ok (.iushr, 1) := by decide +kernel
theorem d1_207 : decode prog_32_method_3_code 207 = .ok (.ior, 1) := by decide +kernel
theorem d1_208 : decode prog_32_method_3_code 208 = .ok (.i2b, 1) := by decide +kernel
theorem d1_209 : decode prog_32_method_3_code 209 = .ok (.bastore, 1) := by decide +kernel
theorem d1_210 : decode prog_32_method_3_code 210 = .ok (.iconst 4, 1) := by decide +kernel
theorem d1_211 : decode prog_32_method_3_code 211 = .ok (.istore 4, 2) := by decide +kernel
theorem d1_213 : decode prog_32_method_3_code 213 = .ok (.goto 11, 3) := by decide +kernel
theorem d1_216 : decode prog_32_method_3_code 216 = .ok (.iload_n 0, 1) := by decide +kernel
theorem d1_217 : decode prog_32_method_3_code 217 = .ok (.aload_n 1, 1) := by decide +kernel
theorem d1_218 : decode prog_32_method_3_code 218 = .ok (.iload_n 2, 1) := by decide +kernel
theorem d1_219 : decode prog_32_method_3_code 219 = .ok (.invokestatic 44, 3) := by decide +kernel
theorem d1_222 : decode prog_32_method_3_code 222 = .ok (.istore 4, 2) := by decide +kernel
theorem d1_224 : decode prog_32_method_3_code 224 = .ok (.iload 4, 2) := by decide +kernel
theorem d1_226 : decode prog_32_method_3_code 226 = .ok (.ireturn, 1) := by decide +kernel
theorem pn_1 : plainName "com/example/ucs_to_octets/ucstooctets/Utf8" = true := by first | (simp [plainName, overriddenIn]; done) | decide +kernel
theorem ef_1 (m : MethodId) (p0 : Int32) (o1 : Addr) (p2 : Int32) (o3 : Addr) : entryFrame m #[(.int p0), (.ref o1), (.int p2), (.ref o3)] 5 = mkF m 0 #[.val (.int p0), .val (.ref o1), .val (.int p2), .val (.ref o3), .unset] [] := by first | (simp [entryFrame, mkF, argsToLocals, Value.category]; done) | rfl
def Enc (p0 p2 : Int32) (g : Nat → Int32) (le : Int32) (g' : Nat → Int32) : Prop := (p0 < (128 : Int32) ∧ le = (1 : Int32) ∧ g' = (upd g p2.toNatClampNeg (nar .byte (p0.toInt8.toInt32)))) ∨ (¬ p0 < (128 : Int32) ∧ p0 < (2048 : Int32) ∧ le = (2 : Int32) ∧ g' = (upd (upd g (p2 + (1 : Int32)).toNatClampNeg (nar .byte (((128 : Int32) ||| (p0 &&& (63 : Int32))).toInt8.toInt32))) p2.toNatClampNeg (nar .byte (((192 : Int32) ||| ((p0.toUInt32 >>> ((6 : Int32) &&& 31).toUInt32).toInt32)).toInt8.toInt32)))) ∨ (¬ p0 < (2048 : Int32) ∧ p0 < (65536 : Int32) ∧ le = (3 : Int32) ∧ g' = (upd (upd (upd g (p2 + (2 : Int32)).toNatClampNeg (nar .byte (((128 : Int32) ||| (p0 &&& (63 : Int32))).toInt8.toInt32))) (p2 + (1 : Int32)).toNatClampNeg (nar .byte (((128 : Int32) ||| (((p0.toUInt32 >>> ((6 : Int32) &&& 31).toUInt32).toInt32) &&& (63 : Int32))).toInt8.toInt32))) p2.toNatClampNeg (nar .byte (((224 : Int32) ||| ((p0.toUInt32 >>> ((12 : Int32) &&& 31).toUInt32).toInt32)).toInt8.toInt32)))) ∨ (¬ p0 < (65536 : Int32) ∧ p0 < (2097152 : Int32) ∧ le = (4 : Int32) ∧ g' = (upd (upd (upd (upd g (p2 + (3 : Int32)).toNatClampNeg (nar .byte (((128 : Int32) ||| (p0 &&& (63 : Int32))).toInt8.toInt32))) (p2 + (2 : Int32)).toNatClampNeg (nar .byte (((128 : Int32) ||| (((p0.toUInt32 >>> ((6 : Int32) &&& 31).toUInt32).toInt32) &&& (63 : Int32))).toInt8.toInt32))) (p2 + (1 : Int32)).toNatClampNeg (nar .byte (((128 : Int32) ||| (((p0.toUInt32 >>> ((12 : Int32) &&& 31).toUInt32).toInt32) &&& (63 : Int32))).toInt8.toInt32))) p2.toNatClampNeg (nar .byte (((240 : Int32) ||| ((p0.toUInt32 >>> ((18 : Int32) &&& 31).toUInt32).toInt32)).toInt8.toInt32)))) ∨ (¬ p0 < (2097152 : Int32) ∧ EncA p0 p2 g le g')
theorem Enc.c1 {p0 p2 : Int32} {g : Nat → Int32} (h0 : p0 < (128 : Int32)) : Enc p0 p2 g (1 : Int32) (upd g p2.toNatClampNeg (nar .byte (p0.toInt8.toInt32))) := Or.inl ⟨h0, rfl, rfl⟩
theorem Enc.c2 {p0 p2 : Int32} {g : Nat → Int32} (h0 : ¬ p0 < (128 : Int32)) (h1 : p0 < (2048 : Int32)) : Enc p0 p2 g (2 : Int32) (upd (upd g (p2 + (1 : Int32)).toNatClampNeg (nar .byte (((128 : Int32) ||| (p0 &&& (63 : Int32))).toInt8.toInt32))) p2.toNatClampNeg (nar .byte (((192 : Int32) ||| ((p0.toUInt32 >>> ((6 : Int32) &&& 31).toUInt32).toInt32)).toInt8.toInt32))) := Or.inr (Or.inl ⟨h0, h1, rfl, rfl⟩)
theorem Enc.c3 {p0 p2 : Int32} {g : Nat → Int32} (h0 : ¬ p0 < (2048 : Int32)) (h1 : p0 < (65536 : Int32)) : Enc p0 p2 g (3 : Int32) (upd (upd (upd g (p2 + (2 : Int32)).toNatClampNeg (nar .byte (((128 : Int32) ||| (p0 &&& (63 : Int32))).toInt8.toInt32))) (p2 + (1 : Int32)).toNatClampNeg (nar .byte (((128 : Int32) ||| (((p0.toUInt32 >>> ((6 : Int32) &&& 31).toUInt32).toInt32) &&& (63 : Int32))).toInt8.toInt32))) p2.toNatClampNeg (nar .byte (((224 : Int32) ||| ((p0.toUInt32 >>> ((12 : Int32) &&& 31).toUInt32).toInt32)).toInt8.toInt32))) := Or.inr (Or.inr (Or.inl ⟨h0, h1, rfl, rfl⟩))
theorem Enc.c4 {p0 p2 : Int32} {g : Nat → Int32} (h0 : ¬ p0 < (65536 : Int32)) (h1 : p0 < (2097152 : Int32)) : Enc p0 p2 g (4 : Int32) (upd (upd (upd (upd g (p2 + (3 : Int32)).toNatClampNeg (nar .byte (((128 : Int32) ||| (p0 &&& (63 : Int32))).toInt8.toInt32))) (p2 + (2 : Int32)).toNatClampNeg (nar .byte (((128 : Int32) ||| (((p0.toUInt32 >>> ((6 : Int32) &&& 31).toUInt32).toInt32) &&& (63 : Int32))).toInt8.toInt32))) (p2 + (1 : Int32)).toNatClampNeg (nar .byte (((128 : Int32) ||| (((p0.toUInt32 >>> ((12 : Int32) &&& 31).toUInt32).toInt32) &&& (63 : Int32))).toInt8.toInt32))) p2.toNatClampNeg (nar .byte (((240 : Int32) ||| ((p0.toUInt32 >>> ((18 : Int32) &&& 31).toUInt32).toInt32)).toInt8.toInt32))) := Or.inr (Or.inr (Or.inr (Or.inl ⟨h0, h1, rfl, rfl⟩)))
theorem Enc.c5 {p0 p2 : Int32} {g : Nat → Int32} {le : Int32} {g' : Nat → Int32} (h0 : ¬ p0 < (2097152 : Int32)) (e : EncA p0 p2 g le g') : Enc p0 p2 g le g' := Or.inr (Or.inr (Or.inr (Or.inr (⟨h0, e⟩))))
def QEnc (Z : State) (p0 p2 : Int32) (o1 : Addr) (g : Nat → Int32) (h0 : Heap) (n0 : Nat) (v : Option Value) (h : Heap) (L : List Loc) : Prop :=
  ∃ le g', v = some (.int le) ∧ Fr n0 L ∧ Keep h0 h [o1] ∧ IA Z h o1 .byte 9 (fun k => .int (g' k)) ∧ Enc p0 p2 g le g'
set_option maxRecDepth 65536 in
set_option maxHeartbeats 40000000 in
theorem rm1 (l : Launch) (Z : State) (a0 : Array Value) (hw : ∀ d ∈ tables_1, d.before a0 Z = true) (ws : List Jvm.Cond) (p0 : Int32) (o1 : Addr) (p2 : Int32) (o3 : Addr) (g : Nat → Int32) (hi : Int32) (h0 : Heap) (n0 : Nat) (Z0 : n0 ≤ h0.size) (A_d : IA Z h0 o1 .byte 9 (fun k => .int (g k))) (g_o1 : n0 ≤ o1) (ho : ∃ k : Fin 4, p2 = Int32.ofNat k.val) (E_cs : Exa Z h0 o3 "com/example/ucs_to_octets/ucstooctets/CodeSpace") (F_cs : Fld Z h0 o3 "com/example/ucs_to_octets/ucstooctets/CodeSpace" "highest" "I" (.int hi)) (hcon : ¬ (f2_0 p0 hi) = (0 : Int32)) :
    MetFree l (⟨"com/example/ucs_to_octets/ucstooctets/Utf8", "encode", "(I[BILcom/example/ucs_to_octets/ucstooctets/CodeSpace;)I"⟩ : MethodName) (head1 (Jvm.Cond.code (⟨"com/example/ucs_to_octets/ucstooctets/Utf8", "encode", "(I[BILcom/example/ucs_to_octets/ucstooctets/CodeSpace;)I"⟩ : MethodName) prog_32_method_3_code 5 (some .int) :: ws) ({ frames := 1, cells := 0, slots := 0, locals := 15 } : Room)) (fun a U => a = #[(.int p0), (.ref o1), (.int p2), (.ref o3)] ∧ Z.Warmed39 U.vm ∧ U.heap = h0) (fun _ _ _ _ _ => True) (fun _ U o U' => ∃ v L, o = .returned v ∧ (QEnc Z p0 p2 o1 g h0 n0) v U'.heap L ∧ FrameEnd U o U' L ({ frames := 1, cells := 0, slots := 0, locals := 15 } : Room).cells ({ frames := 1, cells := 0, slots := 0, locals := 15 } : Room).slots) := by
  refine MetFree.of_bodySF (plainFor_of_name pn_1) hisR ?_
  intro p e s m args below meth c s₁ Bd hml0 hP hK
  obtain ⟨rfl, hZ, hh⟩ := hP
  have hx := Bd.exec
  have hby := Bd.bytes
  have hlk : meth.locks = false := BodyLoose.notSynchronized Bd
  have hml : c.maxLocals = 5 := hml0
  have hown : s.vm.findClass "com/example/ucs_to_octets/ucstooctets/Utf8" = some m.cls := findClass_of_methodNamed Bd.named
  have hnm := (name_of_methodNamed Bd.named Bd.method).1
  have X0 : Stand p l e ({ frames := 1, cells := 0, slots := 0, locals := 15 } : Room) s m #[(.int p0), (.ref o1), (.int p2), (.ref o3)] below meth c s₁ ([] : List Loc) 0 0 := Stand.of_body Bd
  have e0 : s₁.heap = h0 := by rw [← hh, Bd.state]; rfl
  show Go p e below s 0 0 (QEnc Z p0 p2 o1 g h0 n0) s₁ (entryFrame m #[(.int p0), (.ref o1), (.int p2), (.ref o3)] 5)
  rw [ef_1 m p0 o1 p2 o3]
  have N0 := Fr.nil n0
  refine Go.step (g' := (mkF m 1 #[.val (.int p0), .val (.ref o1), .val (.int p2), .val (.ref o3), .unset] [(.ref o3)])) (fun _ k => XS.aloadN X0.here hx rfl (hb hby d1_0) rfl rfl  k) ?_
  refine Go.step (g' := (mkF m 2 #[.val (.int p0), .val (.ref o1), .val (.int p2), .val (.ref o3), .unset] [(.int p0), (.ref o3)])) (fun _ k => XS.iloadN X0.here hx rfl (hb hby d1_1) rfl  k) ?_
  obtain ⟨cq1, kq1, q1a, q1b, q1c⟩ := isOf hZ e0 E_cs
  obtain ⟨_, _, ⟨T1, L1, k1, n1⟩, -, X1, ⟨Lc1, hQ1, l1, y1, z1⟩, st1⟩ := X0.virtualBack hx (y := (⟨"com/example/ucs_to_octets/ucstooctets/CodeSpace", "contains", "(I)Z"⟩ : MethodName)) (z := (⟨"com/example/ucs_to_octets/ucstooctets/CodeSpace", "contains", "(I)Z"⟩ : MethodName)) hown (mvT hZ (hw _ (List.mem_of_getElem? (i := 10) rfl))) (mvT hZ (hw _ (List.mem_of_getElem? (i := 11) rfl))) (notFace_of_selects (args := #[]) (mvT hZ (hw _ (List.mem_of_getElem? (i := 13) rfl)))) (mvT hZ (hw _ (List.mem_of_getElem? (i := 13) rfl))) (mvT hZ (hw _ (List.mem_of_getElem? (i := 12) rfl))) (by decide) (backOf (W := 0) (rm2 l Z a0 hw [] o3 p0 hi h0 F_cs) hZ (hw _ (List.mem_of_getElem? (i := 14) rfl)) (hw _ (List.mem_of_getElem? (i := 4) rfl)) (by decide) (by decide)) q1a q1c (g := (mkF m 2 #[.val (.int p0), .val (.ref o1), .val (.int p2), .val (.ref o3), .unset] [(.int p0), (.ref o3)])) rfl (by rw [hml]; rfl) (Steps.refl _) (argsL := [(.int p0)]) (rest := []) (lenOf pd_0 rfl) rfl (by show 2 * 0 + _ ≤ _; exact Nat.le_of_eq rfl) (hb hby d1_2) (fun _ _ => ⟨rfl, e0, (by decide : 0 + 0 ≤ _), (by decide : 0 + 0 ≤ _)⟩)
  dsimp only [Pt.U, Pt.locs, Pt.cells, Pt.slots] at X1 l1 y1 z1 st1 hQ1
  subst l1 y1 z1
  obtain ⟨rfl, rfl, e1⟩ := hQ1
  try rw [List.append_nil] at X1
  refine Go.step (g' := (mkF m 5 #[.val (.int p0), .val (.ref o1), .val (.int p2), .val (.ref o3), .unset] [(.int (f2_0 p0 hi))])) (fun _ k => st1.trans k) ?_
  refine Go.step (g' := (mkF m 32 #[.val (.int p0), .val (.ref o1), .val (.int p2), .val (.ref o3), .unset] [])) (fun _ k => XS.ifYes X1.here hx rfl (pc0 := 5) (pc' := 32) rfl (hb hby d1_5) rfl ((if0 _ _).trans (feq (hcon : ¬ ((f2_0 p0 hi) = (0 : Int32)))).2) (by decide) (by decide) k) ?_
  skip
  refine Go.step (g' := (mkF m 33 #[.val (.int p0), .val (.ref o1), .val (.int p2), .val (.ref o3), .unset] [(.int p0)])) (fun _ k => XS.iloadN X1.here hx rfl (hb hby d1_32) rfl  k) ?_
  refine Go.step (g' := (mkF m 36 #[.val (.int p0), .val (.ref o1), .val (.int p2), .val (.ref o3), .unset] [(.int (128 : Int32)), (.int p0)])) (fun _ k => XS.sipush X1.here hx rfl (hb hby d1_33) k) ?_
  by_cases hc36 : p0 < (128 : Int32)
  · skip
    refine Go.step (g' := (mkF m 39 #[.val (.int p0), .val (.ref o1), .val (.int p2), .val (.ref o3), .unset] [])) (fun _ k => XS.icmpNo X1.here hx rfl (hb hby d1_36) rfl (tlt hc36).2.1 k) ?_
    refine Go.step (g' := (mkF m 40 #[.val (.int p0), .val (.ref o1), .val (.int p2), .val (.ref o3), .unset] [(.ref o1)])) (fun _ k => XS.aloadN X1.here hx rfl (hb hby d1_39) rfl rfl  k) ?_
    refine Go.step (g' := (mkF m 41 #[.val (.int p0), .val (.ref o1), .val (.int p2), .val (.ref o3), .unset] [(.int p2), (.ref o1)])) (fun _ k => XS.iloadN X1.here hx rfl (hb hby d1_40) rfl  k) ?_
    refine Go.step (g' := (mkF m 42 #[.val (.int p0), .val (.ref o1), .val (.int p2), .val (.ref o3), .unset] [(.int p0), (.int p2), (.ref o1)])) (fun _ k => XS.iloadN X1.here hx rfl (hb hby d1_41) rfl  k) ?_
    refine Go.step (g' := (mkF m 43 #[.val (.int p0), .val (.ref o1), .val (.int p2), .val (.ref o3), .unset] [(.int (p0.toInt8.toInt32)), (.int p2), (.ref o1)])) (fun _ k => XS.i2b X1.here hx rfl (hb hby d1_42) rfl k) ?_
    obtain ⟨T2, h2, lc2, X2, e2, W2, N2, V2, st2⟩ := putAB X1 hx hZ e1 A_d (j := p2) (own_ix0 ho) N0 g_o1 (gf := (mkF m 43 #[.val (.int p0), .val (.ref o1), .val (.int p2), .val (.ref o3), .unset] [(.int (p0.toInt8.toInt32)), (.int p2), (.ref o1)])) rfl rfl (hb hby d1_43)
    refine Go.step (g' := (mkF m 44 #[.val (.int p0), .val (.ref o1), .val (.int p2), .val (.ref o3), .unset] [])) st2 ?_
    have Q3 := ((Keep.refl h0 [o1]).wr W2 (Or.inl (List.mem_of_getElem? (i := 0) rfl)))
    refine Go.step (g' := (mkF m 45 #[.val (.int p0), .val (.ref o1), .val (.int p2), .val (.ref o3), .unset] [(.int (1 : Int32))])) (fun _ k => XS.iconst X2.here hx rfl (hb hby d1_44) k) ?_
    refine Go.step (g' := (mkF m 47 #[.val (.int p0), .val (.ref o1), .val (.int p2), .val (.ref o3), .val (.int (1 : Int32))] [])) (fun _ k => XS.istore X2.here hx rfl (hb hby d1_45) rfl (l' := #[.val (.int p0), .val (.ref o1), .val (.int p2), .val (.ref o3), .val (.int (1 : Int32))]) rfl k) ?_
    refine Go.step (g' := (mkF m 224 #[.val (.int p0), .val (.ref o1), .val (.int p2), .val (.ref o3), .val (.int (1 : Int32))] [])) (fun _ k => XS.goto X2.here hx rfl (pc0 := 47) (pc' := 224) rfl (hb hby d1_47) (by decide) (by decide) k) ?_
    skip
    refine Go.step (g' := (mkF m 226 #[.val (.int p0), .val (.ref o1), .val (.int p2), .val (.ref o3), .val (.int (1 : Int32))] [(.int (1 : Int32))])) (fun _ k => XS.iload X2.here hx rfl (hb hby d1_224) rfl  k) ?_
    exact Go.retW X2 hx hlk (t := .int) Bd.returns rfl (Or.inl ⟨rfl, Or.inl rfl, _, rfl⟩) (hb hby d1_226) (by decide) (by decide) (by rw [e2]; exact ⟨_, _, rfl, N2, Q3, V2, (Enc.c1 (by assumption))⟩)
  · skip
    refine Go.step (g' := (mkF m 50 #[.val (.int p0), .val (.ref o1), .val (.int p2), .val (.ref o3), .unset] [])) (fun _ k => XS.icmpYes X1.here hx rfl (pc0 := 36) (pc' := 50) rfl (hb hby d1_36) rfl (flt hc36).2.1 (by decide) (by decide) k) ?_
    refine Go.step (g' := (mkF m 51 #[.val (.int p0), .val (.ref o1), .val (.int p2), .val (.ref o3), .unset] [(.int p0)])) (fun _ k => XS.iloadN X1.here hx rfl (hb hby d1_50) rfl  k) ?_
    refine Go.step (g' := (mkF m 54 #[.val (.int p0), .val (.ref o1), .val (.int p2), .val (.ref o3), .unset] [(.int (2048 : Int32)), (.int p0)])) (fun _ k => XS.sipush X1.here hx rfl (hb hby d1_51) k) ?_
    by_cases hc54 : p0 < (2048 : Int32)
    · skip
      refine Go.step (g' := (mkF m 57 #[.val (.int p0), .val (.ref o1), .val (.int p2), .val (.ref o3), .unset] [])) (fun _ k => XS.icmpNo X1.here hx rfl (hb hby d1_54) rfl (tlt hc54).2.1 k) ?_
      refine Go.step (g' := (mkF m 58 #[.val (.int p0), .val (.ref o1), .val (.int p2), .val (.ref o3), .unset] [(.ref o1)])) (fun _ k => XS.aloadN X1.here hx rfl (hb hby d1_57) rfl rfl  k) ?_
      refine Go.step (g' := (mkF m 59 #[.val (.int p0), .val (.ref o1), .val (.int p2), .val (.ref o3), .unset] [(.int p2), (.ref o1)])) (fun _ k => XS.iloadN X1.here hx rfl (hb hby d1_58) rfl  k) ?_
      refine Go.step (g' := (mkF m 60 #[.val (.int p0), .val (.ref o1), .val (.int p2), .val (.ref o3), .unset] [(.int (1 : Int32)), (.int p2), (.ref o1)])) (fun _ k => XS.iconst X1.here hx rfl (hb hby d1_59) k) ?_
      refine Go.step (g' := (mkF m 61 #[.val (.int p0), .val (.ref o1), .val (.int p2), .val (.ref o3), .unset] [(.int (p2 + (1 : Int32))), (.ref o1)])) (fun _ k => XS.iadd X1.here hx rfl (hb hby d1_60) rfl k) ?_
      refine Go.step (g' := (mkF m 64 #[.val (.int p0), .val (.ref o1), .val (.int p2), .val (.ref o3), .unset] [(.int (128 : Int32)), (.int (p2 + (1 : Int32))), (.ref o1)])) (fun _ k => XS.sipush X1.here hx rfl (hb hby d1_61) k) ?_
      refine Go.step (g' := (mkF m 65 #[.val (.int p0), .val (.ref o1), .val (.int p2), .val (.ref o3), .unset] [(.int p0), (.int (128 : Int32)), (.int (p2 + (1 : Int32))), (.ref o1)])) (fun _ k => XS.iloadN X1.here hx rfl (hb hby d1_64) rfl  k) ?_
      refine Go.step (g' := (mkF m 67 #[.val (.int p0), .val (.ref o1), .val (.int p2), .val (.ref o3), .unset] [(.int (63 : Int32)), (.int p0), (.int (128 : Int32)), (.int (p2 + (1 : Int32))), (.ref o1)])) (fun _ k => XS.bipush X1.here hx rfl (hb hby d1_65) k) ?_
      refine Go.step (g' := (mkF m 68 #[.val (.int p0), .val (.ref o1), .val (.int p2), .val (.ref o3), .unset] [(.int (p0 &&& (63 : Int32))), (.int (128 : Int32)), (.int (p2 + (1 : Int32))), (.ref o1)])) (fun _ k => XS.iand X1.here hx rfl (hb hby d1_67) rfl k) ?_
      refine Go.step (g' := (mkF m 69 #[.val (.int p0), .val (.ref o1), .val (.int p2), .val (.ref o3), .unset] [(.int ((128 : Int32) ||| (p0 &&& (63 : Int32)))), (.int (p2 + (1 : Int32))), (.ref o1)])) (fun _ k => XS.ior X1.here hx rfl (hb hby d1_68) rfl k) ?_
      refine Go.step (g' := (mkF m 70 #[.val (.int p0), .val (.ref o1), .val (.int p2), .val (.ref o3), .unset] [(.int (((128 : Int32) ||| (p0 &&& (63 : Int32))).toInt8.toInt32)), (.int (p2 + (1 : Int32))), (.ref o1)])) (fun _ k => XS.i2b X1.here hx rfl (hb hby d1_69) rfl k) ?_
      obtain ⟨T4, h4, lc4, X4, e4, W4, N4, V4, st4⟩ := putAB X1 hx hZ e1 A_d (j := (p2 + (1 : Int32))) (own_ix ho 1) N0 g_o1 (gf := (mkF m 70 #[.val (.int p0), .val (.ref o1), .val (.int p2), .val (.ref o3), .unset] [(.int (((128 : Int32) ||| (p0 &&& (63 : Int32))).toInt8.toInt32)), (.int (p2 + (1 : Int32))), (.ref o1)])) rfl rfl (hb hby d1_70)
      refine Go.step (g' := (mkF m 71 #[.val (.int p0), .val (.ref o1), .val (.int p2), .val (.ref o3), .unset] [])) st4 ?_
      have Q5 := ((Keep.refl h0 [o1]).wr W4 (Or.inl (List.mem_of_getElem? (i := 0) rfl)))
      refine Go.step (g' := (mkF m 72 #[.val (.int p0), .val (.ref o1), .val (.int p2), .val (.ref o3), .unset] [(.ref o1)])) (fun _ k => XS.aloadN X4.here hx rfl (hb hby d1_71) rfl rfl  k) ?_
      refine Go.step (g' := (mkF m 73 #[.val (.int p0), .val (.ref o1), .val (.int p2), .val (.ref o3), .unset] [(.int p2), (.ref o1)])) (fun _ k => XS.iloadN X4.here hx rfl (hb hby d1_72) rfl  k) ?_
      refine Go.step (g' := (mkF m 76 #[.val (.int p0), .val (.ref o1), .val (.int p2), .val (.ref o3), .unset] [(.int (192 : Int32)), (.int p2), (.ref o1)])) (fun _ k => XS.sipush X4.here hx rfl (hb hby d1_73) k) ?_
      refine Go.step (g' := (mkF m 77 #[.val (.int p0), .val (.ref o1), .val (.int p2), .val (.ref o3), .unset] [(.int p0), (.int (192 : Int32)), (.int p2), (.ref o1)])) (fun _ k => XS.iloadN X4.here hx rfl (hb hby d1_76) rfl  k) ?_
      refine Go.step (g' := (mkF m 79 #[.val (.int p0), .val (.ref o1), .val (.int p2), .val (.ref o3), .unset] [(.int (6 : Int32)), (.int p0), (.int (192 : Int32)), (.int p2), (.ref o1)])) (fun _ k => XS.bipush X4.here hx rfl (hb hby d1_77) k) ?_
      refine Go.step (g' := (mkF m 80 #[.val (.int p0), .val (.ref o1), .val (.int p2), .val (.ref o3), .unset] [(.int ((p0.toUInt32 >>> ((6 : Int32) &&& 31).toUInt32).toInt32)), (.int (192 : Int32)), (.int p2), (.ref o1)])) (fun _ k => XS.iushr X4.here hx rfl (hb hby d1_79) rfl k) ?_
      refine Go.step (g' := (mkF m 81 #[.val (.int p0), .val (.ref o1), .val (.int p2), .val (.ref o3), .unset] [(.int ((192 : Int32) ||| ((p0.toUInt32 >>> ((6 : Int32) &&& 31).toUInt32).toInt32))), (.int p2), (.ref o1)])) (fun _ k => XS.ior X4.here hx rfl (hb hby d1_80) rfl k) ?_
      refine Go.step (g' := (mkF m 82 #[.val (.int p0), .val (.ref o1), .val (.int p2), .val (.ref o3), .unset] [(.int (((192 : Int32) ||| ((p0.toUInt32 >>> ((6 : Int32) &&& 31).toUInt32).toInt32)).toInt8.toInt32)), (.int p2), (.ref o1)])) (fun _ k => XS.i2b X4.here hx rfl (hb hby d1_81) rfl k) ?_
      obtain ⟨T6, h6, lc6, X6, e6, W6, N6, V6, st6⟩ := putAB X4 hx hZ e4 V4 (j := p2) (own_ix0 ho) N4 g_o1 (gf := (mkF m 82 #[.val (.int p0), .val (.ref o1), .val (.int p2), .val (.ref o3), .unset] [(.int (((192 : Int32) ||| ((p0.toUInt32 >>> ((6 : Int32) &&& 31).toUInt32).toInt32)).toInt8.toInt32)), (.int p2), (.ref o1)])) rfl rfl (hb hby d1_82)
      refine Go.step (g' := (mkF m 83 #[.val (.int p0), .val (.ref o1), .val (.int p2), .val (.ref o3), .unset] [])) st6 ?_
      have Q7 := (Nat.le_trans (Nat.le_trans Z0 (Keep.of_wr W4).1) (Keep.of_wr W6).1)
      refine Go.step (g' := (mkF m 84 #[.val (.int p0), .val (.ref o1), .val (.int p2), .val (.ref o3), .unset] [(.int (2 : Int32))])) (fun _ k => XS.iconst X6.here hx rfl (hb hby d1_83) k) ?_
      refine Go.step (g' := (mkF m 86 #[.val (.int p0), .val (.ref o1), .val (.int p2), .val (.ref o3), .val (.int (2 : Int32))] [])) (fun _ k => XS.istore X6.here hx rfl (hb hby d1_84) rfl (l' := #[.val (.int p0), .val (.ref o1), .val (.int p2), .val (.ref o3), .val (.int (2 : Int32))]) rfl k) ?_
      refine Go.step (g' := (mkF m 224 #[.val (.int p0), .val (.ref o1), .val (.int p2), .val (.ref o3), .val (.int (2 : Int32))] [])) (fun _ k => XS.goto X6.here hx rfl (pc0 := 86) (pc' := 224) rfl (hb hby d1_86) (by decide) (by decide) k) ?_
      skip
      refine Go.step (g' := (mkF m 226 #[.val (.int p0), .val (.ref o1), .val (.int p2), .val (.ref o3), .val (.int (2 : Int32))] [(.int (2 : Int32))])) (fun _ k => XS.iload X6.here hx rfl (hb hby d1_224) rfl  k) ?_
      exact Go.retW X6 hx hlk (t := .int) Bd.returns rfl (Or.inl ⟨rfl, Or.inl rfl, _, rfl⟩) (hb hby d1_226) (by decide) (by decide) (by rw [e6]; exact ⟨_, _, rfl, N6, (Q5.wr W6 (Or.inl (List.mem_of_getElem? (i := 0) rfl))), V6, (Enc.c2 (by assumption) (by assumption))⟩)
    · skip
      refine Go.step (g' := (mkF m 89 #[.val (.int p0), .val (.ref o1), .val (.int p2), .val (.ref o3), .unset] [])) (fun _ k => XS.icmpYes X1.here hx rfl (pc0 := 54) (pc' := 89) rfl (hb hby d1_54) rfl (flt hc54).2.1 (by decide) (by decide) k) ?_
      refine Go.step (g' := (mkF m 90 #[.val (.int p0), .val (.ref o1), .val (.int p2), .val (.ref o3), .unset] [(.int p0)])) (fun _ k => XS.iloadN X1.here hx rfl (hb hby d1_89) rfl  k) ?_
      refine Go.step (g' := (mkF m 92 #[.val (.int p0), .val (.ref o1), .val (.int p2), .val (.ref o3), .unset] [(.int (65536 : Int32)), (.int p0)])) (fun _ k => X1.ldcI hx hown (mvT hZ (hw _ (List.mem_of_getElem? (i := 35) rfl))) rfl (hb hby d1_90) k) ?_
      by_cases hc92 : p0 < (65536 : Int32)
      · skip
        refine Go.step (g' := (mkF m 95 #[.val (.int p0), .val (.ref o1), .val (.int p2), .val (.ref o3), .unset] [])) (fun _ k => XS.icmpNo X1.here hx rfl (hb hby d1_92) rfl (tlt hc92).2.1 k) ?_
        refine Go.step (g' := (mkF m 96 #[.val (.int p0), .val (.ref o1), .val (.int p2), .val (.ref o3), .unset] [(.ref o1)])) (fun _ k => XS.aloadN X1.here hx rfl (hb hby d1_95) rfl rfl  k) ?_
        refine Go.step (g' := (mkF m 97 #[.val (.int p0), .val (.ref o1), .val (.int p2), .val (.ref o3), .unset] [(.int p2), (.ref o1)])) (fun _ k => XS.iloadN X1.here hx rfl (hb hby d1_96) rfl  k) ?_
        refine Go.step (g' := (mkF m 98 #[.val (.int p0), .val (.ref o1), .val (.int p2), .val (.ref o3), .unset] [(.int (2 : Int32)), (.int p2), (.ref o1)])) (fun _ k => XS.iconst X1.here hx rfl (hb hby d1_97) k) ?_
        refine Go.step (g' := (mkF m 99 #[.val (.int p0), .val (.ref o1), .val (.int p2), .val (.ref o3), .unset] [(.int (p2 + (2 : Int32))), (.ref o1)])) (fun _ k => XS.iadd X1.here hx rfl (hb hby d1_98) rfl k) ?_
        refine Go.step (g' := (mkF m 102 #[.val (.int p0), .val (.ref o1), .val (.int p2), .val (.ref o3), .unset] [(.int (128 : Int32)), (.int (p2 + (2 : Int32))), (.ref o1)])) (fun _ k => XS.sipush X1.here hx rfl (hb hby d1_99) k) ?_
        refine Go.step (g' := (mkF m 103 #[.val (.int p0), .val (.ref o1), .val (.int p2), .val (.ref o3), .unset] [(.int p0), (.int (128 : Int32)), (.int (p2 + (2 : Int32))), (.ref o1)])) (fun _ k => XS.iloadN X1.here hx rfl (hb hby d1_102) rfl  k) ?_
        refine Go.step (g' := (mkF m 105 #[.val (.int p0), .val (.ref o1), .val (.int p2), .val (.ref o3), .unset] [(.int (63 : Int32)), (.int p0), (.int (128 : Int32)), (.int (p2 + (2 : Int32))), (.ref o1)])) (fun _ k => XS.bipush X1.here hx rfl (hb hby d1_103) k) ?_
        refine Go.step (g' := (mkF m 106 #[.val (.int p0), .val (.ref o1), .val (.int p2), .val (.ref o3), .unset] [(.int (p0 &&& (63 : Int32))), (.int (128 : Int32)), (.int (p2 + (2 : Int32))), (.ref o1)])) (fun _ k => XS.iand X1.here hx rfl (hb hby d1_105) rfl k) ?_
        refine Go.step (g' := (mkF m 107 #[.val (.int p0), .val (.ref o1), .val (.int p2), .val (.ref o3), .unset] [(.int ((128 : Int32) ||| (p0 &&& (63 : Int32)))), (.int (p2 + (2 : Int32))), (.ref o1)])) (fun _ k => XS.ior X1.here hx rfl (hb hby d1_106) rfl k) ?_
        refine Go.step (g' := (mkF m 108 #[.val (.int p0), .val (.ref o1), .val (.int p2), .val (.ref o3), .unset] [(.int (((128 : Int32) ||| (p0 &&& (63 : Int32))).toInt8.toInt32)), (.int (p2 + (2 : Int32))), (.ref o1)])) (fun _ k => XS.i2b X1.here hx rfl (hb hby d1_107) rfl k) ?_
        obtain ⟨T8, h8, lc8, X8, e8, W8, N8, V8, st8⟩ := putAB X1 hx hZ e1 A_d (j := (p2 + (2 : Int32))) (own_ix ho 2) N0 g_o1 (gf := (mkF m 108 #[.val (.int p0), .val (.ref o1), .val (.int p2), .val (.ref o3), .unset] [(.int (((128 : Int32) ||| (p0 &&& (63 : Int32))).toInt8.toInt32)), (.int (p2 + (2 : Int32))), (.ref o1)])) rfl rfl (hb hby d1_108)
        refine Go.step (g' := (mkF m 109 #[.val (.int p0), .val (.ref o1), .val (.int p2), .val (.ref o3), .unset] [])) st8 ?_
        have Q9 := ((Keep.refl h0 [o1]).wr W8 (Or.inl (List.mem_of_getElem? (i := 0) rfl)))
        refine Go.step (g' := (mkF m 110 #[.val (.int p0), .val (.ref o1), .val (.int p2), .val (.ref o3), .unset] [(.ref o1)])) (fun _ k => XS.aloadN X8.here hx rfl (hb hby d1_109) rfl rfl  k) ?_
        refine Go.step (g' := (mkF m 111 #[.val (.int p0), .val (.ref o1), .val (.int p2), .val (.ref o3), .unset] [(.int p2), (.ref o1)])) (fun _ k => XS.iloadN X8.here hx rfl (hb hby d1_110) rfl  k) ?_
        refine Go.step (g' := (mkF m 112 #[.val (.int p0), .val (.ref o1), .val (.int p2), .val (.ref o3), .unset] [(.int (1 : Int32)), (.int p2), (.ref o1)])) (fun _ k => XS.iconst X8.here hx rfl (hb hby d1_111) k) ?_
        refine Go.step (g' := (mkF m 113 #[.val (.int p0), .val (.ref o1), .val (.int p2), .val (.ref o3), .unset] [(.int (p2 + (1 : Int32))), (.ref o1)])) (fun _ k => XS.iadd X8.here hx rfl (hb hby d1_112) rfl k) ?_
        refine Go.step (g' := (mkF m 116 #[.val (.int p0), .val (.ref o1), .val (.int p2), .val (.ref o3), .unset] [(.int (128 : Int32)), (.int (p2 + (1 : Int32))), (.ref o1)])) (fun _ k => XS.sipush X8.here hx rfl (hb hby d1_113) k) ?_
        refine Go.step (g' := (mkF m 117 #[.val (.int p0), .val (.ref o1), .val (.int p2), .val (.ref o3), .unset] [(.int p0), (.int (128 : Int32)), (.int (p2 + (1 : Int32))), (.ref o1)])) (fun _ k => XS.iloadN X8.here hx rfl (hb hby d1_116) rfl  k) ?_
        refine Go.step (g' := (mkF m 119 #[.val (.int p0), .val (.ref o1), .val (.int p2), .val (.ref o3), .unset] [(.int (6 : Int32)), (.int p0), (.int (128 : Int32)), (.int (p2 + (1 : Int32))), (.ref o1)])) (fun _ k => XS.bipush X8.here hx rfl (hb hby d1_117) k) ?_
        refine Go.step (g' := (mkF m 120 #[.val (.int p0), .val (.ref o1), .val (.int p2), .val (.ref o3), .unset] [(.int ((p0.toUInt32 >>> ((6 : Int32) &&& 31).toUInt32).toInt32)), (.int (128 : Int32)), (.int (p2 + (1 : Int32))), (.ref o1)])) (fun _ k => XS.iushr X8.here hx rfl (hb hby d1_119) rfl k) ?_
        refine Go.step (g' := (mkF m 122 #[.val (.int p0), .val (.ref o1), .val (.int p2), .val (.ref o3), .unset] [(.int (63 : Int32)), (.int ((p0.toUInt32 >>> ((6 : Int32) &&& 31).toUInt32).toInt32)), (.int (128 : Int32)), (.int (p2 + (1 : Int32))), (.ref o1)])) (fun _ k => XS.bipush X8.here hx rfl (hb hby d1_120) k) ?_
        refine Go.step (g' := (mkF m 123 #[.val (.int p0), .val (.ref o1), .val (.int p2), .val (.ref o3), .unset] [(.int (((p0.toUInt32 >>> ((6 : Int32) &&& 31).toUInt32).toInt32) &&& (63 : Int32))), (.int (128 : Int32)), (.int (p2 + (1 : Int32))), (.ref o1)])) (fun _ k => XS.iand X8.here hx rfl (hb hby d1_122) rfl k) ?_
        refine Go.step (g' := (mkF m 124 #[.val (.int p0), .val (.ref o1), .val (.int p2), .val (.ref o3), .unset] [(.int ((128 : Int32) ||| (((p0.toUInt32 >>> ((6 : Int32) &&& 31).toUInt32).toInt32) &&& (63 : Int32)))), (.int (p2 + (1 : Int32))), (.ref o1)])) (fun _ k => XS.ior X8.here hx rfl (hb hby d1_123) rfl k) ?_
        refine Go.step (g' := (mkF m 125 #[.val (.int p0), .val (.ref o1), .val (.int p2), .val (.ref o3), .unset] [(.int (((128 : Int32) ||| (((p0.toUInt32 >>> ((6 : Int32) &&& 31).toUInt32).toInt32) &&& (63 : Int32))).toInt8.toInt32)), (.int (p2 + (1 : Int32))), (.ref o1)])) (fun _ k => XS.i2b X8.here hx rfl (hb hby d1_124) rfl k) ?_
        obtain ⟨T10, h10, lc10, X10, e10, W10, N10, V10, st10⟩ := putAB X8 hx hZ e8 V8 (j := (p2 + (1 : Int32))) (own_ix ho 1) N8 g_o1 (gf := (mkF m 125 #[.val (.int p0), .val (.ref o1), .val (.int p2), .val (.ref o3), .unset] [(.int (((128 : Int32) ||| (((p0.toUInt32 >>> ((6 : Int32) &&& 31).toUInt32).toInt32) &&& (63 : Int32))).toInt8.toInt32)), (.int (p2 + (1 : Int32))), (.ref o1)])) rfl rfl (hb hby d1_125)
        refine Go.step (g' := (mkF m 126 #[.val (.int p0), .val (.ref o1), .val (.int p2), .val (.ref o3), .unset] [])) st10 ?_
        have Q11 := (Nat.le_trans (Nat.le_trans Z0 (Keep.of_wr W8).1) (Keep.of_wr W10).1)
        refine Go.step (g' := (mkF m 127 #[.val (.int p0), .val (.ref o1), .val (.int p2), .val (.ref o3), .unset] [(.ref o1)])) (fun _ k => XS.aloadN X10.here hx rfl (hb hby d1_126) rfl rfl  k) ?_
        refine Go.step (g' := (mkF m 128 #[.val (.int p0), .val (.ref o1), .val (.int p2), .val (.ref o3), .unset] [(.int p2), (.ref o1)])) (fun _ k => XS.iloadN X10.here hx rfl (hb hby d1_127) rfl  k) ?_
        refine Go.step (g' := (mkF m 131 #[.val (.int p0), .val (.ref o1), .val (.int p2), .val (.ref o3), .unset] [(.int (224 : Int32)), (.int p2), (.ref o1)])) (fun _ k => XS.sipush X10.here hx rfl (hb hby d1_128) k) ?_
        refine Go.step (g' := (mkF m 132 #[.val (.int p0), .val (.ref o1), .val (.int p2), .val (.ref o3), .unset] [(.int p0), (.int (224 : Int32)), (.int p2), (.ref o1)])) (fun _ k => XS.iloadN X10.here hx rfl (hb hby d1_131) rfl  k) ?_
        refine Go.step (g' := (mkF m 134 #[.val (.int p0), .val (.ref o1), .val (.int p2), .val (.ref o3), .unset] [(.int (12 : Int32)), (.int p0), (.int (224 : Int32)), (.int p2), (.ref o1)])) (fun _ k => XS.bipush X10.here hx rfl (hb hby d1_132) k) ?_
        refine Go.step (g' := (mkF m 135 #[.val (.int p0), .val (.ref o1), .val (.int p2), .val (.ref o3), .unset] [(.int ((p0.toUInt32 >>> ((12 : Int32) &&& 31).toUInt32).toInt32)), (.int (224 : Int32)), (.int p2), (.ref o1)])) (fun _ k => XS.iushr X10.here hx rfl (hb hby d1_134) rfl k) ?_
        refine Go.step (g' := (mkF m 136 #[.val (.int p0), .val (.ref o1), .val (.int p2), .val (.ref o3), .unset] [(.int ((224 : Int32) ||| ((p0.toUInt32 >>> ((12 : Int32) &&& 31).toUInt32).toInt32))), (.int p2), (.ref o1)])) (fun _ k => XS.ior X10.here hx rfl (hb hby d1_135) rfl k) ?_
        refine Go.step (g' := (mkF m 137 #[.val (.int p0), .val (.ref o1), .val (.int p2), .val (.ref o3), .unset] [(.int (((224 : Int32) ||| ((p0.toUInt32 >>> ((12 : Int32) &&& 31).toUInt32).toInt32)).toInt8.toInt32)), (.int p2), (.ref o1)])) (fun _ k => XS.i2b X10.here hx rfl (hb hby d1_136) rfl k) ?_
        obtain ⟨T12, h12, lc12, X12, e12, W12, N12, V12, st12⟩ := putAB X10 hx hZ e10 V10 (j := p2) (own_ix0 ho) N10 g_o1 (gf := (mkF m 137 #[.val (.int p0), .val (.ref o1), .val (.int p2), .val (.ref o3), .unset] [(.int (((224 : Int32) ||| ((p0.toUInt32 >>> ((12 : Int32) &&& 31).toUInt32).toInt32)).toInt8.toInt32)), (.int p2), (.ref o1)])) rfl rfl (hb hby d1_137)
        refine Go.step (g' := (mkF m 138 #[.val (.int p0), .val (.ref o1), .val (.int p2), .val (.ref o3), .unset] [])) st12 ?_
        have Q13 := ((Q9.wr W10 (Or.inl (List.mem_of_getElem? (i := 0) rfl))).wr W12 (Or.inl (List.mem_of_getElem? (i := 0) rfl)))
        refine Go.step (g' := (mkF m 139 #[.val (.int p0), .val (.ref o1), .val (.int p2), .val (.ref o3), .unset] [(.int (3 : Int32))])) (fun _ k => XS.iconst X12.here hx rfl (hb hby d1_138) k) ?_
        refine Go.step (g' := (mkF m 141 #[.val (.int p0), .val (.ref o1), .val (.int p2), .val (.ref o3), .val (.int (3 : Int32))] [])) (fun _ k => XS.istore X12.here hx rfl (hb hby d1_139) rfl (l' := #[.val (.int p0), .val (.ref o1), .val (.int p2), .val (.ref o3), .val (.int (3 : Int32))]) rfl k) ?_
        refine Go.step (g' := (mkF m 224 #[.val (.int p0), .val (.ref o1), .val (.int p2), .val (.ref o3), .val (.int (3 : Int32))] [])) (fun _ k => XS.goto X12.here hx rfl (pc0 := 141) (pc' := 224) rfl (hb hby d1_141) (by decide) (by decide) k) ?_
        skip
        refine Go.step (g' := (mkF m 226 #[.val (.int p0), .val (.ref o1), .val (.int p2), .val (.ref o3), .val (.int (3 : Int32))] [(.int (3 : Int32))])) (fun _ k => XS.iload X12.here hx rfl (hb hby d1_224) rfl  k) ?_
        exact Go.retW X12 hx hlk (t := .int) Bd.returns rfl (Or.inl ⟨rfl, Or.inl rfl, _, rfl⟩) (hb hby d1_226) (by decide) (by decide) (by rw [e12]; exact ⟨_, _, rfl, N12, Q13, V12, (Enc.c3 (by assumption) (by assumption))⟩)
      · skip
        refine Go.step (g' := (mkF m 144 #[.val (.int p0), .val (.ref o1), .val (.int p2), .val (.ref o3), .unset] [])) (fun _ k => XS.icmpYes X1.here hx rfl (pc0 := 92) (pc' := 144) rfl (hb hby d1_92) rfl (flt hc92).2.1 (by decide) (by decide) k) ?_
        refine Go.step (g' := (mkF m 145 #[.val (.int p0), .val (.ref o1), .val (.int p2), .val (.ref o3), .unset] [(.int p0)])) (fun _ k => XS.iloadN X1.here hx rfl (hb hby d1_144) rfl  k) ?_
        refine Go.step (g' := (mkF m 147 #[.val (.int p0), .val (.ref o1), .val (.int p2), .val (.ref o3), .unset] [(.int (2097152 : Int32)), (.int p0)])) (fun _ k => X1.ldcI hx hown (mvT hZ (hw _ (List.mem_of_getElem? (i := 36) rfl))) rfl (hb hby d1_145) k) ?_
        by_cases hc147 : p0 < (2097152 : Int32)
        · skip
          refine Go.step (g' := (mkF m 150 #[.val (.int p0), .val (.ref o1), .val (.int p2), .val (.ref o3), .unset] [])) (fun _ k => XS.icmpNo X1.here hx rfl (hb hby d1_147) rfl (tlt hc147).2.1 k) ?_
          refine Go.step (g' := (mkF m 151 #[.val (.int p0), .val (.ref o1), .val (.int p2), .val (.ref o3), .unset] [(.ref o1)])) (fun _ k => XS.aloadN X1.here hx rfl (hb hby d1_150) rfl rfl  k) ?_
          refine Go.step (g' := (mkF m 152 #[.val (.int p0), .val (.ref o1), .val (.int p2), .val (.ref o3), .unset] [(.int p2), (.ref o1)])) (fun _ k => XS.iloadN X1.here hx rfl (hb hby d1_151) rfl  k) ?_
          refine Go.step (g' := (mkF m 153 #[.val (.int p0), .val (.ref o1), .val (.int p2), .val (.ref o3), .unset] [(.int (3 : Int32)), (.int p2), (.ref o1)])) (fun _ k => XS.iconst X1.here hx rfl (hb hby d1_152) k) ?_
          refine Go.step (g' := (mkF m 154 #[.val (.int p0), .val (.ref o1), .val (.int p2), .val (.ref o3), .unset] [(.int (p2 + (3 : Int32))), (.ref o1)])) (fun _ k => XS.iadd X1.here hx rfl (hb hby d1_153) rfl k) ?_
          refine Go.step (g' := (mkF m 157 #[.val (.int p0), .val (.ref o1), .val (.int p2), .val (.ref o3), .unset] [(.int (128 : Int32)), (.int (p2 + (3 : Int32))), (.ref o1)])) (fun _ k => XS.sipush X1.here hx rfl (hb hby d1_154) k) ?_
          refine Go.step (g' := (mkF m 158 #[.val (.int p0), .val (.ref o1), .val (.int p2), .val (.ref o3), .unset] [(.int p0), (.int (128 : Int32)), (.int (p2 + (3 : Int32))), (.ref o1)])) (fun _ k => XS.iloadN X1.here hx rfl (hb hby d1_157) rfl  k) ?_
          refine Go.step (g' := (mkF m 160 #[.val (.int p0), .val (.ref o1), .val (.int p2), .val (.ref o3), .unset] [(.int (63 : Int32)), (.int p0), (.int (128 : Int32)), (.int (p2 + (3 : Int32))), (.ref o1)])) (fun _ k => XS.bipush X1.here hx rfl (hb hby d1_158) k) ?_
          refine Go.step (g' := (mkF m 161 #[.val (.int p0), .val (.ref o1), .val (.int p2), .val (.ref o3), .unset] [(.int (p0 &&& (63 : Int32))), (.int (128 : Int32)), (.int (p2 + (3 : Int32))), (.ref o1)])) (fun _ k => XS.iand X1.here hx rfl (hb hby d1_160) rfl k) ?_
          refine Go.step (g' := (mkF m 162 #[.val (.int p0), .val (.ref o1), .val (.int p2), .val (.ref o3), .unset] [(.int ((128 : Int32) ||| (p0 &&& (63 : Int32)))), (.int (p2 + (3 : Int32))), (.ref o1)])) (fun _ k => XS.ior X1.here hx rfl (hb hby d1_161) rfl k) ?_
          refine Go.step (g' := (mkF m 163 #[.val (.int p0), .val (.ref o1), .val (.int p2), .val (.ref o3), .unset] [(.int (((128 : Int32) ||| (p0 &&& (63 : Int32))).toInt8.toInt32)), (.int (p2 + (3 : Int32))), (.ref o1)])) (fun _ k => XS.i2b X1.here hx rfl (hb hby d1_162) rfl k) ?_
          obtain ⟨T14, h14, lc14, X14, e14, W14, N14, V14, st14⟩ := putAB X1 hx hZ e1 A_d (j := (p2 + (3 : Int32))) (own_ix ho 3) N0 g_o1 (gf := (mkF m 163 #[.val (.int p0), .val (.ref o1), .val (.int p2), .val (.ref o3), .unset] [(.int (((128 : Int32) ||| (p0 &&& (63 : Int32))).toInt8.toInt32)), (.int (p2 + (3 : Int32))), (.ref o1)])) rfl rfl (hb hby d1_163)
          refine Go.step (g' := (mkF m 164 #[.val (.int p0), .val (.ref o1), .val (.int p2), .val (.ref o3), .unset] [])) st14 ?_
          have Q15 := ((Keep.refl h0 [o1]).wr W14 (Or.inl (List.mem_of_getElem? (i := 0) rfl)))
          refine Go.step (g' := (mkF m 165 #[.val (.int p0), .val (.ref o1), .val (.int p2), .val (.ref o3), .unset] [(.ref o1)])) (fun _ k => XS.aloadN X14.here hx rfl (hb hby d1_164) rfl rfl  k) ?_
          refine Go.step (g' := (mkF m 166 #[.val (.int p0), .val (.ref o1), .val (.int p2), .val (.ref o3), .unset] [(.int p2), (.ref o1)])) (fun _ k => XS.iloadN X14.here hx rfl (hb hby d1_165) rfl  k) ?_
          refine Go.step (g' := (mkF m 167 #[.val (.int p0), .val (.ref o1), .val (.int p2), .val (.ref o3), .unset] [(.int (2 : Int32)), (.int p2), (.ref o1)])) (fun _ k => XS.iconst X14.here hx rfl (hb hby d1_166) k) ?_
          refine Go.step (g' := (mkF m 168 #[.val (.int p0), .val (.ref o1), .val (.int p2), .val (.ref o3), .unset] [(.int (p2 + (2 : Int32))), (.ref o1)])) (fun _ k => XS.iadd X14.here hx rfl (hb hby d1_167) rfl k) ?_
          refine Go.step (g' := (mkF m 171 #[.val (.int p0), .val (.ref o1), .val (.int p2), .val (.ref o3), .unset] [(.int (128 : Int32)), (.int (p2 + (2 : Int32))), (.ref o1)])) (fun _ k => XS.sipush X14.here hx rfl (hb hby d1_168) k) ?_
          refine Go.step (g' := (mkF m 172 #[.val (.int p0), .val (.ref o1), .val (.int p2), .val (.ref o3), .unset] [(.int p0), (.int (128 : Int32)), (.int (p2 + (2 : Int32))), (.ref o1)])) (fun _ k => XS.iloadN X14.here hx rfl (hb hby d1_171) rfl  k) ?_
          refine Go.step (g' := (mkF m 174 #[.val (.int p0), .val (.ref o1), .val (.int p2), .val (.ref o3), .unset] [(.int (6 : Int32)), (.int p0), (.int (128 : Int32)), (.int (p2 + (2 : Int32))), (.ref o1)])) (fun _ k => XS.bipush X14.here hx rfl (hb hby d1_172) k) ?_
          refine Go.step (g' := (mkF m 175 #[.val (.int p0), .val (.ref o1), .val (.int p2), .val (.ref o3), .unset] [(.int ((p0.toUInt32 >>> ((6 : Int32) &&& 31).toUInt32).toInt32)), (.int (128 : Int32)), (.int (p2 + (2 : Int32))), (.ref o1)])) (fun _ k => XS.iushr X14.here hx rfl (hb hby d1_174) rfl k) ?_
          refine Go.step (g' := (mkF m 177 #[.val (.int p0), .val (.ref o1), .val (.int p2), .val (.ref o3), .unset] [(.int (63 : Int32)), (.int ((p0.toUInt32 >>> ((6 : Int32) &&& 31).toUInt32).toInt32)), (.int (128 : Int32)), (.int (p2 + (2 : Int32))), (.ref o1)])) (fun _ k => XS.bipush X14.here hx rfl (hb hby d1_175) k) ?_
          refine Go.step (g' := (mkF m 178 #[.val (.int p0), .val (.ref o1), .val (.int p2), .val (.ref o3), .unset] [(.int (((p0.toUInt32 >>> ((6 : Int32) &&& 31).toUInt32).toInt32) &&& (63 : Int32))), (.int (128 : Int32)), (.int (p2 + (2 : Int32))), (.ref o1)])) (fun _ k => XS.iand X14.here hx rfl (hb hby d1_177) rfl k) ?_
          refine Go.step (g' := (mkF m 179 #[.val (.int p0), .val (.ref o1), .val (.int p2), .val (.ref o3), .unset] [(.int ((128 : Int32) ||| (((p0.toUInt32 >>> ((6 : Int32) &&& 31).toUInt32).toInt32) &&& (63 : Int32)))), (.int (p2 + (2 : Int32))), (.ref o1)])) (fun _ k => XS.ior X14.here hx rfl (hb hby d1_178) rfl k) ?_
          refine Go.step (g' := (mkF m 180 #[.val (.int p0), .val (.ref o1), .val (.int p2), .val (.ref o3), .unset] [(.int (((128 : Int32) ||| (((p0.toUInt32 >>> ((6 : Int32) &&& 31).toUInt32).toInt32) &&& (63 : Int32))).toInt8.toInt32)), (.int (p2 + (2 : Int32))), (.ref o1)])) (fun _ k => XS.i2b X14.here hx rfl (hb hby d1_179) rfl k) ?_
          obtain ⟨T16, h16, lc16, X16, e16, W16, N16, V16, st16⟩ := putAB X14 hx hZ e14 V14 (j := (p2 + (2 : Int32))) (own_ix ho 2) N14 g_o1 (gf := (mkF m 180 #[.val (.int p0), .val (.ref o1), .val (.int p2), .val (.ref o3), .unset] [(.int (((128 : Int32) ||| (((p0.toUInt32 >>> ((6 : Int32) &&& 31).toUInt32).toInt32) &&& (63 : Int32))).toInt8.toInt32)), (.int (p2 + (2 : Int32))), (.ref o1)])) rfl rfl (hb hby d1_180)
          refine Go.step (g' := (mkF m 181 #[.val (.int p0), .val (.ref o1), .val (.int p2), .val (.ref o3), .unset] [])) st16 ?_
          have Q17 := (Nat.le_trans (Nat.le_trans Z0 (Keep.of_wr W14).1) (Keep.of_wr W16).1)
          refine Go.step (g' := (mkF m 182 #[.val (.int p0), .val (.ref o1), .val (.int p2), .val (.ref o3), .unset] [(.ref o1)])) (fun _ k => XS.aloadN X16.here hx rfl (hb hby d1_181) rfl rfl  k) ?_
          refine Go.step (g' := (mkF m 183 #[.val (.int p0), .val (.ref o1), .val (.int p2), .val (.ref o3), .unset] [(.int p2), (.ref o1)])) (fun _ k => XS.iloadN X16.here hx rfl (hb hby d1_182) rfl  k) ?_
          refine Go.step (g' := (mkF m 184 #[.val (.int p0), .val (.ref o1), .val (.int p2), .val (.ref o3), .unset] [(.int (1 : Int32)), (.int p2), (.ref o1)])) (fun _ k => XS.iconst X16.here hx rfl (hb hby d1_183) k) ?_
          refine Go.step (g' := (mkF m 185 #[.val (.int p0), .val (.ref o1), .val (.int p2), .val (.ref o3), .unset] [(.int (p2 + (1 : Int32))), (.ref o1)])) (fun _ k => XS.iadd X16.here hx rfl (hb hby d1_184) rfl k) ?_
          refine Go.step (g' := (mkF m 188 #[.val (.int p0), .val (.ref o1), .val (.int p2), .val (.ref o3), .unset] [(.int (128 : Int32)), (.int (p2 + (1 : Int32))), (.ref o1)])) (fun _ k => XS.sipush X16.here hx rfl (hb hby d1_185) k) ?_
          refine Go.step (g' := (mkF m 189 #[.val (.int p0), .val (.ref o1), .val (.int p2), .val (.ref o3), .unset] [(.int p0), (.int (128 : Int32)), (.int (p2 + (1 : Int32))), (.ref o1)])) (fun _ k => XS.iloadN X16.here hx rfl (hb hby d1_188) rfl  k) ?_
          refine Go.step (g' := (mkF m 191 #[.val (.int p0), .val (.ref o1), .val (.int p2), .val (.ref o3), .unset] [(.int (12 : Int32)), (.int p0), (.int (128 : Int32)), (.int (p2 + (1 : Int32))), (.ref o1)])) (fun _ k => XS.bipush X16.here hx rfl (hb hby d1_189) k) ?_
          refine Go.step (g' := (mkF m 192 #[.val (.int p0), .val (.ref o1), .val (.int p2), .val (.ref o3), .unset] [(.int ((p0.toUInt32 >>> ((12 : Int32) &&& 31).toUInt32).toInt32)), (.int (128 : Int32)), (.int (p2 + (1 : Int32))), (.ref o1)])) (fun _ k => XS.iushr X16.here hx rfl (hb hby d1_191) rfl k) ?_
          refine Go.step (g' := (mkF m 194 #[.val (.int p0), .val (.ref o1), .val (.int p2), .val (.ref o3), .unset] [(.int (63 : Int32)), (.int ((p0.toUInt32 >>> ((12 : Int32) &&& 31).toUInt32).toInt32)), (.int (128 : Int32)), (.int (p2 + (1 : Int32))), (.ref o1)])) (fun _ k => XS.bipush X16.here hx rfl (hb hby d1_192) k) ?_
          refine Go.step (g' := (mkF m 195 #[.val (.int p0), .val (.ref o1), .val (.int p2), .val (.ref o3), .unset] [(.int (((p0.toUInt32 >>> ((12 : Int32) &&& 31).toUInt32).toInt32) &&& (63 : Int32))), (.int (128 : Int32)), (.int (p2 + (1 : Int32))), (.ref o1)])) (fun _ k => XS.iand X16.here hx rfl (hb hby d1_194) rfl k) ?_
          refine Go.step (g' := (mkF m 196 #[.val (.int p0), .val (.ref o1), .val (.int p2), .val (.ref o3), .unset] [(.int ((128 : Int32) ||| (((p0.toUInt32 >>> ((12 : Int32) &&& 31).toUInt32).toInt32) &&& (63 : Int32)))), (.int (p2 + (1 : Int32))), (.ref o1)])) (fun _ k => XS.ior X16.here hx rfl (hb hby d1_195) rfl k) ?_
          refine Go.step (g' := (mkF m 197 #[.val (.int p0), .val (.ref o1), .val (.int p2), .val (.ref o3), .unset] [(.int (((128 : Int32) ||| (((p0.toUInt32 >>> ((12 : Int32) &&& 31).toUInt32).toInt32) &&& (63 : Int32))).toInt8.toInt32)), (.int (p2 + (1 : Int32))), (.ref o1)])) (fun _ k => XS.i2b X16.here hx rfl (hb hby d1_196) rfl k) ?_
          obtain ⟨T18, h18, lc18, X18, e18, W18, N18, V18, st18⟩ := putAB X16 hx hZ e16 V16 (j := (p2 + (1 : Int32))) (own_ix ho 1) N16 g_o1 (gf := (mkF m 197 #[.val (.int p0), .val (.ref o1), .val (.int p2), .val (.ref o3), .unset] [(.int (((128 : Int32) ||| (((p0.toUInt32 >>> ((12 : Int32) &&& 31).toUInt32).toInt32) &&& (63 : Int32))).toInt8.toInt32)), (.int (p2 + (1 : Int32))), (.ref o1)])) rfl rfl (hb hby d1_197)
          refine Go.step (g' := (mkF m 198 #[.val (.int p0), .val (.ref o1), .val (.int p2), .val (.ref o3), .unset] [])) st18 ?_
          have Q19 := ((Q15.wr W16 (Or.inl (List.mem_of_getElem? (i := 0) rfl))).wr W18 (Or.inl (List.mem_of_getElem? (i := 0) rfl)))
          refine Go.step (g' := (mkF m 199 #[.val (.int p0), .val (.ref o1), .val (.int p2), .val (.ref o3), .unset] [(.ref o1)])) (fun _ k => XS.aloadN X18.here hx rfl (hb hby d1_198) rfl rfl  k) ?_
          refine Go.step (g' := (mkF m 200 #[.val (.int p0), .val (.ref o1), .val (.int p2), .val (.ref o3), .unset] [(.int p2), (.ref o1)])) (fun _ k => XS.iloadN X18.here hx rfl (hb hby d1_199) rfl  k) ?_
          refine Go.step (g' := (mkF m 203 #[.val (.int p0), .val (.ref o1), .val (.int p2), .val (.ref o3), .unset] [(.int (240 : Int32)), (.int p2), (.ref o1)])) (fun _ k => XS.sipush X18.here hx rfl (hb hby d1_200) k) ?_
          refine Go.step (g' := (mkF m 204 #[.val (.int p0), .val (.ref o1), .val (.int p2), .val (.ref o3), .unset] [(.int p0), (.int (240 : Int32)), (.int p2), (.ref o1)])) (fun _ k => XS.iloadN X18.here hx rfl (hb hby d1_203) rfl  k) ?_
          refine Go.step (g' := (mkF m 206 #[.val (.int p0), .val (.ref o1), .val (.int p2), .val (.ref o3), .unset] [(.int (18 : Int32)), (.int p0), (.int (240 : Int32)), (.int p2), (.ref o1)])) (fun _ k => XS.bipush X18.here hx rfl (hb hby d1_204) k) ?_
          refine Go.step (g' := (mkF m 207 #[.val (.int p0), .val (.ref o1), .val (.int p2), .val (.ref o3), .unset] [(.int ((p0.toUInt32 >>> ((18 : Int32) &&& 31).toUInt32).toInt32)), (.int (240 : Int32)), (.int p2), (.ref o1)])) (fun _ k => XS.iushr X18.here hx rfl (hb hby d1_206) rfl k) ?_
          refine Go.step (g' := (mkF m 208 #[.val (.int p0), .val (.ref o1), .val (.int p2), .val (.ref o3), .unset] [(.int ((240 : Int32) ||| ((p0.toUInt32 >>> ((18 : Int32) &&& 31).toUInt32).toInt32))), (.int p2), (.ref o1)])) (fun _ k => XS.ior X18.here hx rfl (hb hby d1_207) rfl k) ?_
          refine Go.step (g' := (mkF m 209 #[.val (.int p0), .val (.ref o1), .val (.int p2), .val (.ref o3), .unset] [(.int (((240 : Int32) ||| ((p0.toUInt32 >>> ((18 : Int32) &&& 31).toUInt32).toInt32)).toInt8.toInt32)), (.int p2), (.ref o1)])) (fun _ k => XS.i2b X18.here hx rfl (hb hby d1_208) rfl k) ?_
          obtain ⟨T20, h20, lc20, X20, e20, W20, N20, V20, st20⟩ := putAB X18 hx hZ e18 V18 (j := p2) (own_ix0 ho) N18 g_o1 (gf := (mkF m 209 #[.val (.int p0), .val (.ref o1), .val (.int p2), .val (.ref o3), .unset] [(.int (((240 : Int32) ||| ((p0.toUInt32 >>> ((18 : Int32) &&& 31).toUInt32).toInt32)).toInt8.toInt32)), (.int p2), (.ref o1)])) rfl rfl (hb hby d1_209)
          refine Go.step (g' := (mkF m 210 #[.val (.int p0), .val (.ref o1), .val (.int p2), .val (.ref o3), .unset] [])) st20 ?_
          have Q21 := (Nat.le_trans (Nat.le_trans Q17 (Keep.of_wr W18).1) (Keep.of_wr W20).1)
          refine Go.step (g' := (mkF m 211 #[.val (.int p0), .val (.ref o1), .val (.int p2), .val (.ref o3), .unset] [(.int (4 : Int32))])) (fun _ k => XS.iconst X20.here hx rfl (hb hby d1_210) k) ?_
          refine Go.step (g' := (mkF m 213 #[.val (.int p0), .val (.ref o1), .val (.int p2), .val (.ref o3), .val (.int (4 : Int32))] [])) (fun _ k => XS.istore X20.here hx rfl (hb hby d1_211) rfl (l' := #[.val (.int p0), .val (.ref o1), .val (.int p2), .val (.ref o3), .val (.int (4 : Int32))]) rfl k) ?_
          refine Go.step (g' := (mkF m 224 #[.val (.int p0), .val (.ref o1), .val (.int p2), .val (.ref o3), .val (.int (4 : Int32))] [])) (fun _ k => XS.goto X20.here hx rfl (pc0 := 213) (pc' := 224) rfl (hb hby d1_213) (by decide) (by decide) k) ?_
          skip
          refine Go.step (g' := (mkF m 226 #[.val (.int p0), .val (.ref o1), .val (.int p2), .val (.ref o3), .val (.int (4 : Int32))] [(.int (4 : Int32))])) (fun _ k => XS.iload X20.here hx rfl (hb hby d1_224) rfl  k) ?_
          exact Go.retW X20 hx hlk (t := .int) Bd.returns rfl (Or.inl ⟨rfl, Or.inl rfl, _, rfl⟩) (hb hby d1_226) (by decide) (by decide) (by rw [e20]; exact ⟨_, _, rfl, N20, (Q19.wr W20 (Or.inl (List.mem_of_getElem? (i := 0) rfl))), V20, (Enc.c4 (by assumption) (by assumption))⟩)
        · skip
          refine Go.step (g' := (mkF m 216 #[.val (.int p0), .val (.ref o1), .val (.int p2), .val (.ref o3), .unset] [])) (fun _ k => XS.icmpYes X1.here hx rfl (pc0 := 147) (pc' := 216) rfl (hb hby d1_147) rfl (flt hc147).2.1 (by decide) (by decide) k) ?_
          refine Go.step (g' := (mkF m 217 #[.val (.int p0), .val (.ref o1), .val (.int p2), .val (.ref o3), .unset] [(.int p0)])) (fun _ k => XS.iloadN X1.here hx rfl (hb hby d1_216) rfl  k) ?_
          refine Go.step (g' := (mkF m 218 #[.val (.int p0), .val (.ref o1), .val (.int p2), .val (.ref o3), .unset] [(.ref o1), (.int p0)])) (fun _ k => XS.aloadN X1.here hx rfl (hb hby d1_217) rfl rfl  k) ?_
          refine Go.step (g' := (mkF m 219 #[.val (.int p0), .val (.ref o1), .val (.int p2), .val (.ref o3), .unset] [(.int p2), (.ref o1), (.int p0)])) (fun _ k => XS.iloadN X1.here hx rfl (hb hby d1_218) rfl  k) ?_
          obtain ⟨_, _, ⟨T22, L22, k22, n22⟩, -, X22, ⟨Lc22, hQ22, l22, y22, z22⟩, st22⟩ := Jvm.LawKit.callS X1 hx (y := (⟨"com/example/ucs_to_octets/ucstooctets/Utf8", "encodeAboveFourOctets", "(I[BI)I"⟩ : MethodName)) hown (mvT hZ (hw _ (List.mem_of_getElem? (i := 37) rfl))) (mvT hZ (hw _ (List.mem_of_getElem? (i := 38) rfl))) (mvT hZ (hw _ (List.mem_of_getElem? (i := 8) rfl))) (mvT hZ (hw _ (List.mem_of_getElem? (i := 39) rfl))) (by decide) (backOf (W := 0) (rm6 l Z a0 hw [] p0 o1 p2 g h0 n0 Z0 A_d g_o1 ho) hZ (hw _ (List.mem_of_getElem? (i := 39) rfl)) (hw _ (List.mem_of_getElem? (i := 8) rfl)) (by decide) (by decide)) (g := (mkF m 219 #[.val (.int p0), .val (.ref o1), .val (.int p2), .val (.ref o3), .unset] [(.int p2), (.ref o1), (.int p0)])) rfl (by rw [hml]; rfl) (argsL := [(.int p0), (.ref o1), (.int p2)]) (rest := []) (lenOf pd_1 rfl) rfl (by show 2 * 0 + _ ≤ _; exact Nat.le_of_eq rfl) (hb hby d1_219) (fun _ _ => ⟨rfl, e1, (by decide : 0 + 0 ≤ _), (by decide : 0 + 0 ≤ _)⟩)
          dsimp only [Pt.U, Pt.locs, Pt.cells, Pt.slots] at X22 l22 y22 z22 st22 hQ22
          subst l22 y22 z22
          obtain ⟨le22, gg22, rfl, N22q, K22, Ac22, En22⟩ := hQ22
          obtain ⟨lc22, X22, N22⟩ := own_pack X22 (Fr.app N0 N22q)
          have Q23 := ((Keep.refl h0 [o1]).trans K22 (allS (Or.inl (List.mem_of_getElem? (i := 0) rfl)) all0))
          refine Go.step (g' := (mkF m 222 #[.val (.int p0), .val (.ref o1), .val (.int p2), .val (.ref o3), .unset] [(.int le22)])) st22 ?_
          refine Go.step (g' := (mkF m 224 #[.val (.int p0), .val (.ref o1), .val (.int p2), .val (.ref o3), .val (.int le22)] [])) (fun _ k => XS.istore X22.here hx rfl (hb hby d1_222) rfl (l' := #[.val (.int p0), .val (.ref o1), .val (.int p2), .val (.ref o3), .val (.int le22)]) rfl k) ?_
          skip
          refine Go.step (g' := (mkF m 226 #[.val (.int p0), .val (.ref o1), .val (.int p2), .val (.ref o3), .val (.int le22)] [(.int le22)])) (fun _ k => XS.iload X22.here hx rfl (hb hby d1_224) rfl  k) ?_
          exact Go.retW X22 hx hlk (t := .int) Bd.returns rfl (Or.inl ⟨rfl, Or.inl rfl, _, rfl⟩) (hb hby d1_226) (by decide) (by decide) (by exact ⟨_, _, rfl, N22, Q23, Ac22, (Enc.c5 (by assumption) En22)⟩)
theorem d3_0 : decode method_3_code 0 = .ok (.iload_n 1, 1) := by decide +kernel
theorem d3_1 : decode method_3_code 1 = .ok (.iload_n 2, 1) := by decide +kernel
theorem d3_2 : decode method_3_code 2 = .ok (.if_icmp .lt 10, 3) := by decide +kernel
theorem d3_5 : decode method_3_code 5 = .ok (.iload_n 1, 1) := by decide +kernel
theorem d3_6 : decode method_3_code 6 = .ok (.iload_n 2, 1) := by decide +kernel
theorem d3_7 : decode method_3_code 7 = .ok (.iload_n 3, 1) := by decide +kernel
theorem d3_8 : decode method_3_code 8 = .ok (.iadd, 1) := by decide +kernel
theorem d3_9 : decode method_3_code 9 = .ok (.if_icmp .lt 11, 3) := by decide +kernel
theorem d3_12 : decode method_3_code 12 = .ok (.aload_n 0, 1) := by decide +kernel
theorem d3_13 : decode method_3_code 13 = .ok (.iload_n 1, 1) := by decide +kernel
theorem d3_14 : decode method_3_code 14 = .ok (.baload, 1) := by decide +kernel
theorem d3_15 : decode method_3_code 15 = .ok (.iload 4, 2) := by decide +kernel
theorem d3_17 : decode method_3_code 17 = .ok (.if_icmp .ne 7, 3) := by decide +kernel
theorem d3_20 : decode method_3_code 20 = .ok (.iconst 1, 1) := by decide +kernel
theorem d3_21 : decode method_3_code 21 = .ok (.goto 4, 3) := by decide +kernel
theorem d3_24 : decode method_3_code 24 = .ok (.iconst 0, 1) := by decide +kernel
theorem d3_25 : decode method_3_code 25 = .ok (.ireturn, 1) := by decide +kernel
theorem pn_3 : plainName "com/example/ucs_to_octets/ucstooctets/Utf8EncodePinLaw" = true := by first | (simp [plainName, overriddenIn]; done) | decide +kernel
theorem ef_3 (m : MethodId) (o0 : Addr) (p1 : Int32) (p2 : Int32) (p3 : Int32) (p4 : Int32) : entryFrame m #[(.ref o0), (.int p1), (.int p2), (.int p3), (.int p4)] 5 = mkF m 0 #[.val (.ref o0), .val (.int p1), .val (.int p2), .val (.int p3), .val (.int p4)] [] := by first | (simp [entryFrame, mkF, argsToLocals, Value.category]; done) | rfl
def f3_25 (v25_s0 : Int32) : Int32 := (nar .boolean v25_s0)
def f3_24 : Int32 := (f3_25 (0 : Int32))
def f3_20 : Int32 := (f3_25 (1 : Int32))
def f3_12 (p1 : Int32) (p4 : Int32) (g : Nat → Int32) : Int32 := if (g p1.toNatClampNeg) = p4 then f3_20 else f3_24
def f3_5 (p1 : Int32) (p2 : Int32) (p3 : Int32) (p4 : Int32) (g : Nat → Int32) : Int32 := if p1 < (p2 + p3) then f3_20 else (f3_12 p1 p4 g)
def f3_0 (p1 : Int32) (p2 : Int32) (p3 : Int32) (p4 : Int32) (g : Nat → Int32) : Int32 := if p1 < p2 then (f3_12 p1 p4 g) else (f3_5 p1 p2 p3 p4 g)
set_option maxRecDepth 65536 in
set_option maxHeartbeats 40000000 in
theorem rm3 (l : Launch) (Z : State) (a0 : Array Value) (hw : ∀ d ∈ tables_1, d.before a0 Z = true) (ws : List Jvm.Cond) (o0 : Addr) (p1 : Int32) (p2 : Int32) (p3 : Int32) (p4 : Int32) (g : Nat → Int32) (h0 : Heap) (A_d : IA Z h0 o0 .byte 9 (fun k => .int (g k))) (hj : ¬ (p1 < 0 ∨ 9 ≤ p1.toNatClampNeg)) :
    MetFree l (⟨"com/example/ucs_to_octets/ucstooctets/Utf8EncodePinLaw", "untouched", "([BIIIB)Z"⟩ : MethodName) (head1 (Jvm.Cond.code (⟨"com/example/ucs_to_octets/ucstooctets/Utf8EncodePinLaw", "untouched", "([BIIIB)Z"⟩ : MethodName) method_3_code 5 (some .boolean) :: ws) ({ frames := 0, cells := 0, slots := 0, locals := 0 } : Room)) (fun a U => a = #[(.ref o0), (.int p1), (.int p2), (.int p3), (.int p4)] ∧ Z.Warmed39 U.vm ∧ U.heap = h0) (fun _ _ _ _ _ => True) (fun _ U o U' => ∃ v L, o = .returned v ∧ (PureQ (.int (f3_0 p1 p2 p3 p4 g)) h0) v U'.heap L ∧ FrameEnd U o U' L ({ frames := 0, cells := 0, slots := 0, locals := 0 } : Room).cells ({ frames := 0, cells := 0, slots := 0, locals := 0 } : Room).slots) := by
  refine MetFree.of_bodySF (plainFor_of_name pn_3) hisR ?_
  intro p e s m args below meth c s₁ Bd hml0 hP hK
  obtain ⟨rfl, hZ, hh⟩ := hP
  have hx := Bd.exec
  have hby := Bd.bytes
  have hlk : meth.locks = false := BodyLoose.notSynchronized Bd
  have hml : c.maxLocals = 5 := hml0
  have hown : s.vm.findClass "com/example/ucs_to_octets/ucstooctets/Utf8EncodePinLaw" = some m.cls := findClass_of_methodNamed Bd.named
  have hnm := (name_of_methodNamed Bd.named Bd.method).1
  have X0 : Stand p l e ({ frames := 0, cells := 0, slots := 0, locals := 0 } : Room) s m #[(.ref o0), (.int p1), (.int p2), (.int p3), (.int p4)] below meth c s₁ ([] : List Loc) 0 0 := Stand.of_body Bd
  have e0 : s₁.heap = h0 := by rw [← hh, Bd.state]; rfl
  show Go p e below s 0 0 (PureQ (.int (f3_0 p1 p2 p3 p4 g)) h0) s₁ (entryFrame m #[(.ref o0), (.int p1), (.int p2), (.int p3), (.int p4)] 5)
  rw [ef_3 m o0 p1 p2 p3 p4]
  refine Go.step (g' := (mkF m 1 #[.val (.ref o0), .val (.int p1), .val (.int p2), .val (.int p3), .val (.int p4)] [(.int p1)])) (fun _ k => XS.iloadN X0.here hx rfl (hb hby d3_0) rfl  k) ?_
  refine Go.step (g' := (mkF m 2 #[.val (.ref o0), .val (.int p1), .val (.int p2), .val (.int p3), .val (.int p4)] [(.int p2), (.int p1)])) (fun _ k => XS.iloadN X0.here hx rfl (hb hby d3_1) rfl  k) ?_
  have t25 : ∀ (v25_s0 : Int32), Go p e below s 0 0 (PureQ (.int (f3_25 v25_s0)) h0) s₁ (mkF m 25 #[.val (.ref o0), .val (.int p1), .val (.int p2), .val (.int p3), .val (.int p4)] [(.int v25_s0)]) := by
    intro v25_s0
    exact Go.retN X0 hx hlk (t := .boolean) Bd.returns (by simp) (hb hby d3_25) (by decide) (by decide) ⟨rfl, rfl, e0⟩
  have t20 : Go p e below s 0 0 (PureQ (.int f3_20) h0) s₁ (mkF m 20 #[.val (.ref o0), .val (.int p1), .val (.int p2), .val (.int p3), .val (.int p4)] []) := by
    refine Go.step (g' := (mkF m 21 #[.val (.ref o0), .val (.int p1), .val (.int p2), .val (.int p3), .val (.int p4)] [(.int (1 : Int32))])) (fun _ k => XS.iconst X0.here hx rfl (hb hby d3_20) k) ?_
    refine Go.step (g' := (mkF m 25 #[.val (.ref o0), .val (.int p1), .val (.int p2), .val (.int p3), .val (.int p4)] [(.int (1 : Int32))])) (fun _ k => XS.goto X0.here hx rfl (pc0 := 21) (pc' := 25) rfl (hb hby d3_21) (by decide) (by decide) k) ?_
    rw [show f3_20 = (f3_25 (1 : Int32)) from rfl]
    exact t25 (1 : Int32)
  have t12 : Go p e below s 0 0 (PureQ (.int (f3_12 p1 p4 g)) h0) s₁ (mkF m 12 #[.val (.ref o0), .val (.int p1), .val (.int p2), .val (.int p3), .val (.int p4)] []) := by
    refine Go.step (g' := (mkF m 13 #[.val (.ref o0), .val (.int p1), .val (.int p2), .val (.int p3), .val (.int p4)] [(.ref o0)])) (fun _ k => XS.aloadN X0.here hx rfl (hb hby d3_12) rfl rfl  k) ?_
    refine Go.step (g' := (mkF m 14 #[.val (.ref o0), .val (.int p1), .val (.int p2), .val (.int p3), .val (.int p4)] [(.int p1), (.ref o0)])) (fun _ k => XS.iloadN X0.here hx rfl (hb hby d3_13) rfl  k) ?_
    refine Go.step (g' := (mkF m 15 #[.val (.ref o0), .val (.int p1), .val (.int p2), .val (.int p3), .val (.int p4)] [(.int (g p1.toNatClampNeg))])) (fun _ k => getAB X0 hx hZ e0 A_d (j := p1) hj (gf := (mkF m 14 #[.val (.ref o0), .val (.int p1), .val (.int p2), .val (.int p3), .val (.int p4)] [(.int p1), (.ref o0)])) rfl rfl (hb hby d3_14) k) ?_
    refine Go.step (g' := (mkF m 17 #[.val (.ref o0), .val (.int p1), .val (.int p2), .val (.int p3), .val (.int p4)] [(.int p4), (.int (g p1.toNatClampNeg))])) (fun _ k => XS.iload X0.here hx rfl (hb hby d3_15) rfl  k) ?_
    by_cases hc17 : (g p1.toNatClampNeg) = p4
    · rw [show (f3_12 p1 p4 g) = f3_20 from if_pos hc17]
      refine Go.step (g' := (mkF m 20 #[.val (.ref o0), .val (.int p1), .val (.int p2), .val (.int p3), .val (.int p4)] [])) (fun _ k => XS.icmpNo X0.here hx rfl (hb hby d3_17) rfl (teq hc17).2 k) ?_
      exact t20 
    · rw [show (f3_12 p1 p4 g) = f3_24 from if_neg hc17]
      refine Go.step (g' := (mkF m 24 #[.val (.ref o0), .val (.int p1), .val (.int p2), .val (.int p3), .val (.int p4)] [])) (fun _ k => XS.icmpYes X0.here hx rfl (pc0 := 17) (pc' := 24) rfl (hb hby d3_17) rfl (feq hc17).2 (by decide) (by decide) k) ?_
      refine Go.step (g' := (mkF m 25 #[.val (.ref o0), .val (.int p1), .val (.int p2), .val (.int p3), .val (.int p4)] [(.int (0 : Int32))])) (fun _ k => XS.iconst X0.here hx rfl (hb hby d3_24) k) ?_
      rw [show f3_24 = (f3_25 (0 : Int32)) from rfl]
      exact t25 (0 : Int32)
  by_cases hc2 : p1 < p2
  · rw [show (f3_0 p1 p2 p3 p4 g) = (f3_12 p1 p4 g) from if_pos hc2]
    refine Go.step (g' := (mkF m 12 #[.val (.ref o0), .val (.int p1), .val (.int p2), .val (.int p3), .val (.int p4)] [])) (fun _ k => XS.icmpYes X0.here hx rfl (pc0 := 2) (pc' := 12) rfl (hb hby d3_2) rfl (tlt hc2).1 (by decide) (by decide) k) ?_
    exact t12 
  · rw [show (f3_0 p1 p2 p3 p4 g) = (f3_5 p1 p2 p3 p4 g) from if_neg hc2]
    refine Go.step (g' := (mkF m 5 #[.val (.ref o0), .val (.int p1), .val (.int p2), .val (.int p3), .val (.int p4)] [])) (fun _ k => XS.icmpNo X0.here hx rfl (hb hby d3_2) rfl (flt hc2).1 k) ?_
    refine Go.step (g' := (mkF m 6 #[.val (.ref o0), .val (.int p1), .val (.int p2), .val (.int p3), .val (.int p4)] [(.int p1)])) (fun _ k => XS.iloadN X0.here hx rfl (hb hby d3_5) rfl  k) ?_
    refine Go.step (g' := (mkF m 7 #[.val (.ref o0), .val (.int p1), .val (.int p2), .val (.int p3), .val (.int p4)] [(.int p2), (.int p1)])) (fun _ k => XS.iloadN X0.here hx rfl (hb hby d3_6) rfl  k) ?_
    refine Go.step (g' := (mkF m 8 #[.val (.ref o0), .val (.int p1), .val (.int p2), .val (.int p3), .val (.int p4)] [(.int p3), (.int p2), (.int p1)])) (fun _ k => XS.iloadN X0.here hx rfl (hb hby d3_7) rfl  k) ?_
    refine Go.step (g' := (mkF m 9 #[.val (.ref o0), .val (.int p1), .val (.int p2), .val (.int p3), .val (.int p4)] [(.int (p2 + p3)), (.int p1)])) (fun _ k => XS.iadd X0.here hx rfl (hb hby d3_8) rfl k) ?_
    by_cases hc9 : p1 < (p2 + p3)
    · rw [show (f3_5 p1 p2 p3 p4 g) = f3_20 from if_pos hc9]
      refine Go.step (g' := (mkF m 20 #[.val (.ref o0), .val (.int p1), .val (.int p2), .val (.int p3), .val (.int p4)] [])) (fun _ k => XS.icmpYes X0.here hx rfl (pc0 := 9) (pc' := 20) rfl (hb hby d3_9) rfl (tlt hc9).1 (by decide) (by decide) k) ?_
      exact t20 
    · rw [show (f3_5 p1 p2 p3 p4 g) = (f3_12 p1 p4 g) from if_neg hc9]
      refine Go.step (g' := (mkF m 12 #[.val (.ref o0), .val (.int p1), .val (.int p2), .val (.int p3), .val (.int p4)] [])) (fun _ k => XS.icmpNo X0.here hx rfl (hb hby d3_9) rfl (flt hc9).1 k) ?_
      exact t12 
theorem d4_0 : decode method_4_code 0 = .ok (.iload_n 3, 1) := by decide +kernel
theorem d4_1 : decode method_4_code 1 = .ok (.iload_n 2, 1) := by decide +kernel
theorem d4_2 : decode method_4_code 2 = .ok (.if_icmp .ge 18, 3) := by decide +kernel
theorem d4_5 : decode method_4_code 5 = .ok (.aload_n 0, 1) := by decide +kernel
theorem d4_6 : decode method_4_code 6 = .ok (.iload_n 1, 1) := by decide +kernel
theorem d4_7 : decode method_4_code 7 = .ok (.iload_n 3, 1) := by decide +kernel
theorem d4_8 : decode method_4_code 8 = .ok (.iadd, 1) := by decide +kernel
theorem d4_9 : decode method_4_code 9 = .ok (.baload, 1) := by decide +kernel
theorem d4_10 : decode method_4_code 10 = .ok (.sipush 192, 3) := by decide +kernel
theorem d4_13 : decode method_4_code 13 = .ok (.iand, 1) := by decide +kernel
theorem d4_14 : decode method_4_code 14 = .ok (.sipush 128, 3) := by decide +kernel
theorem d4_17 : decode method_4_code 17 = .ok (.if_icmp .ne 7, 3) := by decide +kernel
theorem d4_20 : decode method_4_code 20 = .ok (.iconst 1, 1) := by decide +kernel
theorem d4_21 : decode method_4_code 21 = .ok (.goto 4, 3) := by decide +kernel
theorem d4_24 : decode method_4_code 24 = .ok (.iconst 0, 1) := by decide +kernel
theorem d4_25 : decode method_4_code 25 = .ok (.ireturn, 1) := by decide +kernel
theorem pn_4 : plainName "com/example/ucs_to_octets/ucstooctets/Utf8EncodePinLaw" = true := by first | (simp [plainName, overriddenIn]; done) | decide +kernel
theorem ef_4 (m : MethodId) (o0 : Addr) (p1 : Int32) (p2 : Int32) (p3 : Int32) : entryFrame m #[(.ref o0), (.int p1), (.int p2), (.int p3)] 4 = mkF m 0 #[.val (.ref o0), .val (.int p1), .val (.int p2), .val (.int p3)] [] := by first | (simp [entryFrame, mkF, argsToLocals, Value.category]; done) | rfl
def f4_25 (v25_s0 : Int32) : Int32 := (nar .boolean v25_s0)
def f4_20 : Int32 := (f4_25 (1 : Int32))
def f4_24 : Int32 := (f4_25 (0 : Int32))
def f4_5 (p1 : Int32) (p3 : Int32) (g : Nat → Int32) : Int32 := if ((g (p1 + p3).toNatClampNeg) &&& (192 : Int32)) = (128 : Int32) then f4_20 else f4_24
def f4_0 (p1 : Int32) (p2 : Int32) (p3 : Int32) (g : Nat → Int32) : Int32 := if p3 < p2 then (f4_5 p1 p3 g) else f4_20
set_option maxRecDepth 65536 in
set_option maxHeartbeats 40000000 in
theorem rm4 (l : Launch) (Z : State) (a0 : Array Value) (hw : ∀ d ∈ tables_1, d.before a0 Z = true) (ws : List Jvm.Cond) (o0 : Addr) (p1 : Int32) (p2 : Int32) (p3 : Int32) (g : Nat → Int32) (h0 : Heap) (A_d : IA Z h0 o0 .byte 9 (fun k => .int (g k))) (hj : ¬ (p1 + p3 < 0 ∨ 9 ≤ (p1 + p3).toNatClampNeg)) :
    MetFree l (⟨"com/example/ucs_to_octets/ucstooctets/Utf8EncodePinLaw", "tailOk", "([BIII)Z"⟩ : MethodName) (head1 (Jvm.Cond.code (⟨"com/example/ucs_to_octets/ucstooctets/Utf8EncodePinLaw", "tailOk", "([BIII)Z"⟩ : MethodName) method_4_code 4 (some .boolean) :: ws) ({ frames := 0, cells := 0, slots := 0, locals := 0 } : Room)) (fun a U => a = #[(.ref o0), (.int p1), (.int p2), (.int p3)] ∧ Z.Warmed39 U.vm ∧ U.heap = h0) (fun _ _ _ _ _ => True) (fun _ U o U' => ∃ v L, o = .returned v ∧ (PureQ (.int (f4_0 p1 p2 p3 g)) h0) v U'.heap L ∧ FrameEnd U o U' L ({ frames := 0, cells := 0, slots := 0, locals := 0 } : Room).cells ({ frames := 0, cells := 0, slots := 0, locals := 0 } : Room).slots) := by
  refine MetFree.of_bodySF (plainFor_of_name pn_4) hisR ?_
  intro p e s m args below meth c s₁ Bd hml0 hP hK
  obtain ⟨rfl, hZ, hh⟩ := hP
  have hx := Bd.exec
  have hby := Bd.bytes
  have hlk : meth.locks = false := BodyLoose.notSynchronized Bd
  have hml : c.maxLocals = 4 := hml0
  have hown : s.vm.findClass "com/example/ucs_to_octets/ucstooctets/Utf8EncodePinLaw" = some m.cls := findClass_of_methodNamed Bd.named
  have hnm := (name_of_methodNamed Bd.named Bd.method).1
  have X0 : Stand p l e ({ frames := 0, cells := 0, slots := 0, locals := 0 } : Room) s m #[(.ref o0), (.int p1), (.int p2), (.int p3)] below meth c s₁ ([] : List Loc) 0 0 := Stand.of_body Bd
  have e0 : s₁.heap = h0 := by rw [← hh, Bd.state]; rfl
  show Go p e below s 0 0 (PureQ (.int (f4_0 p1 p2 p3 g)) h0) s₁ (entryFrame m #[(.ref o0), (.int p1), (.int p2), (.int p3)] 4)
  rw [ef_4 m o0 p1 p2 p3]
  refine Go.step (g' := (mkF m 1 #[.val (.ref o0), .val (.int p1), .val (.int p2), .val (.int p3)] [(.int p3)])) (fun _ k => XS.iloadN X0.here hx rfl (hb hby d4_0) rfl  k) ?_
  refine Go.step (g' := (mkF m 2 #[.val (.ref o0), .val (.int p1), .val (.int p2), .val (.int p3)] [(.int p2), (.int p3)])) (fun _ k => XS.iloadN X0.here hx rfl (hb hby d4_1) rfl  k) ?_
  have t25 : ∀ (v25_s0 : Int32), Go p e below s 0 0 (PureQ (.int (f4_25 v25_s0)) h0) s₁ (mkF m 25 #[.val (.ref o0), .val (.int p1), .val (.int p2), .val (.int p3)] [(.int v25_s0)]) := by
    intro v25_s0
    exact Go.retN X0 hx hlk (t := .boolean) Bd.returns (by simp) (hb hby d4_25) (by decide) (by decide) ⟨rfl, rfl, e0⟩
  have t20 : Go p e below s 0 0 (PureQ (.int f4_20) h0) s₁ (mkF m 20 #[.val (.ref o0), .val (.int p1), .val (.int p2), .val (.int p3)] []) := by
    refine Go.step (g' := (mkF m 21 #[.val (.ref o0), .val (.int p1), .val (.int p2), .val (.int p3)] [(.int (1 : Int32))])) (fun _ k => XS.iconst X0.here hx rfl (hb hby d4_20) k) ?_
    refine Go.step (g' := (mkF m 25 #[.val (.ref o0), .val (.int p1), .val (.int p2), .val (.int p3)] [(.int (1 : Int32))])) (fun _ k => XS.goto X0.here hx rfl (pc0 := 21) (pc' := 25) rfl (hb hby d4_21) (by decide) (by decide) k) ?_
    rw [show f4_20 = (f4_25 (1 : Int32)) from rfl]
    exact t25 (1 : Int32)
  by_cases hc2 : p3 < p2
  · rw [show (f4_0 p1 p2 p3 g) = (f4_5 p1 p3 g) from if_pos hc2]
    refine Go.step (g' := (mkF m 5 #[.val (.ref o0), .val (.int p1), .val (.int p2), .val (.int p3)] [])) (fun _ k => XS.icmpNo X0.here hx rfl (hb hby d4_2) rfl (tlt hc2).2.1 k) ?_
    refine Go.step (g' := (mkF m 6 #[.val (.ref o0), .val (.int p1), .val (.int p2), .val (.int p3)] [(.ref o0)])) (fun _ k => XS.aloadN X0.here hx rfl (hb hby d4_5) rfl rfl  k) ?_
    refine Go.step (g' := (mkF m 7 #[.val (.ref o0), .val (.int p1), .val (.int p2), .val (.int p3)] [(.int p1), (.ref o0)])) (fun _ k => XS.iloadN X0.here hx rfl (hb hby d4_6) rfl  k) ?_
    refine Go.step (g' := (mkF m 8 #[.val (.ref o0), .val (.int p1), .val (.int p2), .val (.int p3)] [(.int p3), (.int p1), (.ref o0)])) (fun _ k => XS.iloadN X0.here hx rfl (hb hby d4_7) rfl  k) ?_
    refine Go.step (g' := (mkF m 9 #[.val (.ref o0), .val (.int p1), .val (.int p2), .val (.int p3)] [(.int (p1 + p3)), (.ref o0)])) (fun _ k => XS.iadd X0.here hx rfl (hb hby d4_8) rfl k) ?_
    refine Go.step (g' := (mkF m 10 #[.val (.ref o0), .val (.int p1), .val (.int p2), .val (.int p3)] [(.int (g (p1 + p3).toNatClampNeg))])) (fun _ k => getAB X0 hx hZ e0 A_d (j := (p1 + p3)) hj (gf := (mkF m 9 #[.val (.ref o0), .val (.int p1), .val (.int p2), .val (.int p3)] [(.int (p1 + p3)), (.ref o0)])) rfl rfl (hb hby d4_9) k) ?_
    refine Go.step (g' := (mkF m 13 #[.val (.ref o0), .val (.int p1), .val (.int p2), .val (.int p3)] [(.int (192 : Int32)), (.int (g (p1 + p3).toNatClampNeg))])) (fun _ k => XS.sipush X0.here hx rfl (hb hby d4_10) k) ?_
    refine Go.step (g' := (mkF m 14 #[.val (.ref o0), .val (.int p1), .val (.int p2), .val (.int p3)] [(.int ((g (p1 + p3).toNatClampNeg) &&& (192 : Int32)))])) (fun _ k => XS.iand X0.here hx rfl (hb hby d4_13) rfl k) ?_
    refine Go.step (g' := (mkF m 17 #[.val (.ref o0), .val (.int p1), .val (.int p2), .val (.int p3)] [(.int (128 : Int32)), (.int ((g (p1 + p3).toNatClampNeg) &&& (192 : Int32)))])) (fun _ k => XS.sipush X0.here hx rfl (hb hby d4_14) k) ?_
    by_cases hc17 : ((g (p1 + p3).toNatClampNeg) &&& (192 : Int32)) = (128 : Int32)
    · rw [show (f4_5 p1 p3 g) = f4_20 from if_pos hc17]
      refine Go.step (g' := (mkF m 20 #[.val (.ref o0), .val (.int p1), .val (.int p2), .val (.int p3)] [])) (fun _ k => XS.icmpNo X0.here hx rfl (hb hby d4_17) rfl (teq hc17).2 k) ?_
      exact t20 
    · rw [show (f4_5 p1 p3 g) = f4_24 from if_neg hc17]
      refine Go.step (g' := (mkF m 24 #[.val (.ref o0), .val (.int p1), .val (.int p2), .val (.int p3)] [])) (fun _ k => XS.icmpYes X0.here hx rfl (pc0 := 17) (pc' := 24) rfl (hb hby d4_17) rfl (feq hc17).2 (by decide) (by decide) k) ?_
      refine Go.step (g' := (mkF m 25 #[.val (.ref o0), .val (.int p1), .val (.int p2), .val (.int p3)] [(.int (0 : Int32))])) (fun _ k => XS.iconst X0.here hx rfl (hb hby d4_24) k) ?_
      rw [show f4_24 = (f4_25 (0 : Int32)) from rfl]
      exact t25 (0 : Int32)
  · rw [show (f4_0 p1 p2 p3 g) = f4_20 from if_neg hc2]
    refine Go.step (g' := (mkF m 20 #[.val (.ref o0), .val (.int p1), .val (.int p2), .val (.int p3)] [])) (fun _ k => XS.icmpYes X0.here hx rfl (pc0 := 2) (pc' := 20) rfl (hb hby d4_2) rfl (flt hc2).2.1 (by decide) (by decide) k) ?_
    exact t20 
theorem d5_0 : decode method_5_code 0 = .ok (.iload 5, 2) := by decide +kernel
theorem d5_2 : decode method_5_code 2 = .ok (.iload 4, 2) := by decide +kernel
theorem d5_4 : decode method_5_code 4 = .ok (.if_icmp .ge 21, 3) := by decide +kernel
theorem d5_7 : decode method_5_code 7 = .ok (.lload_n 0, 1) := by decide +kernel
theorem d5_8 : decode method_5_code 8 = .ok (.bipush 6, 2) := by decide +kernel
theorem d5_10 : decode method_5_code 10 = .ok (.lshl, 1) := by decide +kernel
theorem d5_11 : decode method_5_code 11 = .ok (.aload_n 2, 1) := by decide +kernel
theorem d5_12 : decode method_5_code 12 = .ok (.iload_n 3, 1) := by decide +kernel
theorem d5_13 : decode method_5_code 13 = .ok (.iload 5, 2) := by decide +kernel
theorem d5_15 : decode method_5_code 15 = .ok (.iadd, 1) := by decide +kernel
theorem d5_16 : decode method_5_code 16 = .ok (.baload, 1) := by decide +kernel
theorem d5_17 : decode method_5_code 17 = .ok (.bipush 63, 2) := by decide +kernel
theorem d5_19 : decode method_5_code 19 = .ok (.iand, 1) := by decide +kernel
theorem d5_20 : decode method_5_code 20 = .ok (.i2l, 1) := by decide +kernel
theorem d5_21 : decode method_5_code 21 = .ok (.lor, 1) := by decide +kernel
theorem d5_22 : decode method_5_code 22 = .ok (.goto 4, 3) := by decide +kernel
theorem d5_25 : decode method_5_code 25 = .ok (.lload_n 0, 1) := by decide +kernel
theorem d5_26 : decode method_5_code 26 = .ok (.lreturn, 1) := by decide +kernel
theorem pn_5 : plainName "com/example/ucs_to_octets/ucstooctets/Utf8EncodePinLaw" = true := by first | (simp [plainName, overriddenIn]; done) | decide +kernel
theorem ef_5 (m : MethodId) (q0 : Int64) (o1 : Addr) (p2 : Int32) (p3 : Int32) (p4 : Int32) : entryFrame m #[(.long q0), (.ref o1), (.int p2), (.int p3), (.int p4)] 6 = mkF m 0 #[.val (.long q0), .second, .val (.ref o1), .val (.int p2), .val (.int p3), .val (.int p4)] [] := by first | (simp [entryFrame, mkF, argsToLocals, Value.category]; done) | rfl
def f5_26 (v26_s0 : Int64) : Int64 := v26_s0
def f5_25 (q0 : Int64) : Int64 := (f5_26 q0)
def f5_7 (q0 : Int64) (p2 : Int32) (p4 : Int32) (g : Nat → Int32) : Int64 := (f5_26 ((q0 <<< ((6 : Int32) &&& 0x3f).toInt64) ||| (((g (p2 + p4).toNatClampNeg) &&& (63 : Int32)).toInt64)))
def f5_0 (q0 : Int64) (p2 : Int32) (p3 : Int32) (p4 : Int32) (g : Nat → Int32) : Int64 := if p4 < p3 then (f5_7 q0 p2 p4 g) else (f5_25 q0)
set_option maxRecDepth 65536 in
set_option maxHeartbeats 40000000 in
theorem rm5 (l : Launch) (Z : State) (a0 : Array Value) (hw : ∀ d ∈ tables_1, d.before a0 Z = true) (ws : List Jvm.Cond) (q0 : Int64) (o1 : Addr) (p2 : Int32) (p3 : Int32) (p4 : Int32) (g : Nat → Int32) (h0 : Heap) (A_d : IA Z h0 o1 .byte 9 (fun k => .int (g k))) (hj : ¬ (p2 + p4 < 0 ∨ 9 ≤ (p2 + p4).toNatClampNeg)) :
    MetFree l (⟨"com/example/ucs_to_octets/ucstooctets/Utf8EncodePinLaw", "add", "(J[BIII)J"⟩ : MethodName) (head1 (Jvm.Cond.code (⟨"com/example/ucs_to_octets/ucstooctets/Utf8EncodePinLaw", "add", "(J[BIII)J"⟩ : MethodName) method_5_code 6 (some .long) :: ws) ({ frames := 0, cells := 0, slots := 0, locals := 0 } : Room)) (fun a U => a = #[(.long q0), (.ref o1), (.int p2), (.int p3), (.int p4)] ∧ Z.Warmed39 U.vm ∧ U.heap = h0) (fun _ _ _ _ _ => True) (fun _ U o U' => ∃ v L, o = .returned v ∧ (PureQ (.long (f5_0 q0 p2 p3 p4 g)) h0) v U'.heap L ∧ FrameEnd U o U' L ({ frames := 0, cells := 0, slots := 0, locals := 0 } : Room).cells ({ frames := 0, cells := 0, slots := 0, locals := 0 } : Room).slots) := by
  refine MetFree.of_bodySF (plainFor_of_name pn_5) hisR ?_
  intro p e s m args below meth c s₁ Bd hml0 hP hK
  obtain ⟨rfl, hZ, hh⟩ := hP
  have hx := Bd.exec
  have hby := Bd.bytes
  have hlk : meth.locks = false := BodyLoose.notSynchronized Bd
  have hml : c.maxLocals = 6 := hml0
  have hown : s.vm.findClass "com/example/ucs_to_octets/ucstooctets/Utf8EncodePinLaw" = some m.cls := findClass_of_methodNamed Bd.named
  have hnm := (name_of_methodNamed Bd.named Bd.method).1
  have X0 : Stand p l e ({ frames := 0, cells := 0, slots := 0, locals := 0 } : Room) s m #[(.long q0), (.ref o1), (.int p2), (.int p3), (.int p4)] below meth c s₁ ([] : List Loc) 0 0 := Stand.of_body Bd
  have e0 : s₁.heap = h0 := by rw [← hh, Bd.state]; rfl
  show Go p e below s 0 0 (PureQ (.long (f5_0 q0 p2 p3 p4 g)) h0) s₁ (entryFrame m #[(.long q0), (.ref o1), (.int p2), (.int p3), (.int p4)] 6)
  rw [ef_5 m q0 o1 p2 p3 p4]
  refine Go.step (g' := (mkF m 2 #[.val (.long q0), .second, .val (.ref o1), .val (.int p2), .val (.int p3), .val (.int p4)] [(.int p4)])) (fun _ k => XS.iload X0.here hx rfl (hb hby d5_0) rfl  k) ?_
  refine Go.step (g' := (mkF m 4 #[.val (.long q0), .second, .val (.ref o1), .val (.int p2), .val (.int p3), .val (.int p4)] [(.int p3), (.int p4)])) (fun _ k => XS.iload X0.here hx rfl (hb hby d5_2) rfl  k) ?_
  have t26 : ∀ (v26_s0 : Int64), Go p e below s 0 0 (PureQ (.long (f5_26 v26_s0)) h0) s₁ (mkF m 26 #[.val (.long q0), .second, .val (.ref o1), .val (.int p2), .val (.int p3), .val (.int p4)] [(.long v26_s0)]) := by
    intro v26_s0
    exact Go.retW X0 hx hlk (t := .long) Bd.returns rfl (Or.inr (Or.inl ⟨rfl, rfl, _, rfl⟩)) (hb hby d5_26) (by decide) (by decide) ⟨rfl, rfl, e0⟩
  by_cases hc4 : p4 < p3
  · rw [show (f5_0 q0 p2 p3 p4 g) = (f5_7 q0 p2 p4 g) from if_pos hc4]
    refine Go.step (g' := (mkF m 7 #[.val (.long q0), .second, .val (.ref o1), .val (.int p2), .val (.int p3), .val (.int p4)] [])) (fun _ k => XS.icmpNo X0.here hx rfl (hb hby d5_4) rfl (tlt hc4).2.1 k) ?_
    refine Go.step (g' := (mkF m 8 #[.val (.long q0), .second, .val (.ref o1), .val (.int p2), .val (.int p3), .val (.int p4)] [(.long q0)])) (fun _ k => XS.lloadN X0.here hx rfl (hb hby d5_7) rfl  k) ?_
    refine Go.step (g' := (mkF m 10 #[.val (.long q0), .second, .val (.ref o1), .val (.int p2), .val (.int p3), .val (.int p4)] [(.int (6 : Int32)), (.long q0)])) (fun _ k => XS.bipush X0.here hx rfl (hb hby d5_8) k) ?_
    refine Go.step (g' := (mkF m 11 #[.val (.long q0), .second, .val (.ref o1), .val (.int p2), .val (.int p3), .val (.int p4)] [(.long (q0 <<< ((6 : Int32) &&& 0x3f).toInt64))])) (fun _ k => XS.lshl X0.here hx rfl (hb hby d5_10) rfl k) ?_
    refine Go.step (g' := (mkF m 12 #[.val (.long q0), .second, .val (.ref o1), .val (.int p2), .val (.int p3), .val (.int p4)] [(.ref o1), (.long (q0 <<< ((6 : Int32) &&& 0x3f).toInt64))])) (fun _ k => XS.aloadN X0.here hx rfl (hb hby d5_11) rfl rfl  k) ?_
    refine Go.step (g' := (mkF m 13 #[.val (.long q0), .second, .val (.ref o1), .val (.int p2), .val (.int p3), .val (.int p4)] [(.int p2), (.ref o1), (.long (q0 <<< ((6 : Int32) &&& 0x3f).toInt64))])) (fun _ k => XS.iloadN X0.here hx rfl (hb hby d5_12) rfl  k) ?_
    refine Go.step (g' := (mkF m 15 #[.val (.long q0), .second, .val (.ref o1), .val (.int p2), .val (.int p3), .val (.int p4)] [(.int p4), (.int p2), (.ref o1), (.long (q0 <<< ((6 : Int32) &&& 0x3f).toInt64))])) (fun _ k => XS.iload X0.here hx rfl (hb hby d5_13) rfl  k) ?_
    refine Go.step (g' := (mkF m 16 #[.val (.long q0), .second, .val (.ref o1), .val (.int p2), .val (.int p3), .val (.int p4)] [(.int (p2 + p4)), (.ref o1), (.long (q0 <<< ((6 : Int32) &&& 0x3f).toInt64))])) (fun _ k => XS.iadd X0.here hx rfl (hb hby d5_15) rfl k) ?_
    refine Go.step (g' := (mkF m 17 #[.val (.long q0), .second, .val (.ref o1), .val (.int p2), .val (.int p3), .val (.int p4)] [(.int (g (p2 + p4).toNatClampNeg)), (.long (q0 <<< ((6 : Int32) &&& 0x3f).toInt64))])) (fun _ k => getAB X0 hx hZ e0 A_d (j := (p2 + p4)) hj (gf := (mkF m 16 #[.val (.long q0), .second, .val (.ref o1), .val (.int p2), .val (.int p3), .val (.int p4)] [(.int (p2 + p4)), (.ref o1), (.long (q0 <<< ((6 : Int32) &&& 0x3f).toInt64))])) rfl rfl (hb hby d5_16) k) ?_
    refine Go.step (g' := (mkF m 19 #[.val (.long q0), .second, .val (.ref o1), .val (.int p2), .val (.int p3), .val (.int p4)] [(.int (63 : Int32)), (.int (g (p2 + p4).toNatClampNeg)), (.long (q0 <<< ((6 : Int32) &&& 0x3f).toInt64))])) (fun _ k => XS.bipush X0.here hx rfl (hb hby d5_17) k) ?_
    refine Go.step (g' := (mkF m 20 #[.val (.long q0), .second, .val (.ref o1), .val (.int p2), .val (.int p3), .val (.int p4)] [(.int ((g (p2 + p4).toNatClampNeg) &&& (63 : Int32))), (.long (q0 <<< ((6 : Int32) &&& 0x3f).toInt64))])) (fun _ k => XS.iand X0.here hx rfl (hb hby d5_19) rfl k) ?_
    refine Go.step (g' := (mkF m 21 #[.val (.long q0), .second, .val (.ref o1), .val (.int p2), .val (.int p3), .val (.int p4)] [(.long (((g (p2 + p4).toNatClampNeg) &&& (63 : Int32)).toInt64)), (.long (q0 <<< ((6 : Int32) &&& 0x3f).toInt64))])) (fun _ k => XS.i2l X0.here hx rfl (hb hby d5_20) rfl k) ?_
    refine Go.step (g' := (mkF m 22 #[.val (.long q0), .second, .val (.ref o1), .val (.int p2), .val (.int p3), .val (.int p4)] [(.long ((q0 <<< ((6 : Int32) &&& 0x3f).toInt64) ||| (((g (p2 + p4).toNatClampNeg) &&& (63 : Int32)).toInt64)))])) (fun _ k => XS.lor X0.here hx rfl (hb hby d5_21) rfl k) ?_
    refine Go.step (g' := (mkF m 26 #[.val (.long q0), .second, .val (.ref o1), .val (.int p2), .val (.int p3), .val (.int p4)] [(.long ((q0 <<< ((6 : Int32) &&& 0x3f).toInt64) ||| (((g (p2 + p4).toNatClampNeg) &&& (63 : Int32)).toInt64)))])) (fun _ k => XS.goto X0.here hx rfl (pc0 := 22) (pc' := 26) rfl (hb hby d5_22) (by decide) (by decide) k) ?_
    rw [show (f5_7 q0 p2 p4 g) = (f5_26 ((q0 <<< ((6 : Int32) &&& 0x3f).toInt64) ||| (((g (p2 + p4).toNatClampNeg) &&& (63 : Int32)).toInt64))) from rfl]
    exact t26 ((q0 <<< ((6 : Int32) &&& 0x3f).toInt64) ||| (((g (p2 + p4).toNatClampNeg) &&& (63 : Int32)).toInt64))
  · rw [show (f5_0 q0 p2 p3 p4 g) = (f5_25 q0) from if_neg hc4]
    refine Go.step (g' := (mkF m 25 #[.val (.long q0), .second, .val (.ref o1), .val (.int p2), .val (.int p3), .val (.int p4)] [])) (fun _ k => XS.icmpYes X0.here hx rfl (pc0 := 4) (pc' := 25) rfl (hb hby d5_4) rfl (flt hc4).2.1 (by decide) (by decide) k) ?_
    refine Go.step (g' := (mkF m 26 #[.val (.long q0), .second, .val (.ref o1), .val (.int p2), .val (.int p3), .val (.int p4)] [(.long q0)])) (fun _ k => XS.lloadN X0.here hx rfl (hb hby d5_25) rfl  k) ?_
    rw [show (f5_25 q0) = (f5_26 q0) from rfl]
    exact t26 q0
def own_b (k : Nat) : Int32 := if k < 128 then Int32.ofNat k else Int32.ofNat k - 256
def own_lead : Nat → Nat | 1 => 0 | 2 => 192 | 3 => 224 | 4 => 240 | 5 => 248 | _ => 252
def own_lo : Nat → Nat | 1 => 0 | 2 => 128 | 3 => 2048 | 4 => 65536 | 5 => 2097152 | _ => 67108864
def own_hi : Nat → Nat | 1 => 128 | 2 => 2048 | 3 => 65536 | 4 => 2097152 | 5 => 67108864 | _ => 2147483648
def Out (N o L : Nat) (s : Int32) (g : Nat → Int32) : Prop := (∀ k, k < 9 → (k < o ∨ o + L ≤ k) → g k = s) ∧ g o = own_b (own_lead L + N / 64 ^ (L - 1)) ∧ (∀ i, 0 < i → i < L → g (o + i) = own_b (128 + N / 64 ^ (L - 1 - i) % 64)) ∧ own_lo L ≤ N ∧ N < own_hi L
theorem Out.U {N o L : Nat} {s : Int32} {g : Nat → Int32} (O : Out N o L s g) : ∀ k, k < 9 → (k < o ∨ o + L ≤ k) → g k = s := O.1
theorem Out.H {N o L : Nat} {s : Int32} {g : Nat → Int32} (O : Out N o L s g) : g o = own_b (own_lead L + N / 64 ^ (L - 1)) := O.2.1
theorem Out.T {N o L : Nat} {s : Int32} {g : Nat → Int32} (O : Out N o L s g) : ∀ i, 0 < i → i < L → g (o + i) = own_b (128 + N / 64 ^ (L - 1 - i) % 64) := O.2.2.1
theorem Out.lo {N o L : Nat} {s : Int32} {g : Nat → Int32} (O : Out N o L s g) : own_lo L ≤ N := O.2.2.2.1
theorem Out.hi {N o L : Nat} {s : Int32} {g : Nat → Int32} (O : Out N o L s g) : N < own_hi L := O.2.2.2.2
theorem own_of {y : Int32} {m : Nat} (h : y.toInt = m) : y = Int32.ofNat m := by
  have r := rng32 y
  apply Int32.toInt_inj.mp
  rw [Int32.toInt_ofNat_of_lt (by omega)]; exact h
theorem own_tb : ∀ m : Fin 64, nar .byte (((128 : Int32) ||| Int32.ofNat m.val).toInt8.toInt32) = own_b (128 + m.val) := by decide +kernel
theorem own_sh {x : Int32} {N : Nat} (hN : x.toInt = N) (j : Int32) (d P : Nat) (hd : j.toBitVec.toNat % 32 = d) (h0 : 0 < d) (hP : 2 ^ d = P) : ((x.toUInt32 >>> (j &&& 31).toUInt32).toInt32).toInt = ((N / P : Nat) : Int) := by
  have e := c_iushr x j d hd h0
  have r := rng32 x
  rw [e, hN, hP, Int.emod_eq_of_lt (by omega) (by omega)]; rfl
theorem own_t0 {x : Int32} {N : Nat} (hN : x.toInt = N) (P : Nat) (hP : P = 1) : nar .byte (((128 : Int32) ||| (x &&& 63)).toInt8.toInt32) = own_b (128 + N / P % 64) := by
  have m : (x &&& (63 : Int32)).toInt = x.toInt % (2 ^ 6 : Nat) := c_mask x 63 6 (by decide) (by decide)
  have e : (x &&& (63 : Int32)) = Int32.ofNat (N % 64) := own_of (by rw [m, hN]; rfl)
  rw [e, hP, Nat.div_one]; exact own_tb ⟨N % 64, Nat.mod_lt _ (by decide)⟩
theorem own_t {x : Int32} {N : Nat} (hN : x.toInt = N) (j : Int32) (d P : Nat) (hd : j.toBitVec.toNat % 32 = d) (h0 : 0 < d) (hP : 2 ^ d = P) : nar .byte (((128 : Int32) ||| (((x.toUInt32 >>> (j &&& 31).toUInt32).toInt32) &&& 63)).toInt8.toInt32) = own_b (128 + N / P % 64) := by
  have m := c_mask ((x.toUInt32 >>> (j &&& 31).toUInt32).toInt32) 63 6 (by decide) (by decide)
  rw [own_sh hN j d P hd h0 hP] at m
  have e := own_of (m := N / P % 64) (m.trans rfl)
  rw [e]; exact own_tb ⟨N / P % 64, Nat.mod_lt _ (by decide)⟩
theorem own_h {x : Int32} {N : Nat} (hN : x.toInt = N) (A : Int32) (a B : Nat) (j : Int32) (d P : Nat) (hd : j.toBitVec.toNat % 32 = d) (h0 : 0 < d) (hP : 2 ^ d = P) (hB : N / P < B) (tab : ∀ m : Fin B, nar .byte ((A ||| Int32.ofNat m.val).toInt8.toInt32) = own_b (a + m.val)) : nar .byte ((A ||| ((x.toUInt32 >>> (j &&& 31).toUInt32).toInt32)).toInt8.toInt32) = own_b (a + N / P) := by
  rw [own_of (own_sh hN j d P hd h0 hP)]; exact tab ⟨_, hB⟩
theorem own_h1 : ∀ m : Fin 128, nar .byte ((Int32.ofNat m.val).toInt8.toInt32) = own_b (0 + m.val) := by decide +kernel
theorem own_on : ∀ k : Fin 4, ∀ i : Fin 6, (Int32.ofNat k.val + Int32.ofNat i.val).toNatClampNeg = k.val + i.val := by decide +kernel
theorem own_on0 : ∀ k : Fin 4, (Int32.ofNat k.val).toNatClampNeg = k.val := by decide +kernel
theorem own_byte (p : Int32) : nar .byte (p.toInt8.toInt32) = p.toInt8.toInt32 := by
  have h1 := c_i2b p
  have h2 := c_i2b p.toInt8.toInt32
  apply Int32.toInt_inj.mp
  show (p.toInt8.toInt32).toInt8.toInt32.toInt = _
  omega
def OutX (xx oo ss le : Int32) (g : Nat → Int32) : Prop := ∃ (N : Nat) (k : Fin 4) (L : Nat), xx.toInt = N ∧ oo = Int32.ofNat k.val ∧ 1 ≤ L ∧ L ≤ 6 ∧ le = Int32.ofNat L ∧ Out N k.val L ss g
theorem own_lt {x c : Int32} {N C : Nat} (hN : x.toInt = N) (hc : c.toInt = C) : x < c ↔ N < C := by
  rw [Int32.lt_iff_toInt_lt, hN, hc]; omega

theorem own_out {xx oo ss le : Int32} {G g : Nat → Int32} {N : Nat} (E : Enc xx oo G le g) (hG : ∀ k, k < 9 → G k = ss) (ho : ∃ k : Fin 4, oo = Int32.ofNat k.val) (hN : xx.toInt = N) (hx0 : ¬ xx < 0) : OutX xx oo ss le g := by
  obtain ⟨k, rfl⟩ := ho
  have e0 := own_on0 k
  have hk := k.isLt
  have rr := rng32 xx
  have q128 : xx < (128 : Int32) ↔ N < 128 := own_lt hN (by decide)
  have q2048 : xx < (2048 : Int32) ↔ N < 2048 := own_lt hN (by decide)
  have q65536 : xx < (65536 : Int32) ↔ N < 65536 := own_lt hN (by decide)
  have q2097152 : xx < (2097152 : Int32) ↔ N < 2097152 := own_lt hN (by decide)
  have q67108864 : xx < (67108864 : Int32) ↔ N < 67108864 := own_lt hN (by decide)
  rcases E with ⟨h0, rfl, rfl⟩ | ⟨h0, h1, rfl, rfl⟩ | ⟨h0, h1, rfl, rfl⟩ | ⟨h0, h1, rfl, rfl⟩ | ⟨h0, ⟨h1, rfl, rfl⟩ | ⟨h1, rfl, rfl⟩⟩
  · rw [q128] at h0
    refine ⟨N, k, 1, hN, rfl, by decide, by decide, rfl, ?_⟩
    refine ⟨?_, ?_, ?_, ?_, ?_⟩
    · intro j hj hr
      simp only [upd, e0]
      rw [if_neg (by omega)]
      exact hG j hj
    · simp only [upd, e0]
      rw [if_pos trivial]
      rw [own_of hN, show N / 64 ^ (1 - 1) = N from Nat.div_one N]; exact own_h1 ⟨N, by omega⟩
    · intro i h1 h2
      omega
    · show 0 ≤ N; omega
    · show N < 128; omega
  · rw [q128] at h0; rw [q2048] at h1
    refine ⟨N, k, 2, hN, rfl, by decide, by decide, rfl, ?_⟩
    have e1 : (Int32.ofNat k.val + (1 : Int32)).toNatClampNeg = k.val + 1 := own_on k 1
    refine ⟨?_, ?_, ?_, ?_, ?_⟩
    · intro j hj hr
      simp only [upd, e0, e1]
      rw [if_neg (by omega), if_neg (by omega)]
      exact hG j hj
    · simp only [upd, e0, e1]
      rw [if_pos trivial]
      exact own_h hN 192 192 32 6 6 _ (by decide) (by decide) (by decide) (by show N / 64 < 32; omega) (by decide +kernel)
    · intro i h1 h2
      have hi : i = 1 := by omega
      rcases hi with rfl
      · simp only [upd, e0, e1]
        rw [if_neg (by omega), if_pos trivial]
        exact own_t0 hN _ (by decide)
    · show 128 ≤ N; omega
    · show N < 2048; omega
  · rw [q2048] at h0; rw [q65536] at h1
    refine ⟨N, k, 3, hN, rfl, by decide, by decide, rfl, ?_⟩
    have e1 : (Int32.ofNat k.val + (1 : Int32)).toNatClampNeg = k.val + 1 := own_on k 1
    have e2 : (Int32.ofNat k.val + (2 : Int32)).toNatClampNeg = k.val + 2 := own_on k 2
    refine ⟨?_, ?_, ?_, ?_, ?_⟩
    · intro j hj hr
      simp only [upd, e0, e1, e2]
      rw [if_neg (by omega), if_neg (by omega), if_neg (by omega)]
      exact hG j hj
    · simp only [upd, e0, e1, e2]
      rw [if_pos trivial]
      exact own_h hN 224 224 16 12 12 _ (by decide) (by decide) (by decide) (by show N / 4096 < 16; omega) (by decide +kernel)
    · intro i h1 h2
      have hi : i = 1 ∨ i = 2 := by omega
      rcases hi with rfl | rfl
      · simp only [upd, e0, e1, e2]
        rw [if_neg (by omega), if_pos trivial]
        exact own_t hN 6 6 _ (by decide) (by decide) (by decide)
      · simp only [upd, e0, e1, e2]
        rw [if_neg (by omega), if_neg (by omega), if_pos trivial]
        exact own_t0 hN _ (by decide)
    · show 2048 ≤ N; omega
    · show N < 65536; omega
  · rw [q65536] at h0; rw [q2097152] at h1
    refine ⟨N, k, 4, hN, rfl, by decide, by decide, rfl, ?_⟩
    have e1 : (Int32.ofNat k.val + (1 : Int32)).toNatClampNeg = k.val + 1 := own_on k 1
    have e2 : (Int32.ofNat k.val + (2 : Int32)).toNatClampNeg = k.val + 2 := own_on k 2
    have e3 : (Int32.ofNat k.val + (3 : Int32)).toNatClampNeg = k.val + 3 := own_on k 3
    refine ⟨?_, ?_, ?_, ?_, ?_⟩
    · intro j hj hr
      simp only [upd, e0, e1, e2, e3]
      rw [if_neg (by omega), if_neg (by omega), if_neg (by omega), if_neg (by omega)]
      exact hG j hj
    · simp only [upd, e0, e1, e2, e3]
      rw [if_pos trivial]
      exact own_h hN 240 240 8 18 18 _ (by decide) (by decide) (by decide) (by show N / 262144 < 8; omega) (by decide +kernel)
    · intro i h1 h2
      have hi : i = 1 ∨ i = 2 ∨ i = 3 := by omega
      rcases hi with rfl | rfl | rfl
      · simp only [upd, e0, e1, e2, e3]
        rw [if_neg (by omega), if_pos trivial]
        exact own_t hN 12 12 _ (by decide) (by decide) (by decide)
      · simp only [upd, e0, e1, e2, e3]
        rw [if_neg (by omega), if_neg (by omega), if_pos trivial]
        exact own_t hN 6 6 _ (by decide) (by decide) (by decide)
      · simp only [upd, e0, e1, e2, e3]
        rw [if_neg (by omega), if_neg (by omega), if_neg (by omega), if_pos trivial]
        exact own_t0 hN _ (by decide)
    · show 65536 ≤ N; omega
    · show N < 2097152; omega
  · rw [q2097152] at h0; rw [q67108864] at h1
    refine ⟨N, k, 5, hN, rfl, by decide, by decide, rfl, ?_⟩
    have e1 : (Int32.ofNat k.val + (1 : Int32)).toNatClampNeg = k.val + 1 := own_on k 1
    have e2 : (Int32.ofNat k.val + (2 : Int32)).toNatClampNeg = k.val + 2 := own_on k 2
    have e3 : (Int32.ofNat k.val + (3 : Int32)).toNatClampNeg = k.val + 3 := own_on k 3
    have e4 : (Int32.ofNat k.val + (4 : Int32)).toNatClampNeg = k.val + 4 := own_on k 4
    refine ⟨?_, ?_, ?_, ?_, ?_⟩
    · intro j hj hr
      simp only [upd, e0, e1, e2, e3, e4]
      rw [if_neg (by omega), if_neg (by omega), if_neg (by omega), if_neg (by omega), if_neg (by omega)]
      exact hG j hj
    · simp only [upd, e0, e1, e2, e3, e4]
      rw [if_pos trivial]
      exact own_h hN 248 248 4 24 24 _ (by decide) (by decide) (by decide) (by show N / 16777216 < 4; omega) (by decide +kernel)
    · intro i h1 h2
      have hi : i = 1 ∨ i = 2 ∨ i = 3 ∨ i = 4 := by omega
      rcases hi with rfl | rfl | rfl | rfl
      · simp only [upd, e0, e1, e2, e3, e4]
        rw [if_neg (by omega), if_pos trivial]
        exact own_t hN 18 18 _ (by decide) (by decide) (by decide)
      · simp only [upd, e0, e1, e2, e3, e4]
        rw [if_neg (by omega), if_neg (by omega), if_pos trivial]
        exact own_t hN 12 12 _ (by decide) (by decide) (by decide)
      · simp only [upd, e0, e1, e2, e3, e4]
        rw [if_neg (by omega), if_neg (by omega), if_neg (by omega), if_pos trivial]
        exact own_t hN 6 6 _ (by decide) (by decide) (by decide)
      · simp only [upd, e0, e1, e2, e3, e4]
        rw [if_neg (by omega), if_neg (by omega), if_neg (by omega), if_neg (by omega), if_pos trivial]
        exact own_t0 hN _ (by decide)
    · show 2097152 ≤ N; omega
    · show N < 67108864; omega
  · rw [q2097152] at h0; rw [q67108864] at h1
    refine ⟨N, k, 6, hN, rfl, by decide, by decide, rfl, ?_⟩
    have e1 : (Int32.ofNat k.val + (1 : Int32)).toNatClampNeg = k.val + 1 := own_on k 1
    have e2 : (Int32.ofNat k.val + (2 : Int32)).toNatClampNeg = k.val + 2 := own_on k 2
    have e3 : (Int32.ofNat k.val + (3 : Int32)).toNatClampNeg = k.val + 3 := own_on k 3
    have e4 : (Int32.ofNat k.val + (4 : Int32)).toNatClampNeg = k.val + 4 := own_on k 4
    have e5 : (Int32.ofNat k.val + (5 : Int32)).toNatClampNeg = k.val + 5 := own_on k 5
    refine ⟨?_, ?_, ?_, ?_, ?_⟩
    · intro j hj hr
      simp only [upd, e0, e1, e2, e3, e4, e5]
      rw [if_neg (by omega), if_neg (by omega), if_neg (by omega), if_neg (by omega), if_neg (by omega), if_neg (by omega)]
      exact hG j hj
    · simp only [upd, e0, e1, e2, e3, e4, e5]
      rw [if_pos trivial]
      exact own_h hN 252 252 2 30 30 _ (by decide) (by decide) (by decide) (by show N / 1073741824 < 2; omega) (by decide +kernel)
    · intro i h1 h2
      have hi : i = 1 ∨ i = 2 ∨ i = 3 ∨ i = 4 ∨ i = 5 := by omega
      rcases hi with rfl | rfl | rfl | rfl | rfl
      · simp only [upd, e0, e1, e2, e3, e4, e5]
        rw [if_neg (by omega), if_pos trivial]
        exact own_t hN 24 24 _ (by decide) (by decide) (by decide)
      · simp only [upd, e0, e1, e2, e3, e4, e5]
        rw [if_neg (by omega), if_neg (by omega), if_pos trivial]
        exact own_t hN 18 18 _ (by decide) (by decide) (by decide)
      · simp only [upd, e0, e1, e2, e3, e4, e5]
        rw [if_neg (by omega), if_neg (by omega), if_neg (by omega), if_pos trivial]
        exact own_t hN 12 12 _ (by decide) (by decide) (by decide)
      · simp only [upd, e0, e1, e2, e3, e4, e5]
        rw [if_neg (by omega), if_neg (by omega), if_neg (by omega), if_neg (by omega), if_pos trivial]
        exact own_t hN 6 6 _ (by decide) (by decide) (by decide)
      · simp only [upd, e0, e1, e2, e3, e4, e5]
        rw [if_neg (by omega), if_neg (by omega), if_neg (by omega), if_neg (by omega), if_neg (by omega), if_pos trivial]
        exact own_t0 hN _ (by decide)
    · show 67108864 ≤ N; omega
    · show N < 2147483648; omega
theorem own_g0 {p : Int32} (ss : Int32) (h : (p.toInt8.toInt32) = ss) : ∀ k, k < 9 → (upd (upd (upd (upd (upd (upd (upd (upd (upd (fun _ => (0 : Int32)) (0 : Int32).toNatClampNeg (nar .byte ss)) (1 : Int32).toNatClampNeg (nar .byte ss)) (2 : Int32).toNatClampNeg (nar .byte ss)) (3 : Int32).toNatClampNeg (nar .byte ss)) (4 : Int32).toNatClampNeg (nar .byte ss)) (5 : Int32).toNatClampNeg (nar .byte ss)) (6 : Int32).toNatClampNeg (nar .byte ss)) (7 : Int32).toNatClampNeg (nar .byte ss)) (8 : Int32).toNatClampNeg (nar .byte ss)) k = ss := by
  have e : nar .byte ss = ss := by rw [← h]; exact own_byte p
  intro k hk
  rw [e]
  match k, hk with
  | 0, _ => rfl
  | 1, _ => rfl
  | 2, _ => rfl
  | 3, _ => rfl
  | 4, _ => rfl
  | 5, _ => rfl
  | 6, _ => rfl
  | 7, _ => rfl
  | 8, _ => rfl
theorem own_ucd : ∀ j : Fin 9, ∀ k : Fin 4, ∀ L : Fin 7, (Int32.ofNat j.val < Int32.ofNat k.val ↔ j.val < k.val) ∧ (Int32.ofNat j.val < Int32.ofNat k.val + Int32.ofNat L.val ↔ j.val < k.val + L.val) ∧ (Int32.ofNat j.val).toNatClampNeg = j.val := by decide +kernel
theorem own_unt (j : Fin 9) {N L : Nat} {k : Fin 4} {s : Int32} {g : Nat → Int32} (hL : L ≤ 6) (O : Out N k.val L s g) : ¬ f3_0 (Int32.ofNat j.val) (Int32.ofNat k.val) (Int32.ofNat L) s g = (0 : Int32) := by
  obtain ⟨d1, d2, d3⟩ := own_ucd j k ⟨L, by omega⟩
  have n1 : ¬ f3_20 = 0 := by decide
  unfold f3_0 f3_5
  by_cases a : j.val < k.val
  · rw [if_pos (d1.mpr a)]; unfold f3_12; rw [d3, O.U _ j.isLt (Or.inl a), if_pos rfl]; exact n1
  · rw [if_neg (fun q => a (d1.mp q))]
    by_cases b : j.val < k.val + L
    · rw [if_pos (d2.mpr b)]; exact n1
    · rw [if_neg (fun q => b (d2.mp q))]; unfold f3_12; rw [d3, O.U _ j.isLt (Or.inr (by omega)), if_pos rfl]; exact n1
theorem own_tcd : ∀ i : Fin 6, ∀ L : Fin 7, (Int32.ofNat i.val < Int32.ofNat L.val ↔ i.val < L.val) := by decide +kernel
theorem own_m192 : ∀ m : Fin 64, (own_b (128 + m.val) &&& 192) = (128 : Int32) := by decide +kernel
theorem own_m63 : ∀ m : Fin 64, (own_b (128 + m.val) &&& 63) = Int32.ofNat m.val := by decide +kernel
theorem own_tail (i : Fin 6) (hi : 0 < i.val) {N L : Nat} {k : Fin 4} {s : Int32} {g : Nat → Int32} (hL : L ≤ 6) (O : Out N k.val L s g) : ¬ f4_0 (Int32.ofNat k.val) (Int32.ofNat L) (Int32.ofNat i.val) g = (0 : Int32) := by
  have d := own_tcd i ⟨L, by omega⟩
  have n1 : ¬ f4_20 = 0 := by decide
  unfold f4_0
  by_cases a : i.val < L
  · rw [if_pos (d.mpr a)]; unfold f4_5; rw [own_on k i, O.T _ hi a, if_pos (own_m192 ⟨_, Nat.mod_lt _ (by decide)⟩)]; exact n1
  · rw [if_neg (fun q => a (d.mp q))]; exact n1
theorem own_an (i : Fin 6) {L : Nat} {k : Fin 4} {g : Nat → Int32} (hL : L ≤ 6) (h : L ≤ i.val) (v : Int64) : f5_0 v (Int32.ofNat k.val) (Int32.ofNat L) (Int32.ofNat i.val) g = v := by
  have d := own_tcd i ⟨L, by omega⟩
  unfold f5_0; rw [if_neg (fun q => absurd (d.mp q) (by simp only; omega))]; rfl
theorem own_ad (i : Fin 6) (hi : 0 < i.val) {N L : Nat} {k : Fin 4} {s : Int32} {g : Nat → Int32} (hL : L ≤ 6) (O : Out N k.val L s g) (h : i.val < L) {v : Int64} {V : Nat} (hv : v.toInt = V) (hV : V < 1000000000000) (P : Nat) (hP : 64 ^ (L - 1 - i.val) = P) : (f5_0 v (Int32.ofNat k.val) (Int32.ofNat L) (Int32.ofNat i.val) g).toInt = ((V * 64 + N / P % 64 : Nat) : Int) := by
  have d := own_tcd i ⟨L, by omega⟩
  unfold f5_0; rw [if_pos (d.mpr h)]; unfold f5_7 f5_26
  have e63 : (own_b (128 + N / P % 64) &&& 63) = Int32.ofNat (N / P % 64) := own_m63 ⟨N / P % 64, Nat.mod_lt _ (by decide)⟩
  rw [own_on k i, O.T _ hi h, hP, e63]
  have hm : N / P % 64 < 64 := Nat.mod_lt _ (by decide)
  generalize N / P % 64 = m at hm ⊢
  have e1 := c_lshl v 6 6 (by decide)
  have r1 := rng64 (v <<< ((6 : Int32) &&& 0x3f).toInt64)
  have e2 : (Int32.ofNat m).toInt64.toInt = m := by rw [c_i2l, Int32.toInt_ofNat_of_lt (by omega)]
  have e3 := c_orL (v <<< ((6 : Int32) &&& 0x3f).toInt64) (Int32.ofNat m).toInt64 6 (by decide) 64 (by decide) (by omega) (by omega) (by omega)
  have r3 := rng64 ((v <<< ((6 : Int32) &&& 0x3f).toInt64) ||| (Int32.ofNat m).toInt64)
  omega
theorem own_clo {x : Int32} {N : Nat} (hN : x.toInt = N) (c : Int64) (C : Nat) (hc : c.toInt = C) (h : C ≤ N) : ¬ lcmpW x.toInt64 c < (0 : Int32) := by
  rw [lw_lt, Int64.lt_iff_toInt_lt, c_i2l, hN, hc]; omega
theorem own_chi {x : Int32} {N : Nat} (hN : x.toInt = N) (c : Int64) (C : Nat) (hc : c.toInt = C) (h : N < C) : lcmpW x.toInt64 c < (0 : Int32) := by
  rw [lw_lt, Int64.lt_iff_toInt_lt, c_i2l, hN, hc]; omega
theorem own_ceq {x : Int32} {N : Nat} (hN : x.toInt = N) (c : Int64) (hc : c.toInt = N) : lcmpW c x.toInt64 = (0 : Int32) := by
  rw [lw_eq, ← Int64.toInt_inj, c_i2l, hN, hc]
theorem pn_0 : plainName "com/example/ucs_to_octets/ucstooctets/Utf8EncodePinLaw" = true := by first | (simp [plainName, overriddenIn]; done) | decide +kernel
theorem ef_0 (m : MethodId) (p0 : Int32) (p1 : Int32) (p2 : Int32) : entryFrame m #[(.int p0), (.int p1), (.int p2)] maxLocals = mkF m 0 #[.val (.int p0), .val (.int p1), .val (.int p2), .unset, .unset, .unset, .unset, .unset, .unset, .unset, .unset, .unset, .unset, .unset, .unset, .unset, .unset, .unset, .unset, .unset, .unset] [] := by first | (simp [entryFrame, mkF, argsToLocals, Value.category, maxLocals]; done) | rfl
def f0_163d10 : Int32 := (nar .boolean (0 : Int32))
def f0_251d10 : Int32 := (nar .boolean (0 : Int32))
def f0_647d10 (v647d10_s0 : Int32) : Int32 := (nar .boolean v647d10_s0)
def f0_646d10 : Int32 := (f0_647d10 (0 : Int32))
def f0_642d10 : Int32 := (f0_647d10 (1 : Int32))
def f0_555d10 (xx : Int32) (oo : Int32) (le84 : Int32) (gg84 : Nat → Int32) (v435d10_s0 : Int32) : Int32 := if (lcmpW (f5_0 (f5_0 (f5_0 (f5_0 (f5_0 ((((gg84 oo.toNatClampNeg) &&& (255 : Int32)) &&& v435d10_s0).toInt64) oo le84 (1 : Int32) gg84) oo le84 (2 : Int32) gg84) oo le84 (3 : Int32) gg84) oo le84 (4 : Int32) gg84) oo le84 (5 : Int32) gg84) (xx.toInt64)) = (0 : Int32) then f0_642d10 else f0_646d10
def f0_553d10 : Int32 := (nar .boolean (0 : Int32))
def f0_546d10 (xx : Int32) (oo : Int32) (le84 : Int32) (gg84 : Nat → Int32) (v435d10_s0 : Int32) (v546d10_s0 : Int32) : Int32 := if v546d10_s0 = (0 : Int32) then f0_553d10 else (f0_555d10 xx oo le84 gg84 v435d10_s0)
def f0_545d10 (xx : Int32) (oo : Int32) (le84 : Int32) (gg84 : Nat → Int32) (v435d10_s0 : Int32) : Int32 := (f0_546d10 xx oo le84 gg84 v435d10_s0 (0 : Int32))
def f0_541d10 (xx : Int32) (oo : Int32) (le84 : Int32) (gg84 : Nat → Int32) (v435d10_s0 : Int32) : Int32 := (f0_546d10 xx oo le84 gg84 v435d10_s0 (1 : Int32))
def f0_528d10 (xx : Int32) (oo : Int32) (le84 : Int32) (gg84 : Nat → Int32) (v435d10_s0 : Int32) : Int32 := if (f4_0 oo le84 (5 : Int32) gg84) = (0 : Int32) then (f0_545d10 xx oo le84 gg84 v435d10_s0) else (f0_541d10 xx oo le84 gg84 v435d10_s0)
def f0_515d10 (xx : Int32) (oo : Int32) (le84 : Int32) (gg84 : Nat → Int32) (v435d10_s0 : Int32) : Int32 := if (f4_0 oo le84 (4 : Int32) gg84) = (0 : Int32) then (f0_545d10 xx oo le84 gg84 v435d10_s0) else (f0_528d10 xx oo le84 gg84 v435d10_s0)
def f0_502d10 (xx : Int32) (oo : Int32) (le84 : Int32) (gg84 : Nat → Int32) (v435d10_s0 : Int32) : Int32 := if (f4_0 oo le84 (3 : Int32) gg84) = (0 : Int32) then (f0_545d10 xx oo le84 gg84 v435d10_s0) else (f0_515d10 xx oo le84 gg84 v435d10_s0)
def f0_489d10 (xx : Int32) (oo : Int32) (le84 : Int32) (gg84 : Nat → Int32) (v435d10_s0 : Int32) : Int32 := if (f4_0 oo le84 (2 : Int32) gg84) = (0 : Int32) then (f0_545d10 xx oo le84 gg84 v435d10_s0) else (f0_502d10 xx oo le84 gg84 v435d10_s0)
def f0_476d10 (xx : Int32) (oo : Int32) (le84 : Int32) (gg84 : Nat → Int32) (v435d10_s0 : Int32) : Int32 := if (f4_0 oo le84 (1 : Int32) gg84) = (0 : Int32) then (f0_545d10 xx oo le84 gg84 v435d10_s0) else (f0_489d10 xx oo le84 gg84 v435d10_s0)
def f0_474d10 : Int32 := (nar .boolean (0 : Int32))
def f0_456d10 (xx : Int32) (oo : Int32) (le84 : Int32) (gg84 : Nat → Int32) (v435d10_s0 : Int32) (v456d10_s0 : Int32) : Int32 := if ((((gg84 oo.toNatClampNeg) &&& (255 : Int32)) &&& (v435d10_s0 ^^^ (-1 : Int32))) &&& (255 : Int32)) = v456d10_s0 then (f0_476d10 xx oo le84 gg84 v435d10_s0) else f0_474d10
def f0_447d10 (xx : Int32) (oo : Int32) (le84 : Int32) (gg84 : Nat → Int32) (v435d10_s0 : Int32) : Int32 := (f0_456d10 xx oo le84 gg84 v435d10_s0 (((65280 : Int32) >>> (le84 &&& 31)) &&& (255 : Int32)))
def f0_443d10 (xx : Int32) (oo : Int32) (le84 : Int32) (gg84 : Nat → Int32) (v435d10_s0 : Int32) : Int32 := (f0_456d10 xx oo le84 gg84 v435d10_s0 (0 : Int32))
def f0_435d10 (xx : Int32) (oo : Int32) (le84 : Int32) (gg84 : Nat → Int32) (v435d10_s0 : Int32) : Int32 := if le84 = (1 : Int32) then (f0_443d10 xx oo le84 gg84 v435d10_s0) else (f0_447d10 xx oo le84 gg84 v435d10_s0)
def f0_427d10 (xx : Int32) (oo : Int32) (le84 : Int32) (gg84 : Nat → Int32) : Int32 := (f0_435d10 xx oo le84 gg84 ((255 : Int32) >>> ((le84 + (1 : Int32)) &&& 31)))
def f0_422d10 (xx : Int32) (oo : Int32) (le84 : Int32) (gg84 : Nat → Int32) : Int32 := (f0_435d10 xx oo le84 gg84 (127 : Int32))
def f0_405d10 (xx : Int32) (oo : Int32) (le84 : Int32) (gg84 : Nat → Int32) : Int32 := if le84 = (1 : Int32) then (f0_422d10 xx oo le84 gg84) else (f0_427d10 xx oo le84 gg84)
def f0_403d10 : Int32 := (nar .boolean (0 : Int32))
def f0_396d10 (xx : Int32) (oo : Int32) (le84 : Int32) (gg84 : Nat → Int32) (v396d10_s0 : Int32) : Int32 := if v396d10_s0 = (0 : Int32) then f0_403d10 else (f0_405d10 xx oo le84 gg84)
def f0_395d10 (xx : Int32) (oo : Int32) (le84 : Int32) (gg84 : Nat → Int32) : Int32 := (f0_396d10 xx oo le84 gg84 (0 : Int32))
def f0_391d10 (xx : Int32) (oo : Int32) (le84 : Int32) (gg84 : Nat → Int32) : Int32 := (f0_396d10 xx oo le84 gg84 (1 : Int32))
def f0_375d10 (xx : Int32) (oo : Int32) (ss : Int32) (le84 : Int32) (gg84 : Nat → Int32) : Int32 := if (f3_0 (8 : Int32) oo le84 ss gg84) = (0 : Int32) then (f0_395d10 xx oo le84 gg84) else (f0_391d10 xx oo le84 gg84)
def f0_359d10 (xx : Int32) (oo : Int32) (ss : Int32) (le84 : Int32) (gg84 : Nat → Int32) : Int32 := if (f3_0 (7 : Int32) oo le84 ss gg84) = (0 : Int32) then (f0_395d10 xx oo le84 gg84) else (f0_375d10 xx oo ss le84 gg84)
def f0_343d10 (xx : Int32) (oo : Int32) (ss : Int32) (le84 : Int32) (gg84 : Nat → Int32) : Int32 := if (f3_0 (6 : Int32) oo le84 ss gg84) = (0 : Int32) then (f0_395d10 xx oo le84 gg84) else (f0_359d10 xx oo ss le84 gg84)
def f0_328d10 (xx : Int32) (oo : Int32) (ss : Int32) (le84 : Int32) (gg84 : Nat → Int32) : Int32 := if (f3_0 (5 : Int32) oo le84 ss gg84) = (0 : Int32) then (f0_395d10 xx oo le84 gg84) else (f0_343d10 xx oo ss le84 gg84)
def f0_313d10 (xx : Int32) (oo : Int32) (ss : Int32) (le84 : Int32) (gg84 : Nat → Int32) : Int32 := if (f3_0 (4 : Int32) oo le84 ss gg84) = (0 : Int32) then (f0_395d10 xx oo le84 gg84) else (f0_328d10 xx oo ss le84 gg84)
def f0_298d10 (xx : Int32) (oo : Int32) (ss : Int32) (le84 : Int32) (gg84 : Nat → Int32) : Int32 := if (f3_0 (3 : Int32) oo le84 ss gg84) = (0 : Int32) then (f0_395d10 xx oo le84 gg84) else (f0_313d10 xx oo ss le84 gg84)
def f0_283d10 (xx : Int32) (oo : Int32) (ss : Int32) (le84 : Int32) (gg84 : Nat → Int32) : Int32 := if (f3_0 (2 : Int32) oo le84 ss gg84) = (0 : Int32) then (f0_395d10 xx oo le84 gg84) else (f0_298d10 xx oo ss le84 gg84)
def f0_268d10 (xx : Int32) (oo : Int32) (ss : Int32) (le84 : Int32) (gg84 : Nat → Int32) : Int32 := if (f3_0 (1 : Int32) oo le84 ss gg84) = (0 : Int32) then (f0_395d10 xx oo le84 gg84) else (f0_283d10 xx oo ss le84 gg84)
def f0_253d10 (xx : Int32) (oo : Int32) (ss : Int32) (le84 : Int32) (gg84 : Nat → Int32) : Int32 := if (f3_0 (0 : Int32) oo le84 ss gg84) = (0 : Int32) then (f0_395d10 xx oo le84 gg84) else (f0_268d10 xx oo ss le84 gg84)
def f0_242d10 (xx : Int32) (oo : Int32) (ss : Int32) (le84 : Int32) (gg84 : Nat → Int32) (v231d10_s0 : Int64) : Int32 := if (lcmpW (xx.toInt64) v231d10_s0) < (0 : Int32) then (f0_253d10 xx oo ss le84 gg84) else f0_251d10
def f0_231d10 (xx : Int32) (oo : Int32) (ss : Int32) (le84 : Int32) (gg84 : Nat → Int32) (v209d10_s0 : Int64) (v231d10_s0 : Int64) : Int32 := if (lcmpW (xx.toInt64) v209d10_s0) < (0 : Int32) then f0_251d10 else (f0_242d10 xx oo ss le84 gg84 v231d10_s0)
def f0_223d10 (xx : Int32) (oo : Int32) (ss : Int32) (le84 : Int32) (gg84 : Nat → Int32) (v209d10_s0 : Int64) : Int32 := (f0_231d10 xx oo ss le84 gg84 v209d10_s0 ((1 : Int64) <<< ((((5 : Int32) * le84) + (1 : Int32)) &&& 0x3f).toInt64))
def f0_217d10 (xx : Int32) (oo : Int32) (ss : Int32) (le84 : Int32) (gg84 : Nat → Int32) (v209d10_s0 : Int64) : Int32 := (f0_231d10 xx oo ss le84 gg84 v209d10_s0 (128 : Int64))
def f0_209d10 (xx : Int32) (oo : Int32) (ss : Int32) (le84 : Int32) (gg84 : Nat → Int32) (v209d10_s0 : Int64) : Int32 := if le84 = (1 : Int32) then (f0_217d10 xx oo ss le84 gg84 v209d10_s0) else (f0_223d10 xx oo ss le84 gg84 v209d10_s0)
def f0_199d10 (xx : Int32) (oo : Int32) (ss : Int32) (le84 : Int32) (gg84 : Nat → Int32) : Int32 := (f0_209d10 xx oo ss le84 gg84 ((1 : Int64) <<< ((((5 : Int32) * (le84 - (1 : Int32))) + (1 : Int32)) &&& 0x3f).toInt64))
def f0_193d10 (xx : Int32) (oo : Int32) (ss : Int32) (le84 : Int32) (gg84 : Nat → Int32) : Int32 := (f0_209d10 xx oo ss le84 gg84 (128 : Int64))
def f0_187d10 (xx : Int32) (oo : Int32) (ss : Int32) (le84 : Int32) (gg84 : Nat → Int32) : Int32 := if le84 = (2 : Int32) then (f0_193d10 xx oo ss le84 gg84) else (f0_199d10 xx oo ss le84 gg84)
def f0_183d10 (xx : Int32) (oo : Int32) (ss : Int32) (le84 : Int32) (gg84 : Nat → Int32) : Int32 := (f0_209d10 xx oo ss le84 gg84 (0 : Int64))
def f0_177d10 (xx : Int32) (oo : Int32) (ss : Int32) (le84 : Int32) (gg84 : Nat → Int32) : Int32 := if le84 = (1 : Int32) then (f0_183d10 xx oo ss le84 gg84) else (f0_187d10 xx oo ss le84 gg84)
def f0_175d10 : Int32 := (nar .boolean (0 : Int32))
def f0_169d10 (xx : Int32) (oo : Int32) (ss : Int32) (le84 : Int32) (gg84 : Nat → Int32) : Int32 := if (4 : Int32) < le84 then f0_175d10 else (f0_177d10 xx oo ss le84 gg84)
def f0_165d10 (xx : Int32) (oo : Int32) (ss : Int32) (le84 : Int32) (gg84 : Nat → Int32) : Int32 := (f0_169d10 xx oo ss le84 gg84)
def f0_156d10 (xx : Int32) (oo : Int32) (ss : Int32) (le84 : Int32) (gg84 : Nat → Int32) : Int32 := if (6 : Int32) < le84 then f0_163d10 else (f0_165d10 xx oo ss le84 gg84)
def f0_150d10 (xx : Int32) (oo : Int32) (ss : Int32) (le84 : Int32) (gg84 : Nat → Int32) : Int32 := if le84 < (1 : Int32) then f0_163d10 else (f0_156d10 xx oo ss le84 gg84)
def f0_135d10 : Int32 := 1
def f0_132d10 : Int32 := f0_135d10
def f0_48d10 : Int32 := f0_132d10
def f0_46d10 : Int32 := (nar .boolean (1 : Int32))
def f0_39d10 (xx : Int32) : Int32 := if (57343 : Int32) < xx then f0_48d10 else f0_46d10
def f0_32d10 (xx : Int32) : Int32 := if xx < (55296 : Int32) then f0_48d10 else (f0_39d10 xx)
def f0_30d10 : Int32 := 1
def f0_23d10 : Int32 := f0_30d10
def f0_11d10 : Int32 := f0_23d10
def f0_10 : Int32 := f0_11d10
def f0_163d7 : Int32 := (nar .boolean (0 : Int32))
def f0_251d7 : Int32 := (nar .boolean (0 : Int32))
def f0_647d7 (v647d7_s0 : Int32) : Int32 := (nar .boolean v647d7_s0)
def f0_646d7 : Int32 := (f0_647d7 (0 : Int32))
def f0_642d7 : Int32 := (f0_647d7 (1 : Int32))
def f0_555d7 (xx : Int32) (oo : Int32) (le31 : Int32) (gg31 : Nat → Int32) (v435d7_s0 : Int32) : Int32 := if (lcmpW (f5_0 (f5_0 (f5_0 (f5_0 (f5_0 ((((gg31 oo.toNatClampNeg) &&& (255 : Int32)) &&& v435d7_s0).toInt64) oo le31 (1 : Int32) gg31) oo le31 (2 : Int32) gg31) oo le31 (3 : Int32) gg31) oo le31 (4 : Int32) gg31) oo le31 (5 : Int32) gg31) (xx.toInt64)) = (0 : Int32) then f0_642d7 else f0_646d7
def f0_553d7 : Int32 := (nar .boolean (0 : Int32))
def f0_546d7 (xx : Int32) (oo : Int32) (le31 : Int32) (gg31 : Nat → Int32) (v435d7_s0 : Int32) (v546d7_s0 : Int32) : Int32 := if v546d7_s0 = (0 : Int32) then f0_553d7 else (f0_555d7 xx oo le31 gg31 v435d7_s0)
def f0_545d7 (xx : Int32) (oo : Int32) (le31 : Int32) (gg31 : Nat → Int32) (v435d7_s0 : Int32) : Int32 := (f0_546d7 xx oo le31 gg31 v435d7_s0 (0 : Int32))
def f0_541d7 (xx : Int32) (oo : Int32) (le31 : Int32) (gg31 : Nat → Int32) (v435d7_s0 : Int32) : Int32 := (f0_546d7 xx oo le31 gg31 v435d7_s0 (1 : Int32))
def f0_528d7 (xx : Int32) (oo : Int32) (le31 : Int32) (gg31 : Nat → Int32) (v435d7_s0 : Int32) : Int32 := if (f4_0 oo le31 (5 : Int32) gg31) = (0 : Int32) then (f0_545d7 xx oo le31 gg31 v435d7_s0) else (f0_541d7 xx oo le31 gg31 v435d7_s0)
def f0_515d7 (xx : Int32) (oo : Int32) (le31 : Int32) (gg31 : Nat → Int32) (v435d7_s0 : Int32) : Int32 := if (f4_0 oo le31 (4 : Int32) gg31) = (0 : Int32) then (f0_545d7 xx oo le31 gg31 v435d7_s0) else (f0_528d7 xx oo le31 gg31 v435d7_s0)
def f0_502d7 (xx : Int32) (oo : Int32) (le31 : Int32) (gg31 : Nat → Int32) (v435d7_s0 : Int32) : Int32 := if (f4_0 oo le31 (3 : Int32) gg31) = (0 : Int32) then (f0_545d7 xx oo le31 gg31 v435d7_s0) else (f0_515d7 xx oo le31 gg31 v435d7_s0)
def f0_489d7 (xx : Int32) (oo : Int32) (le31 : Int32) (gg31 : Nat → Int32) (v435d7_s0 : Int32) : Int32 := if (f4_0 oo le31 (2 : Int32) gg31) = (0 : Int32) then (f0_545d7 xx oo le31 gg31 v435d7_s0) else (f0_502d7 xx oo le31 gg31 v435d7_s0)
def f0_476d7 (xx : Int32) (oo : Int32) (le31 : Int32) (gg31 : Nat → Int32) (v435d7_s0 : Int32) : Int32 := if (f4_0 oo le31 (1 : Int32) gg31) = (0 : Int32) then (f0_545d7 xx oo le31 gg31 v435d7_s0) else (f0_489d7 xx oo le31 gg31 v435d7_s0)
def f0_474d7 : Int32 := (nar .boolean (0 : Int32))
def f0_456d7 (xx : Int32) (oo : Int32) (le31 : Int32) (gg31 : Nat → Int32) (v435d7_s0 : Int32) (v456d7_s0 : Int32) : Int32 := if ((((gg31 oo.toNatClampNeg) &&& (255 : Int32)) &&& (v435d7_s0 ^^^ (-1 : Int32))) &&& (255 : Int32)) = v456d7_s0 then (f0_476d7 xx oo le31 gg31 v435d7_s0) else f0_474d7
def f0_447d7 (xx : Int32) (oo : Int32) (le31 : Int32) (gg31 : Nat → Int32) (v435d7_s0 : Int32) : Int32 := (f0_456d7 xx oo le31 gg31 v435d7_s0 (((65280 : Int32) >>> (le31 &&& 31)) &&& (255 : Int32)))
def f0_443d7 (xx : Int32) (oo : Int32) (le31 : Int32) (gg31 : Nat → Int32) (v435d7_s0 : Int32) : Int32 := (f0_456d7 xx oo le31 gg31 v435d7_s0 (0 : Int32))
def f0_435d7 (xx : Int32) (oo : Int32) (le31 : Int32) (gg31 : Nat → Int32) (v435d7_s0 : Int32) : Int32 := if le31 = (1 : Int32) then (f0_443d7 xx oo le31 gg31 v435d7_s0) else (f0_447d7 xx oo le31 gg31 v435d7_s0)
def f0_427d7 (xx : Int32) (oo : Int32) (le31 : Int32) (gg31 : Nat → Int32) : Int32 := (f0_435d7 xx oo le31 gg31 ((255 : Int32) >>> ((le31 + (1 : Int32)) &&& 31)))
def f0_422d7 (xx : Int32) (oo : Int32) (le31 : Int32) (gg31 : Nat → Int32) : Int32 := (f0_435d7 xx oo le31 gg31 (127 : Int32))
def f0_405d7 (xx : Int32) (oo : Int32) (le31 : Int32) (gg31 : Nat → Int32) : Int32 := if le31 = (1 : Int32) then (f0_422d7 xx oo le31 gg31) else (f0_427d7 xx oo le31 gg31)
def f0_403d7 : Int32 := (nar .boolean (0 : Int32))
def f0_396d7 (xx : Int32) (oo : Int32) (le31 : Int32) (gg31 : Nat → Int32) (v396d7_s0 : Int32) : Int32 := if v396d7_s0 = (0 : Int32) then f0_403d7 else (f0_405d7 xx oo le31 gg31)
def f0_395d7 (xx : Int32) (oo : Int32) (le31 : Int32) (gg31 : Nat → Int32) : Int32 := (f0_396d7 xx oo le31 gg31 (0 : Int32))
def f0_391d7 (xx : Int32) (oo : Int32) (le31 : Int32) (gg31 : Nat → Int32) : Int32 := (f0_396d7 xx oo le31 gg31 (1 : Int32))
def f0_375d7 (xx : Int32) (oo : Int32) (ss : Int32) (le31 : Int32) (gg31 : Nat → Int32) : Int32 := if (f3_0 (8 : Int32) oo le31 ss gg31) = (0 : Int32) then (f0_395d7 xx oo le31 gg31) else (f0_391d7 xx oo le31 gg31)
def f0_359d7 (xx : Int32) (oo : Int32) (ss : Int32) (le31 : Int32) (gg31 : Nat → Int32) : Int32 := if (f3_0 (7 : Int32) oo le31 ss gg31) = (0 : Int32) then (f0_395d7 xx oo le31 gg31) else (f0_375d7 xx oo ss le31 gg31)
def f0_343d7 (xx : Int32) (oo : Int32) (ss : Int32) (le31 : Int32) (gg31 : Nat → Int32) : Int32 := if (f3_0 (6 : Int32) oo le31 ss gg31) = (0 : Int32) then (f0_395d7 xx oo le31 gg31) else (f0_359d7 xx oo ss le31 gg31)
def f0_328d7 (xx : Int32) (oo : Int32) (ss : Int32) (le31 : Int32) (gg31 : Nat → Int32) : Int32 := if (f3_0 (5 : Int32) oo le31 ss gg31) = (0 : Int32) then (f0_395d7 xx oo le31 gg31) else (f0_343d7 xx oo ss le31 gg31)
def f0_313d7 (xx : Int32) (oo : Int32) (ss : Int32) (le31 : Int32) (gg31 : Nat → Int32) : Int32 := if (f3_0 (4 : Int32) oo le31 ss gg31) = (0 : Int32) then (f0_395d7 xx oo le31 gg31) else (f0_328d7 xx oo ss le31 gg31)
def f0_298d7 (xx : Int32) (oo : Int32) (ss : Int32) (le31 : Int32) (gg31 : Nat → Int32) : Int32 := if (f3_0 (3 : Int32) oo le31 ss gg31) = (0 : Int32) then (f0_395d7 xx oo le31 gg31) else (f0_313d7 xx oo ss le31 gg31)
def f0_283d7 (xx : Int32) (oo : Int32) (ss : Int32) (le31 : Int32) (gg31 : Nat → Int32) : Int32 := if (f3_0 (2 : Int32) oo le31 ss gg31) = (0 : Int32) then (f0_395d7 xx oo le31 gg31) else (f0_298d7 xx oo ss le31 gg31)
def f0_268d7 (xx : Int32) (oo : Int32) (ss : Int32) (le31 : Int32) (gg31 : Nat → Int32) : Int32 := if (f3_0 (1 : Int32) oo le31 ss gg31) = (0 : Int32) then (f0_395d7 xx oo le31 gg31) else (f0_283d7 xx oo ss le31 gg31)
def f0_253d7 (xx : Int32) (oo : Int32) (ss : Int32) (le31 : Int32) (gg31 : Nat → Int32) : Int32 := if (f3_0 (0 : Int32) oo le31 ss gg31) = (0 : Int32) then (f0_395d7 xx oo le31 gg31) else (f0_268d7 xx oo ss le31 gg31)
def f0_242d7 (xx : Int32) (oo : Int32) (ss : Int32) (le31 : Int32) (gg31 : Nat → Int32) (v231d7_s0 : Int64) : Int32 := if (lcmpW (xx.toInt64) v231d7_s0) < (0 : Int32) then (f0_253d7 xx oo ss le31 gg31) else f0_251d7
def f0_231d7 (xx : Int32) (oo : Int32) (ss : Int32) (le31 : Int32) (gg31 : Nat → Int32) (v209d7_s0 : Int64) (v231d7_s0 : Int64) : Int32 := if (lcmpW (xx.toInt64) v209d7_s0) < (0 : Int32) then f0_251d7 else (f0_242d7 xx oo ss le31 gg31 v231d7_s0)
def f0_223d7 (xx : Int32) (oo : Int32) (ss : Int32) (le31 : Int32) (gg31 : Nat → Int32) (v209d7_s0 : Int64) : Int32 := (f0_231d7 xx oo ss le31 gg31 v209d7_s0 ((1 : Int64) <<< ((((5 : Int32) * le31) + (1 : Int32)) &&& 0x3f).toInt64))
def f0_217d7 (xx : Int32) (oo : Int32) (ss : Int32) (le31 : Int32) (gg31 : Nat → Int32) (v209d7_s0 : Int64) : Int32 := (f0_231d7 xx oo ss le31 gg31 v209d7_s0 (128 : Int64))
def f0_209d7 (xx : Int32) (oo : Int32) (ss : Int32) (le31 : Int32) (gg31 : Nat → Int32) (v209d7_s0 : Int64) : Int32 := if le31 = (1 : Int32) then (f0_217d7 xx oo ss le31 gg31 v209d7_s0) else (f0_223d7 xx oo ss le31 gg31 v209d7_s0)
def f0_199d7 (xx : Int32) (oo : Int32) (ss : Int32) (le31 : Int32) (gg31 : Nat → Int32) : Int32 := (f0_209d7 xx oo ss le31 gg31 ((1 : Int64) <<< ((((5 : Int32) * (le31 - (1 : Int32))) + (1 : Int32)) &&& 0x3f).toInt64))
def f0_193d7 (xx : Int32) (oo : Int32) (ss : Int32) (le31 : Int32) (gg31 : Nat → Int32) : Int32 := (f0_209d7 xx oo ss le31 gg31 (128 : Int64))
def f0_187d7 (xx : Int32) (oo : Int32) (ss : Int32) (le31 : Int32) (gg31 : Nat → Int32) : Int32 := if le31 = (2 : Int32) then (f0_193d7 xx oo ss le31 gg31) else (f0_199d7 xx oo ss le31 gg31)
def f0_183d7 (xx : Int32) (oo : Int32) (ss : Int32) (le31 : Int32) (gg31 : Nat → Int32) : Int32 := (f0_209d7 xx oo ss le31 gg31 (0 : Int64))
def f0_177d7 (xx : Int32) (oo : Int32) (ss : Int32) (le31 : Int32) (gg31 : Nat → Int32) : Int32 := if le31 = (1 : Int32) then (f0_183d7 xx oo ss le31 gg31) else (f0_187d7 xx oo ss le31 gg31)
def f0_165d7 (xx : Int32) (oo : Int32) (ss : Int32) (le31 : Int32) (gg31 : Nat → Int32) : Int32 := (f0_177d7 xx oo ss le31 gg31)
def f0_156d7 (xx : Int32) (oo : Int32) (ss : Int32) (le31 : Int32) (gg31 : Nat → Int32) : Int32 := if (6 : Int32) < le31 then f0_163d7 else (f0_165d7 xx oo ss le31 gg31)
def f0_150d7 (xx : Int32) (oo : Int32) (ss : Int32) (le31 : Int32) (gg31 : Nat → Int32) : Int32 := if le31 < (1 : Int32) then f0_163d7 else (f0_156d7 xx oo ss le31 gg31)
def f0_135d7 : Int32 := 1
def f0_126d7 : Int32 := f0_135d7
def f0_48d7 : Int32 := f0_126d7
def f0_46d7 : Int32 := (nar .boolean (1 : Int32))
def f0_39d7 (xx : Int32) : Int32 := if (57343 : Int32) < xx then f0_48d7 else f0_46d7
def f0_32d7 (xx : Int32) : Int32 := if xx < (55296 : Int32) then f0_48d7 else (f0_39d7 xx)
def f0_30d7 : Int32 := 1
def f0_16d7 : Int32 := f0_30d7
def f0_11d7 : Int32 := f0_16d7
def f0_6 : Int32 := f0_11d7
def f0_0 (p1 : Int32) : Int32 := if (p1 &&& (1 : Int32)) = (0 : Int32) then f0_10 else f0_6
theorem law_150d7_1 {xx ss : Int32} {g : Nat → Int32} {N : Nat} {k : Fin 4} (hN : xx.toInt = N) (O : Out N k.val 1 ss g) : f0_150d7 xx (Int32.ofNat k.val) ss (1 : Int32) g = 1 := by
  have e0 := own_on0 k
  have lo : 0 ≤ N := O.lo
  have hi : N < 128 := O.hi
  have H : g k.val = own_b (0 + N / 1) := O.H
  unfold f0_150d7
  refine (if_neg ?_).trans ?_
  · decide
  unfold f0_156d7
  refine (if_neg ?_).trans ?_
  · decide
  unfold f0_165d7
  unfold f0_177d7
  refine (if_pos ?_).trans ?_
  · rfl
  unfold f0_183d7
  unfold f0_209d7
  refine (if_pos ?_).trans ?_
  · rfl
  unfold f0_217d7
  unfold f0_231d7
  refine (if_neg ?_).trans ?_
  · exact own_clo hN _ 0 (by decide) lo
  unfold f0_242d7
  refine (if_pos ?_).trans ?_
  · exact own_chi hN _ 128 (by decide) hi
  unfold f0_253d7
  refine (if_neg ?_).trans ?_
  · exact own_unt 0 (by decide) O
  unfold f0_268d7
  refine (if_neg ?_).trans ?_
  · exact own_unt 1 (by decide) O
  unfold f0_283d7
  refine (if_neg ?_).trans ?_
  · exact own_unt 2 (by decide) O
  unfold f0_298d7
  refine (if_neg ?_).trans ?_
  · exact own_unt 3 (by decide) O
  unfold f0_313d7
  refine (if_neg ?_).trans ?_
  · exact own_unt 4 (by decide) O
  unfold f0_328d7
  refine (if_neg ?_).trans ?_
  · exact own_unt 5 (by decide) O
  unfold f0_343d7
  refine (if_neg ?_).trans ?_
  · exact own_unt 6 (by decide) O
  unfold f0_359d7
  refine (if_neg ?_).trans ?_
  · exact own_unt 7 (by decide) O
  unfold f0_375d7
  refine (if_neg ?_).trans ?_
  · exact own_unt 8 (by decide) O
  unfold f0_391d7
  unfold f0_396d7
  refine (if_neg ?_).trans ?_
  · decide
  unfold f0_405d7
  refine (if_pos ?_).trans ?_
  · rfl
  unfold f0_422d7
  unfold f0_435d7
  refine (if_pos ?_).trans ?_
  · rfl
  unfold f0_443d7
  unfold f0_456d7
  refine (if_pos ?_).trans ?_
  · rw [e0, H]; exact (by decide +kernel : ∀ m : Fin 128, (((own_b (0 + m.val) &&& (255 : Int32)) &&& ((127 : Int32) ^^^ (-1 : Int32))) &&& (255 : Int32)) = (0 : Int32)) ⟨N / 1, by omega⟩
  unfold f0_476d7
  refine (if_neg ?_).trans ?_
  · exact own_tail 1 (by decide) (by decide) O
  unfold f0_489d7
  refine (if_neg ?_).trans ?_
  · exact own_tail 2 (by decide) (by decide) O
  unfold f0_502d7
  refine (if_neg ?_).trans ?_
  · exact own_tail 3 (by decide) (by decide) O
  unfold f0_515d7
  refine (if_neg ?_).trans ?_
  · exact own_tail 4 (by decide) (by decide) O
  unfold f0_528d7
  refine (if_neg ?_).trans ?_
  · exact own_tail 5 (by decide) (by decide) O
  unfold f0_541d7
  unfold f0_546d7
  refine (if_neg ?_).trans ?_
  · decide
  have v0 : (((g (Int32.ofNat k.val).toNatClampNeg) &&& (255 : Int32)) &&& (127 : Int32)).toInt64.toInt = ((N / 1 : Nat) : Int) := by
    rw [e0, H, c_i2l, (by decide +kernel : ∀ m : Fin 128, ((own_b (0 + m.val) &&& (255 : Int32)) &&& (127 : Int32)) = Int32.ofNat m.val) ⟨N / 1, by omega⟩]
    exact Int32.toInt_ofNat_of_lt (by simp only; omega)
  have a1 : ∀ v, f5_0 v (Int32.ofNat k.val) (1 : Int32) (1 : Int32) g = v := own_an (L := 1) 1 (by decide) (by decide)
  have a2 : ∀ v, f5_0 v (Int32.ofNat k.val) (1 : Int32) (2 : Int32) g = v := own_an (L := 1) 2 (by decide) (by decide)
  have a3 : ∀ v, f5_0 v (Int32.ofNat k.val) (1 : Int32) (3 : Int32) g = v := own_an (L := 1) 3 (by decide) (by decide)
  have a4 : ∀ v, f5_0 v (Int32.ofNat k.val) (1 : Int32) (4 : Int32) g = v := own_an (L := 1) 4 (by decide) (by decide)
  have a5 : ∀ v, f5_0 v (Int32.ofNat k.val) (1 : Int32) (5 : Int32) g = v := own_an (L := 1) 5 (by decide) (by decide)
  unfold f0_555d7
  refine (if_pos ?_).trans ?_
  · rw [a5, a4, a3, a2, a1]; exact own_ceq hN _ (v0.trans (by omega))
  rfl
theorem law_150d7_2 {xx ss : Int32} {g : Nat → Int32} {N : Nat} {k : Fin 4} (hN : xx.toInt = N) (O : Out N k.val 2 ss g) : f0_150d7 xx (Int32.ofNat k.val) ss (2 : Int32) g = 1 := by
  have e0 := own_on0 k
  have lo : 128 ≤ N := O.lo
  have hi : N < 2048 := O.hi
  have H : g k.val = own_b (192 + N / 64) := O.H
  unfold f0_150d7
  refine (if_neg ?_).trans ?_
  · decide
  unfold f0_156d7
  refine (if_neg ?_).trans ?_
  · decide
  unfold f0_165d7
  unfold f0_177d7
  refine (if_neg ?_).trans ?_
  · decide
  unfold f0_187d7
  refine (if_pos ?_).trans ?_
  · rfl
  unfold f0_193d7
  unfold f0_209d7
  refine (if_neg ?_).trans ?_
  · decide
  unfold f0_223d7
  unfold f0_231d7
  refine (if_neg ?_).trans ?_
  · exact own_clo hN _ 128 (by decide) lo
  unfold f0_242d7
  refine (if_pos ?_).trans ?_
  · exact own_chi hN _ 2048 (by decide) hi
  unfold f0_253d7
  refine (if_neg ?_).trans ?_
  · exact own_unt 0 (by decide) O
  unfold f0_268d7
  refine (if_neg ?_).trans ?_
  · exact own_unt 1 (by decide) O
  unfold f0_283d7
  refine (if_neg ?_).trans ?_
  · exact own_unt 2 (by decide) O
  unfold f0_298d7
  refine (if_neg ?_).trans ?_
  · exact own_unt 3 (by decide) O
  unfold f0_313d7
  refine (if_neg ?_).trans ?_
  · exact own_unt 4 (by decide) O
  unfold f0_328d7
  refine (if_neg ?_).trans ?_
  · exact own_unt 5 (by decide) O
  unfold f0_343d7
  refine (if_neg ?_).trans ?_
  · exact own_unt 6 (by decide) O
  unfold f0_359d7
  refine (if_neg ?_).trans ?_
  · exact own_unt 7 (by decide) O
  unfold f0_375d7
  refine (if_neg ?_).trans ?_
  · exact own_unt 8 (by decide) O
  unfold f0_391d7
  unfold f0_396d7
  refine (if_neg ?_).trans ?_
  · decide
  unfold f0_405d7
  refine (if_neg ?_).trans ?_
  · decide
  unfold f0_427d7
  unfold f0_435d7
  refine (if_neg ?_).trans ?_
  · decide
  unfold f0_447d7
  unfold f0_456d7
  refine (if_pos ?_).trans ?_
  · rw [e0, H]; exact (by decide +kernel : ∀ m : Fin 32, (((own_b (192 + m.val) &&& (255 : Int32)) &&& (((255 : Int32) >>> (((2 : Int32) + (1 : Int32)) &&& 31)) ^^^ (-1 : Int32))) &&& (255 : Int32)) = (((65280 : Int32) >>> ((2 : Int32) &&& 31)) &&& (255 : Int32))) ⟨N / 64, by omega⟩
  unfold f0_476d7
  refine (if_neg ?_).trans ?_
  · exact own_tail 1 (by decide) (by decide) O
  unfold f0_489d7
  refine (if_neg ?_).trans ?_
  · exact own_tail 2 (by decide) (by decide) O
  unfold f0_502d7
  refine (if_neg ?_).trans ?_
  · exact own_tail 3 (by decide) (by decide) O
  unfold f0_515d7
  refine (if_neg ?_).trans ?_
  · exact own_tail 4 (by decide) (by decide) O
  unfold f0_528d7
  refine (if_neg ?_).trans ?_
  · exact own_tail 5 (by decide) (by decide) O
  unfold f0_541d7
  unfold f0_546d7
  refine (if_neg ?_).trans ?_
  · decide
  have v0 : (((g (Int32.ofNat k.val).toNatClampNeg) &&& (255 : Int32)) &&& ((255 : Int32) >>> (((2 : Int32) + (1 : Int32)) &&& 31))).toInt64.toInt = ((N / 64 : Nat) : Int) := by
    rw [e0, H, c_i2l, (by decide +kernel : ∀ m : Fin 32, ((own_b (192 + m.val) &&& (255 : Int32)) &&& ((255 : Int32) >>> (((2 : Int32) + (1 : Int32)) &&& 31))) = Int32.ofNat m.val) ⟨N / 64, by omega⟩]
    exact Int32.toInt_ofNat_of_lt (by simp only; omega)
  have v1 := own_ad 1 (by decide) (by decide) O (by decide) v0 (by omega) 1 (by decide)
  have a2 : ∀ v, f5_0 v (Int32.ofNat k.val) (2 : Int32) (2 : Int32) g = v := own_an (L := 2) 2 (by decide) (by decide)
  have a3 : ∀ v, f5_0 v (Int32.ofNat k.val) (2 : Int32) (3 : Int32) g = v := own_an (L := 2) 3 (by decide) (by decide)
  have a4 : ∀ v, f5_0 v (Int32.ofNat k.val) (2 : Int32) (4 : Int32) g = v := own_an (L := 2) 4 (by decide) (by decide)
  have a5 : ∀ v, f5_0 v (Int32.ofNat k.val) (2 : Int32) (5 : Int32) g = v := own_an (L := 2) 5 (by decide) (by decide)
  unfold f0_555d7
  refine (if_pos ?_).trans ?_
  · rw [a5, a4, a3, a2]; exact own_ceq hN _ (v1.trans (by omega))
  rfl
theorem law_150d7_3 {xx ss : Int32} {g : Nat → Int32} {N : Nat} {k : Fin 4} (hN : xx.toInt = N) (O : Out N k.val 3 ss g) : f0_150d7 xx (Int32.ofNat k.val) ss (3 : Int32) g = 1 := by
  have e0 := own_on0 k
  have lo : 2048 ≤ N := O.lo
  have hi : N < 65536 := O.hi
  have H : g k.val = own_b (224 + N / 4096) := O.H
  unfold f0_150d7
  refine (if_neg ?_).trans ?_
  · decide
  unfold f0_156d7
  refine (if_neg ?_).trans ?_
  · decide
  unfold f0_165d7
  unfold f0_177d7
  refine (if_neg ?_).trans ?_
  · decide
  unfold f0_187d7
  refine (if_neg ?_).trans ?_
  · decide
  unfold f0_199d7
  unfold f0_209d7
  refine (if_neg ?_).trans ?_
  · decide
  unfold f0_223d7
  unfold f0_231d7
  refine (if_neg ?_).trans ?_
  · exact own_clo hN _ 2048 (by decide) lo
  unfold f0_242d7
  refine (if_pos ?_).trans ?_
  · exact own_chi hN _ 65536 (by decide) hi
  unfold f0_253d7
  refine (if_neg ?_).trans ?_
  · exact own_unt 0 (by decide) O
  unfold f0_268d7
  refine (if_neg ?_).trans ?_
  · exact own_unt 1 (by decide) O
  unfold f0_283d7
  refine (if_neg ?_).trans ?_
  · exact own_unt 2 (by decide) O
  unfold f0_298d7
  refine (if_neg ?_).trans ?_
  · exact own_unt 3 (by decide) O
  unfold f0_313d7
  refine (if_neg ?_).trans ?_
  · exact own_unt 4 (by decide) O
  unfold f0_328d7
  refine (if_neg ?_).trans ?_
  · exact own_unt 5 (by decide) O
  unfold f0_343d7
  refine (if_neg ?_).trans ?_
  · exact own_unt 6 (by decide) O
  unfold f0_359d7
  refine (if_neg ?_).trans ?_
  · exact own_unt 7 (by decide) O
  unfold f0_375d7
  refine (if_neg ?_).trans ?_
  · exact own_unt 8 (by decide) O
  unfold f0_391d7
  unfold f0_396d7
  refine (if_neg ?_).trans ?_
  · decide
  unfold f0_405d7
  refine (if_neg ?_).trans ?_
  · decide
  unfold f0_427d7
  unfold f0_435d7
  refine (if_neg ?_).trans ?_
  · decide
  unfold f0_447d7
  unfold f0_456d7
  refine (if_pos ?_).trans ?_
  · rw [e0, H]; exact (by decide +kernel : ∀ m : Fin 16, (((own_b (224 + m.val) &&& (255 : Int32)) &&& (((255 : Int32) >>> (((3 : Int32) + (1 : Int32)) &&& 31)) ^^^ (-1 : Int32))) &&& (255 : Int32)) = (((65280 : Int32) >>> ((3 : Int32) &&& 31)) &&& (255 : Int32))) ⟨N / 4096, by omega⟩
  unfold f0_476d7
  refine (if_neg ?_).trans ?_
  · exact own_tail 1 (by decide) (by decide) O
  unfold f0_489d7
  refine (if_neg ?_).trans ?_
  · exact own_tail 2 (by decide) (by decide) O
  unfold f0_502d7
  refine (if_neg ?_).trans ?_
  · exact own_tail 3 (by decide) (by decide) O
  unfold f0_515d7
  refine (if_neg ?_).trans ?_
  · exact own_tail 4 (by decide) (by decide) O
  unfold f0_528d7
  refine (if_neg ?_).trans ?_
  · exact own_tail 5 (by decide) (by decide) O
  unfold f0_541d7
  unfold f0_546d7
  refine (if_neg ?_).trans ?_
  · decide
  have v0 : (((g (Int32.ofNat k.val).toNatClampNeg) &&& (255 : Int32)) &&& ((255 : Int32) >>> (((3 : Int32) + (1 : Int32)) &&& 31))).toInt64.toInt = ((N / 4096 : Nat) : Int) := by
    rw [e0, H, c_i2l, (by decide +kernel : ∀ m : Fin 16, ((own_b (224 + m.val) &&& (255 : Int32)) &&& ((255 : Int32) >>> (((3 : Int32) + (1 : Int32)) &&& 31))) = Int32.ofNat m.val) ⟨N / 4096, by omega⟩]
    exact Int32.toInt_ofNat_of_lt (by simp only; omega)
  have v1 := own_ad 1 (by decide) (by decide) O (by decide) v0 (by omega) 64 (by decide)
  have v2 := own_ad 2 (by decide) (by decide) O (by decide) v1 (by omega) 1 (by decide)
  have a3 : ∀ v, f5_0 v (Int32.ofNat k.val) (3 : Int32) (3 : Int32) g = v := own_an (L := 3) 3 (by decide) (by decide)
  have a4 : ∀ v, f5_0 v (Int32.ofNat k.val) (3 : Int32) (4 : Int32) g = v := own_an (L := 3) 4 (by decide) (by decide)
  have a5 : ∀ v, f5_0 v (Int32.ofNat k.val) (3 : Int32) (5 : Int32) g = v := own_an (L := 3) 5 (by decide) (by decide)
  unfold f0_555d7
  refine (if_pos ?_).trans ?_
  · rw [a5, a4, a3]; exact own_ceq hN _ (v2.trans (by omega))
  rfl
theorem law_150d7_4 {xx ss : Int32} {g : Nat → Int32} {N : Nat} {k : Fin 4} (hN : xx.toInt = N) (O : Out N k.val 4 ss g) : f0_150d7 xx (Int32.ofNat k.val) ss (4 : Int32) g = 1 := by
  have e0 := own_on0 k
  have lo : 65536 ≤ N := O.lo
  have hi : N < 2097152 := O.hi
  have H : g k.val = own_b (240 + N / 262144) := O.H
  unfold f0_150d7
  refine (if_neg ?_).trans ?_
  · decide
  unfold f0_156d7
  refine (if_neg ?_).trans ?_
  · decide
  unfold f0_165d7
  unfold f0_177d7
  refine (if_neg ?_).trans ?_
  · decide
  unfold f0_187d7
  refine (if_neg ?_).trans ?_
  · decide
  unfold f0_199d7
  unfold f0_209d7
  refine (if_neg ?_).trans ?_
  · decide
  unfold f0_223d7
  unfold f0_231d7
  refine (if_neg ?_).trans ?_
  · exact own_clo hN _ 65536 (by decide) lo
  unfold f0_242d7
  refine (if_pos ?_).trans ?_
  · exact own_chi hN _ 2097152 (by decide) hi
  unfold f0_253d7
  refine (if_neg ?_).trans ?_
  · exact own_unt 0 (by decide) O
  unfold f0_268d7
  refine (if_neg ?_).trans ?_
  · exact own_unt 1 (by decide) O
  unfold f0_283d7
  refine (if_neg ?_).trans ?_
  · exact own_unt 2 (by decide) O
  unfold f0_298d7
  refine (if_neg ?_).trans ?_
  · exact own_unt 3 (by decide) O
  unfold f0_313d7
  refine (if_neg ?_).trans ?_
  · exact own_unt 4 (by decide) O
  unfold f0_328d7
  refine (if_neg ?_).trans ?_
  · exact own_unt 5 (by decide) O
  unfold f0_343d7
  refine (if_neg ?_).trans ?_
  · exact own_unt 6 (by decide) O
  unfold f0_359d7
  refine (if_neg ?_).trans ?_
  · exact own_unt 7 (by decide) O
  unfold f0_375d7
  refine (if_neg ?_).trans ?_
  · exact own_unt 8 (by decide) O
  unfold f0_391d7
  unfold f0_396d7
  refine (if_neg ?_).trans ?_
  · decide
  unfold f0_405d7
  refine (if_neg ?_).trans ?_
  · decide
  unfold f0_427d7
  unfold f0_435d7
  refine (if_neg ?_).trans ?_
  · decide
  unfold f0_447d7
  unfold f0_456d7
  refine (if_pos ?_).trans ?_
  · rw [e0, H]; exact (by decide +kernel : ∀ m : Fin 8, (((own_b (240 + m.val) &&& (255 : Int32)) &&& (((255 : Int32) >>> (((4 : Int32) + (1 : Int32)) &&& 31)) ^^^ (-1 : Int32))) &&& (255 : Int32)) = (((65280 : Int32) >>> ((4 : Int32) &&& 31)) &&& (255 : Int32))) ⟨N / 262144, by omega⟩
  unfold f0_476d7
  refine (if_neg ?_).trans ?_
  · exact own_tail 1 (by decide) (by decide) O
  unfold f0_489d7
  refine (if_neg ?_).trans ?_
  · exact own_tail 2 (by decide) (by decide) O
  unfold f0_502d7
  refine (if_neg ?_).trans ?_
  · exact own_tail 3 (by decide) (by decide) O
  unfold f0_515d7
  refine (if_neg ?_).trans ?_
  · exact own_tail 4 (by decide) (by decide) O
  unfold f0_528d7
  refine (if_neg ?_).trans ?_
  · exact own_tail 5 (by decide) (by decide) O
  unfold f0_541d7
  unfold f0_546d7
  refine (if_neg ?_).trans ?_
  · decide
  have v0 : (((g (Int32.ofNat k.val).toNatClampNeg) &&& (255 : Int32)) &&& ((255 : Int32) >>> (((4 : Int32) + (1 : Int32)) &&& 31))).toInt64.toInt = ((N / 262144 : Nat) : Int) := by
    rw [e0, H, c_i2l, (by decide +kernel : ∀ m : Fin 8, ((own_b (240 + m.val) &&& (255 : Int32)) &&& ((255 : Int32) >>> (((4 : Int32) + (1 : Int32)) &&& 31))) = Int32.ofNat m.val) ⟨N / 262144, by omega⟩]
    exact Int32.toInt_ofNat_of_lt (by simp only; omega)
  have v1 := own_ad 1 (by decide) (by decide) O (by decide) v0 (by omega) 4096 (by decide)
  have v2 := own_ad 2 (by decide) (by decide) O (by decide) v1 (by omega) 64 (by decide)
  have v3 := own_ad 3 (by decide) (by decide) O (by decide) v2 (by omega) 1 (by decide)
  have a4 : ∀ v, f5_0 v (Int32.ofNat k.val) (4 : Int32) (4 : Int32) g = v := own_an (L := 4) 4 (by decide) (by decide)
  have a5 : ∀ v, f5_0 v (Int32.ofNat k.val) (4 : Int32) (5 : Int32) g = v := own_an (L := 4) 5 (by decide) (by decide)
  unfold f0_555d7
  refine (if_pos ?_).trans ?_
  · rw [a5, a4]; exact own_ceq hN _ (v3.trans (by omega))
  rfl
theorem law_150d7_5 {xx ss : Int32} {g : Nat → Int32} {N : Nat} {k : Fin 4} (hN : xx.toInt = N) (O : Out N k.val 5 ss g) : f0_150d7 xx (Int32.ofNat k.val) ss (5 : Int32) g = 1 := by
  have e0 := own_on0 k
  have lo : 2097152 ≤ N := O.lo
  have hi : N < 67108864 := O.hi
  have H : g k.val = own_b (248 + N / 16777216) := O.H
  unfold f0_150d7
  refine (if_neg ?_).trans ?_
  · decide
  unfold f0_156d7
  refine (if_neg ?_).trans ?_
  · decide
  unfold f0_165d7
  unfold f0_177d7
  refine (if_neg ?_).trans ?_
  · decide
  unfold f0_187d7
  refine (if_neg ?_).trans ?_
  · decide
  unfold f0_199d7
  unfold f0_209d7
  refine (if_neg ?_).trans ?_
  · decide
  unfold f0_223d7
  unfold f0_231d7
  refine (if_neg ?_).trans ?_
  · exact own_clo hN _ 2097152 (by decide) lo
  unfold f0_242d7
  refine (if_pos ?_).trans ?_
  · exact own_chi hN _ 67108864 (by decide) hi
  unfold f0_253d7
  refine (if_neg ?_).trans ?_
  · exact own_unt 0 (by decide) O
  unfold f0_268d7
  refine (if_neg ?_).trans ?_
  · exact own_unt 1 (by decide) O
  unfold f0_283d7
  refine (if_neg ?_).trans ?_
  · exact own_unt 2 (by decide) O
  unfold f0_298d7
  refine (if_neg ?_).trans ?_
  · exact own_unt 3 (by decide) O
  unfold f0_313d7
  refine (if_neg ?_).trans ?_
  · exact own_unt 4 (by decide) O
  unfold f0_328d7
  refine (if_neg ?_).trans ?_
  · exact own_unt 5 (by decide) O
  unfold f0_343d7
  refine (if_neg ?_).trans ?_
  · exact own_unt 6 (by decide) O
  unfold f0_359d7
  refine (if_neg ?_).trans ?_
  · exact own_unt 7 (by decide) O
  unfold f0_375d7
  refine (if_neg ?_).trans ?_
  · exact own_unt 8 (by decide) O
  unfold f0_391d7
  unfold f0_396d7
  refine (if_neg ?_).trans ?_
  · decide
  unfold f0_405d7
  refine (if_neg ?_).trans ?_
  · decide
  unfold f0_427d7
  unfold f0_435d7
  refine (if_neg ?_).trans ?_
  · decide
  unfold f0_447d7
  unfold f0_456d7
  refine (if_pos ?_).trans ?_
  · rw [e0, H]; exact (by decide +kernel : ∀ m : Fin 4, (((own_b (248 + m.val) &&& (255 : Int32)) &&& (((255 : Int32) >>> (((5 : Int32) + (1 : Int32)) &&& 31)) ^^^ (-1 : Int32))) &&& (255 : Int32)) = (((65280 : Int32) >>> ((5 : Int32) &&& 31)) &&& (255 : Int32))) ⟨N / 16777216, by omega⟩
  unfold f0_476d7
  refine (if_neg ?_).trans ?_
  · exact own_tail 1 (by decide) (by decide) O
  unfold f0_489d7
  refine (if_neg ?_).trans ?_
  · exact own_tail 2 (by decide) (by decide) O
  unfold f0_502d7
  refine (if_neg ?_).trans ?_
  · exact own_tail 3 (by decide) (by decide) O
  unfold f0_515d7
  refine (if_neg ?_).trans ?_
  · exact own_tail 4 (by decide) (by decide) O
  unfold f0_528d7
  refine (if_neg ?_).trans ?_
  · exact own_tail 5 (by decide) (by decide) O
  unfold f0_541d7
  unfold f0_546d7
  refine (if_neg ?_).trans ?_
  · decide
  have v0 : (((g (Int32.ofNat k.val).toNatClampNeg) &&& (255 : Int32)) &&& ((255 : Int32) >>> (((5 : Int32) + (1 : Int32)) &&& 31))).toInt64.toInt = ((N / 16777216 : Nat) : Int) := by
    rw [e0, H, c_i2l, (by decide +kernel : ∀ m : Fin 4, ((own_b (248 + m.val) &&& (255 : Int32)) &&& ((255 : Int32) >>> (((5 : Int32) + (1 : Int32)) &&& 31))) = Int32.ofNat m.val) ⟨N / 16777216, by omega⟩]
    exact Int32.toInt_ofNat_of_lt (by simp only; omega)
  have v1 := own_ad 1 (by decide) (by decide) O (by decide) v0 (by omega) 262144 (by decide)
  have v2 := own_ad 2 (by decide) (by decide) O (by decide) v1 (by omega) 4096 (by decide)
  have v3 := own_ad 3 (by decide) (by decide) O (by decide) v2 (by omega) 64 (by decide)
  have v4 := own_ad 4 (by decide) (by decide) O (by decide) v3 (by omega) 1 (by decide)
  have a5 : ∀ v, f5_0 v (Int32.ofNat k.val) (5 : Int32) (5 : Int32) g = v := own_an (L := 5) 5 (by decide) (by decide)
  unfold f0_555d7
  refine (if_pos ?_).trans ?_
  · rw [a5]; exact own_ceq hN _ (v4.trans (by omega))
  rfl
theorem law_150d7_6 {xx ss : Int32} {g : Nat → Int32} {N : Nat} {k : Fin 4} (hN : xx.toInt = N) (O : Out N k.val 6 ss g) : f0_150d7 xx (Int32.ofNat k.val) ss (6 : Int32) g = 1 := by
  have e0 := own_on0 k
  have lo : 67108864 ≤ N := O.lo
  have hi : N < 2147483648 := O.hi
  have H : g k.val = own_b (252 + N / 1073741824) := O.H
  unfold f0_150d7
  refine (if_neg ?_).trans ?_
  · decide
  unfold f0_156d7
  refine (if_neg ?_).trans ?_
  · decide
  unfold f0_165d7
  unfold f0_177d7
  refine (if_neg ?_).trans ?_
  · decide
  unfold f0_187d7
  refine (if_neg ?_).trans ?_
  · decide
  unfold f0_199d7
  unfold f0_209d7
  refine (if_neg ?_).trans ?_
  · decide
  unfold f0_223d7
  unfold f0_231d7
  refine (if_neg ?_).trans ?_
  · exact own_clo hN _ 67108864 (by decide) lo
  unfold f0_242d7
  refine (if_pos ?_).trans ?_
  · exact own_chi hN _ 2147483648 (by decide) hi
  unfold f0_253d7
  refine (if_neg ?_).trans ?_
  · exact own_unt 0 (by decide) O
  unfold f0_268d7
  refine (if_neg ?_).trans ?_
  · exact own_unt 1 (by decide) O
  unfold f0_283d7
  refine (if_neg ?_).trans ?_
  · exact own_unt 2 (by decide) O
  unfold f0_298d7
  refine (if_neg ?_).trans ?_
  · exact own_unt 3 (by decide) O
  unfold f0_313d7
  refine (if_neg ?_).trans ?_
  · exact own_unt 4 (by decide) O
  unfold f0_328d7
  refine (if_neg ?_).trans ?_
  · exact own_unt 5 (by decide) O
  unfold f0_343d7
  refine (if_neg ?_).trans ?_
  · exact own_unt 6 (by decide) O
  unfold f0_359d7
  refine (if_neg ?_).trans ?_
  · exact own_unt 7 (by decide) O
  unfold f0_375d7
  refine (if_neg ?_).trans ?_
  · exact own_unt 8 (by decide) O
  unfold f0_391d7
  unfold f0_396d7
  refine (if_neg ?_).trans ?_
  · decide
  unfold f0_405d7
  refine (if_neg ?_).trans ?_
  · decide
  unfold f0_427d7
  unfold f0_435d7
  refine (if_neg ?_).trans ?_
  · decide
  unfold f0_447d7
  unfold f0_456d7
  refine (if_pos ?_).trans ?_
  · rw [e0, H]; exact (by decide +kernel : ∀ m : Fin 2, (((own_b (252 + m.val) &&& (255 : Int32)) &&& (((255 : Int32) >>> (((6 : Int32) + (1 : Int32)) &&& 31)) ^^^ (-1 : Int32))) &&& (255 : Int32)) = (((65280 : Int32) >>> ((6 : Int32) &&& 31)) &&& (255 : Int32))) ⟨N / 1073741824, by omega⟩
  unfold f0_476d7
  refine (if_neg ?_).trans ?_
  · exact own_tail 1 (by decide) (by decide) O
  unfold f0_489d7
  refine (if_neg ?_).trans ?_
  · exact own_tail 2 (by decide) (by decide) O
  unfold f0_502d7
  refine (if_neg ?_).trans ?_
  · exact own_tail 3 (by decide) (by decide) O
  unfold f0_515d7
  refine (if_neg ?_).trans ?_
  · exact own_tail 4 (by decide) (by decide) O
  unfold f0_528d7
  refine (if_neg ?_).trans ?_
  · exact own_tail 5 (by decide) (by decide) O
  unfold f0_541d7
  unfold f0_546d7
  refine (if_neg ?_).trans ?_
  · decide
  have v0 : (((g (Int32.ofNat k.val).toNatClampNeg) &&& (255 : Int32)) &&& ((255 : Int32) >>> (((6 : Int32) + (1 : Int32)) &&& 31))).toInt64.toInt = ((N / 1073741824 : Nat) : Int) := by
    rw [e0, H, c_i2l, (by decide +kernel : ∀ m : Fin 2, ((own_b (252 + m.val) &&& (255 : Int32)) &&& ((255 : Int32) >>> (((6 : Int32) + (1 : Int32)) &&& 31))) = Int32.ofNat m.val) ⟨N / 1073741824, by omega⟩]
    exact Int32.toInt_ofNat_of_lt (by simp only; omega)
  have v1 := own_ad 1 (by decide) (by decide) O (by decide) v0 (by omega) 16777216 (by decide)
  have v2 := own_ad 2 (by decide) (by decide) O (by decide) v1 (by omega) 262144 (by decide)
  have v3 := own_ad 3 (by decide) (by decide) O (by decide) v2 (by omega) 4096 (by decide)
  have v4 := own_ad 4 (by decide) (by decide) O (by decide) v3 (by omega) 64 (by decide)
  have v5 := own_ad 5 (by decide) (by decide) O (by decide) v4 (by omega) 1 (by decide)
  unfold f0_555d7
  refine (if_pos ?_).trans ?_
  · exact own_ceq hN _ (v5.trans (by omega))
  rfl
theorem law_32d7 (xx : Int32) : f0_32d7 xx = 1 := by
  unfold f0_32d7
  by_cases h : xx < (55296 : Int32)
  · rw [if_pos h]; rfl
  · rw [if_neg h]; unfold f0_39d7
    by_cases h2 : (57343 : Int32) < xx
    · rw [if_pos h2]; rfl
    · rw [if_neg h2]; rfl
theorem law_150d7 {xx oo ss le : Int32} {g : Nat → Int32} (h : OutX xx oo ss le g) : f0_150d7 xx oo ss le g = 1 := by
  obtain ⟨N, k, L, hN, rfl, h1, h6, rfl, O⟩ := h
  have hl := O.lo
  match L, h1, h6, O, hl with
  | 1, _, _, O, hl => exact law_150d7_1 hN O
  | 2, _, _, O, hl => exact law_150d7_2 hN O
  | 3, _, _, O, hl => exact law_150d7_3 hN O
  | 4, _, _, O, hl => exact law_150d7_4 hN O
  | 5, _, _, O, hl => exact law_150d7_5 hN O
  | 6, _, _, O, hl => exact law_150d7_6 hN O
theorem law_150d10_1 {xx ss : Int32} {g : Nat → Int32} {N : Nat} {k : Fin 4} (hN : xx.toInt = N) (O : Out N k.val 1 ss g) : f0_150d10 xx (Int32.ofNat k.val) ss (1 : Int32) g = 1 := by
  have e0 := own_on0 k
  have lo : 0 ≤ N := O.lo
  have hi : N < 128 := O.hi
  have H : g k.val = own_b (0 + N / 1) := O.H
  unfold f0_150d10
  refine (if_neg ?_).trans ?_
  · decide
  unfold f0_156d10
  refine (if_neg ?_).trans ?_
  · decide
  unfold f0_165d10
  unfold f0_169d10
  refine (if_neg ?_).trans ?_
  · decide
  unfold f0_177d10
  refine (if_pos ?_).trans ?_
  · rfl
  unfold f0_183d10
  unfold f0_209d10
  refine (if_pos ?_).trans ?_
  · rfl
  unfold f0_217d10
  unfold f0_231d10
  refine (if_neg ?_).trans ?_
  · exact own_clo hN _ 0 (by decide) lo
  unfold f0_242d10
  refine (if_pos ?_).trans ?_
  · exact own_chi hN _ 128 (by decide) hi
  unfold f0_253d10
  refine (if_neg ?_).trans ?_
  · exact own_unt 0 (by decide) O
  unfold f0_268d10
  refine (if_neg ?_).trans ?_
  · exact own_unt 1 (by decide) O
  unfold f0_283d10
  refine (if_neg ?_).trans ?_
  · exact own_unt 2 (by decide) O
  unfold f0_298d10
  refine (if_neg ?_).trans ?_
  · exact own_unt 3 (by decide) O
  unfold f0_313d10
  refine (if_neg ?_).trans ?_
  · exact own_unt 4 (by decide) O
  unfold f0_328d10
  refine (if_neg ?_).trans ?_
  · exact own_unt 5 (by decide) O
  unfold f0_343d10
  refine (if_neg ?_).trans ?_
  · exact own_unt 6 (by decide) O
  unfold f0_359d10
  refine (if_neg ?_).trans ?_
  · exact own_unt 7 (by decide) O
  unfold f0_375d10
  refine (if_neg ?_).trans ?_
  · exact own_unt 8 (by decide) O
  unfold f0_391d10
  unfold f0_396d10
  refine (if_neg ?_).trans ?_
  · decide
  unfold f0_405d10
  refine (if_pos ?_).trans ?_
  · rfl
  unfold f0_422d10
  unfold f0_435d10
  refine (if_pos ?_).trans ?_
  · rfl
  unfold f0_443d10
  unfold f0_456d10
  refine (if_pos ?_).trans ?_
  · rw [e0, H]; exact (by decide +kernel : ∀ m : Fin 128, (((own_b (0 + m.val) &&& (255 : Int32)) &&& ((127 : Int32) ^^^ (-1 : Int32))) &&& (255 : Int32)) = (0 : Int32)) ⟨N / 1, by omega⟩
  unfold f0_476d10
  refine (if_neg ?_).trans ?_
  · exact own_tail 1 (by decide) (by decide) O
  unfold f0_489d10
  refine (if_neg ?_).trans ?_
  · exact own_tail 2 (by decide) (by decide) O
  unfold f0_502d10
  refine (if_neg ?_).trans ?_
  · exact own_tail 3 (by decide) (by decide) O
  unfold f0_515d10
  refine (if_neg ?_).trans ?_
  · exact own_tail 4 (by decide) (by decide) O
  unfold f0_528d10
  refine (if_neg ?_).trans ?_
  · exact own_tail 5 (by decide) (by decide) O
  unfold f0_541d10
  unfold f0_546d10
  refine (if_neg ?_).trans ?_
  · decide
  have v0 : (((g (Int32.ofNat k.val).toNatClampNeg) &&& (255 : Int32)) &&& (127 : Int32)).toInt64.toInt = ((N / 1 : Nat) : Int) := by
    rw [e0, H, c_i2l, (by decide +kernel : ∀ m : Fin 128, ((own_b (0 + m.val) &&& (255 : Int32)) &&& (127 : Int32)) = Int32.ofNat m.val) ⟨N / 1, by omega⟩]
    exact Int32.toInt_ofNat_of_lt (by simp only; omega)
  have a1 : ∀ v, f5_0 v (Int32.ofNat k.val) (1 : Int32) (1 : Int32) g = v := own_an (L := 1) 1 (by decide) (by decide)
  have a2 : ∀ v, f5_0 v (Int32.ofNat k.val) (1 : Int32) (2 : Int32) g = v := own_an (L := 1) 2 (by decide) (by decide)
  have a3 : ∀ v, f5_0 v (Int32.ofNat k.val) (1 : Int32) (3 : Int32) g = v := own_an (L := 1) 3 (by decide) (by decide)
  have a4 : ∀ v, f5_0 v (Int32.ofNat k.val) (1 : Int32) (4 : Int32) g = v := own_an (L := 1) 4 (by decide) (by decide)
  have a5 : ∀ v, f5_0 v (Int32.ofNat k.val) (1 : Int32) (5 : Int32) g = v := own_an (L := 1) 5 (by decide) (by decide)
  unfold f0_555d10
  refine (if_pos ?_).trans ?_
  · rw [a5, a4, a3, a2, a1]; exact own_ceq hN _ (v0.trans (by omega))
  rfl
theorem law_150d10_2 {xx ss : Int32} {g : Nat → Int32} {N : Nat} {k : Fin 4} (hN : xx.toInt = N) (O : Out N k.val 2 ss g) : f0_150d10 xx (Int32.ofNat k.val) ss (2 : Int32) g = 1 := by
  have e0 := own_on0 k
  have lo : 128 ≤ N := O.lo
  have hi : N < 2048 := O.hi
  have H : g k.val = own_b (192 + N / 64) := O.H
  unfold f0_150d10
  refine (if_neg ?_).trans ?_
  · decide
  unfold f0_156d10
  refine (if_neg ?_).trans ?_
  · decide
  unfold f0_165d10
  unfold f0_169d10
  refine (if_neg ?_).trans ?_
  · decide
  unfold f0_177d10
  refine (if_neg ?_).trans ?_
  · decide
  unfold f0_187d10
  refine (if_pos ?_).trans ?_
  · rfl
  unfold f0_193d10
  unfold f0_209d10
  refine (if_neg ?_).trans ?_
  · decide
  unfold f0_223d10
  unfold f0_231d10
  refine (if_neg ?_).trans ?_
  · exact own_clo hN _ 128 (by decide) lo
  unfold f0_242d10
  refine (if_pos ?_).trans ?_
  · exact own_chi hN _ 2048 (by decide) hi
  unfold f0_253d10
  refine (if_neg ?_).trans ?_
  · exact own_unt 0 (by decide) O
  unfold f0_268d10
  refine (if_neg ?_).trans ?_
  · exact own_unt 1 (by decide) O
  unfold f0_283d10
  refine (if_neg ?_).trans ?_
  · exact own_unt 2 (by decide) O
  unfold f0_298d10
  refine (if_neg ?_).trans ?_
  · exact own_unt 3 (by decide) O
  unfold f0_313d10
  refine (if_neg ?_).trans ?_
  · exact own_unt 4 (by decide) O
  unfold f0_328d10
  refine (if_neg ?_).trans ?_
  · exact own_unt 5 (by decide) O
  unfold f0_343d10
  refine (if_neg ?_).trans ?_
  · exact own_unt 6 (by decide) O
  unfold f0_359d10
  refine (if_neg ?_).trans ?_
  · exact own_unt 7 (by decide) O
  unfold f0_375d10
  refine (if_neg ?_).trans ?_
  · exact own_unt 8 (by decide) O
  unfold f0_391d10
  unfold f0_396d10
  refine (if_neg ?_).trans ?_
  · decide
  unfold f0_405d10
  refine (if_neg ?_).trans ?_
  · decide
  unfold f0_427d10
  unfold f0_435d10
  refine (if_neg ?_).trans ?_
  · decide
  unfold f0_447d10
  unfold f0_456d10
  refine (if_pos ?_).trans ?_
  · rw [e0, H]; exact (by decide +kernel : ∀ m : Fin 32, (((own_b (192 + m.val) &&& (255 : Int32)) &&& (((255 : Int32) >>> (((2 : Int32) + (1 : Int32)) &&& 31)) ^^^ (-1 : Int32))) &&& (255 : Int32)) = (((65280 : Int32) >>> ((2 : Int32) &&& 31)) &&& (255 : Int32))) ⟨N / 64, by omega⟩
  unfold f0_476d10
  refine (if_neg ?_).trans ?_
  · exact own_tail 1 (by decide) (by decide) O
  unfold f0_489d10
  refine (if_neg ?_).trans ?_
  · exact own_tail 2 (by decide) (by decide) O
  unfold f0_502d10
  refine (if_neg ?_).trans ?_
  · exact own_tail 3 (by decide) (by decide) O
  unfold f0_515d10
  refine (if_neg ?_).trans ?_
  · exact own_tail 4 (by decide) (by decide) O
  unfold f0_528d10
  refine (if_neg ?_).trans ?_
  · exact own_tail 5 (by decide) (by decide) O
  unfold f0_541d10
  unfold f0_546d10
  refine (if_neg ?_).trans ?_
  · decide
  have v0 : (((g (Int32.ofNat k.val).toNatClampNeg) &&& (255 : Int32)) &&& ((255 : Int32) >>> (((2 : Int32) + (1 : Int32)) &&& 31))).toInt64.toInt = ((N / 64 : Nat) : Int) := by
    rw [e0, H, c_i2l, (by decide +kernel : ∀ m : Fin 32, ((own_b (192 + m.val) &&& (255 : Int32)) &&& ((255 : Int32) >>> (((2 : Int32) + (1 : Int32)) &&& 31))) = Int32.ofNat m.val) ⟨N / 64, by omega⟩]
    exact Int32.toInt_ofNat_of_lt (by simp only; omega)
  have v1 := own_ad 1 (by decide) (by decide) O (by decide) v0 (by omega) 1 (by decide)
  have a2 : ∀ v, f5_0 v (Int32.ofNat k.val) (2 : Int32) (2 : Int32) g = v := own_an (L := 2) 2 (by decide) (by decide)
  have a3 : ∀ v, f5_0 v (Int32.ofNat k.val) (2 : Int32) (3 : Int32) g = v := own_an (L := 2) 3 (by decide) (by decide)
  have a4 : ∀ v, f5_0 v (Int32.ofNat k.val) (2 : Int32) (4 : Int32) g = v := own_an (L := 2) 4 (by decide) (by decide)
  have a5 : ∀ v, f5_0 v (Int32.ofNat k.val) (2 : Int32) (5 : Int32) g = v := own_an (L := 2) 5 (by decide) (by decide)
  unfold f0_555d10
  refine (if_pos ?_).trans ?_
  · rw [a5, a4, a3, a2]; exact own_ceq hN _ (v1.trans (by omega))
  rfl
theorem law_150d10_3 {xx ss : Int32} {g : Nat → Int32} {N : Nat} {k : Fin 4} (hN : xx.toInt = N) (O : Out N k.val 3 ss g) : f0_150d10 xx (Int32.ofNat k.val) ss (3 : Int32) g = 1 := by
  have e0 := own_on0 k
  have lo : 2048 ≤ N := O.lo
  have hi : N < 65536 := O.hi
  have H : g k.val = own_b (224 + N / 4096) := O.H
  unfold f0_150d10
  refine (if_neg ?_).trans ?_
  · decide
  unfold f0_156d10
  refine (if_neg ?_).trans ?_
  · decide
  unfold f0_165d10
  unfold f0_169d10
  refine (if_neg ?_).trans ?_
  · decide
  unfold f0_177d10
  refine (if_neg ?_).trans ?_
  · decide
  unfold f0_187d10
  refine (if_neg ?_).trans ?_
  · decide
  unfold f0_199d10
  unfold f0_209d10
  refine (if_neg ?_).trans ?_
  · decide
  unfold f0_223d10
  unfold f0_231d10
  refine (if_neg ?_).trans ?_
  · exact own_clo hN _ 2048 (by decide) lo
  unfold f0_242d10
  refine (if_pos ?_).trans ?_
  · exact own_chi hN _ 65536 (by decide) hi
  unfold f0_253d10
  refine (if_neg ?_).trans ?_
  · exact own_unt 0 (by decide) O
  unfold f0_268d10
  refine (if_neg ?_).trans ?_
  · exact own_unt 1 (by decide) O
  unfold f0_283d10
  refine (if_neg ?_).trans ?_
  · exact own_unt 2 (by decide) O
  unfold f0_298d10
  refine (if_neg ?_).trans ?_
  · exact own_unt 3 (by decide) O
  unfold f0_313d10
  refine (if_neg ?_).trans ?_
  · exact own_unt 4 (by decide) O
  unfold f0_328d10
  refine (if_neg ?_).trans ?_
  · exact own_unt 5 (by decide) O
  unfold f0_343d10
  refine (if_neg ?_).trans ?_
  · exact own_unt 6 (by decide) O
  unfold f0_359d10
  refine (if_neg ?_).trans ?_
  · exact own_unt 7 (by decide) O
  unfold f0_375d10
  refine (if_neg ?_).trans ?_
  · exact own_unt 8 (by decide) O
  unfold f0_391d10
  unfold f0_396d10
  refine (if_neg ?_).trans ?_
  · decide
  unfold f0_405d10
  refine (if_neg ?_).trans ?_
  · decide
  unfold f0_427d10
  unfold f0_435d10
  refine (if_neg ?_).trans ?_
  · decide
  unfold f0_447d10
  unfold f0_456d10
  refine (if_pos ?_).trans ?_
  · rw [e0, H]; exact (by decide +kernel : ∀ m : Fin 16, (((own_b (224 + m.val) &&& (255 : Int32)) &&& (((255 : Int32) >>> (((3 : Int32) + (1 : Int32)) &&& 31)) ^^^ (-1 : Int32))) &&& (255 : Int32)) = (((65280 : Int32) >>> ((3 : Int32) &&& 31)) &&& (255 : Int32))) ⟨N / 4096, by omega⟩
  unfold f0_476d10
  refine (if_neg ?_).trans ?_
  · exact own_tail 1 (by decide) (by decide) O
  unfold f0_489d10
  refine (if_neg ?_).trans ?_
  · exact own_tail 2 (by decide) (by decide) O
  unfold f0_502d10
  refine (if_neg ?_).trans ?_
  · exact own_tail 3 (by decide) (by decide) O
  unfold f0_515d10
  refine (if_neg ?_).trans ?_
  · exact own_tail 4 (by decide) (by decide) O
  unfold f0_528d10
  refine (if_neg ?_).trans ?_
  · exact own_tail 5 (by decide) (by decide) O
  unfold f0_541d10
  unfold f0_546d10
  refine (if_neg ?_).trans ?_
  · decide
  have v0 : (((g (Int32.ofNat k.val).toNatClampNeg) &&& (255 : Int32)) &&& ((255 : Int32) >>> (((3 : Int32) + (1 : Int32)) &&& 31))).toInt64.toInt = ((N / 4096 : Nat) : Int) := by
    rw [e0, H, c_i2l, (by decide +kernel : ∀ m : Fin 16, ((own_b (224 + m.val) &&& (255 : Int32)) &&& ((255 : Int32) >>> (((3 : Int32) + (1 : Int32)) &&& 31))) = Int32.ofNat m.val) ⟨N / 4096, by omega⟩]
    exact Int32.toInt_ofNat_of_lt (by simp only; omega)
  have v1 := own_ad 1 (by decide) (by decide) O (by decide) v0 (by omega) 64 (by decide)
  have v2 := own_ad 2 (by decide) (by decide) O (by decide) v1 (by omega) 1 (by decide)
  have a3 : ∀ v, f5_0 v (Int32.ofNat k.val) (3 : Int32) (3 : Int32) g = v := own_an (L := 3) 3 (by decide) (by decide)
  have a4 : ∀ v, f5_0 v (Int32.ofNat k.val) (3 : Int32) (4 : Int32) g = v := own_an (L := 3) 4 (by decide) (by decide)
  have a5 : ∀ v, f5_0 v (Int32.ofNat k.val) (3 : Int32) (5 : Int32) g = v := own_an (L := 3) 5 (by decide) (by decide)
  unfold f0_555d10
  refine (if_pos ?_).trans ?_
  · rw [a5, a4, a3]; exact own_ceq hN _ (v2.trans (by omega))
  rfl
theorem law_150d10_4 {xx ss : Int32} {g : Nat → Int32} {N : Nat} {k : Fin 4} (hN : xx.toInt = N) (O : Out N k.val 4 ss g) : f0_150d10 xx (Int32.ofNat k.val) ss (4 : Int32) g = 1 := by
  have e0 := own_on0 k
  have lo : 65536 ≤ N := O.lo
  have hi : N < 2097152 := O.hi
  have H : g k.val = own_b (240 + N / 262144) := O.H
  unfold f0_150d10
  refine (if_neg ?_).trans ?_
  · decide
  unfold f0_156d10
  refine (if_neg ?_).trans ?_
  · decide
  unfold f0_165d10
  unfold f0_169d10
  refine (if_neg ?_).trans ?_
  · decide
  unfold f0_177d10
  refine (if_neg ?_).trans ?_
  · decide
  unfold f0_187d10
  refine (if_neg ?_).trans ?_
  · decide
  unfold f0_199d10
  unfold f0_209d10
  refine (if_neg ?_).trans ?_
  · decide
  unfold f0_223d10
  unfold f0_231d10
  refine (if_neg ?_).trans ?_
  · exact own_clo hN _ 65536 (by decide) lo
  unfold f0_242d10
  refine (if_pos ?_).trans ?_
  · exact own_chi hN _ 2097152 (by decide) hi
  unfold f0_253d10
  refine (if_neg ?_).trans ?_
  · exact own_unt 0 (by decide) O
  unfold f0_268d10
  refine (if_neg ?_).trans ?_
  · exact own_unt 1 (by decide) O
  unfold f0_283d10
  refine (if_neg ?_).trans ?_
  · exact own_unt 2 (by decide) O
  unfold f0_298d10
  refine (if_neg ?_).trans ?_
  · exact own_unt 3 (by decide) O
  unfold f0_313d10
  refine (if_neg ?_).trans ?_
  · exact own_unt 4 (by decide) O
  unfold f0_328d10
  refine (if_neg ?_).trans ?_
  · exact own_unt 5 (by decide) O
  unfold f0_343d10
  refine (if_neg ?_).trans ?_
  · exact own_unt 6 (by decide) O
  unfold f0_359d10
  refine (if_neg ?_).trans ?_
  · exact own_unt 7 (by decide) O
  unfold f0_375d10
  refine (if_neg ?_).trans ?_
  · exact own_unt 8 (by decide) O
  unfold f0_391d10
  unfold f0_396d10
  refine (if_neg ?_).trans ?_
  · decide
  unfold f0_405d10
  refine (if_neg ?_).trans ?_
  · decide
  unfold f0_427d10
  unfold f0_435d10
  refine (if_neg ?_).trans ?_
  · decide
  unfold f0_447d10
  unfold f0_456d10
  refine (if_pos ?_).trans ?_
  · rw [e0, H]; exact (by decide +kernel : ∀ m : Fin 8, (((own_b (240 + m.val) &&& (255 : Int32)) &&& (((255 : Int32) >>> (((4 : Int32) + (1 : Int32)) &&& 31)) ^^^ (-1 : Int32))) &&& (255 : Int32)) = (((65280 : Int32) >>> ((4 : Int32) &&& 31)) &&& (255 : Int32))) ⟨N / 262144, by omega⟩
  unfold f0_476d10
  refine (if_neg ?_).trans ?_
  · exact own_tail 1 (by decide) (by decide) O
  unfold f0_489d10
  refine (if_neg ?_).trans ?_
  · exact own_tail 2 (by decide) (by decide) O
  unfold f0_502d10
  refine (if_neg ?_).trans ?_
  · exact own_tail 3 (by decide) (by decide) O
  unfold f0_515d10
  refine (if_neg ?_).trans ?_
  · exact own_tail 4 (by decide) (by decide) O
  unfold f0_528d10
  refine (if_neg ?_).trans ?_
  · exact own_tail 5 (by decide) (by decide) O
  unfold f0_541d10
  unfold f0_546d10
  refine (if_neg ?_).trans ?_
  · decide
  have v0 : (((g (Int32.ofNat k.val).toNatClampNeg) &&& (255 : Int32)) &&& ((255 : Int32) >>> (((4 : Int32) + (1 : Int32)) &&& 31))).toInt64.toInt = ((N / 262144 : Nat) : Int) := by
    rw [e0, H, c_i2l, (by decide +kernel : ∀ m : Fin 8, ((own_b (240 + m.val) &&& (255 : Int32)) &&& ((255 : Int32) >>> (((4 : Int32) + (1 : Int32)) &&& 31))) = Int32.ofNat m.val) ⟨N / 262144, by omega⟩]
    exact Int32.toInt_ofNat_of_lt (by simp only; omega)
  have v1 := own_ad 1 (by decide) (by decide) O (by decide) v0 (by omega) 4096 (by decide)
  have v2 := own_ad 2 (by decide) (by decide) O (by decide) v1 (by omega) 64 (by decide)
  have v3 := own_ad 3 (by decide) (by decide) O (by decide) v2 (by omega) 1 (by decide)
  have a4 : ∀ v, f5_0 v (Int32.ofNat k.val) (4 : Int32) (4 : Int32) g = v := own_an (L := 4) 4 (by decide) (by decide)
  have a5 : ∀ v, f5_0 v (Int32.ofNat k.val) (4 : Int32) (5 : Int32) g = v := own_an (L := 4) 5 (by decide) (by decide)
  unfold f0_555d10
  refine (if_pos ?_).trans ?_
  · rw [a5, a4]; exact own_ceq hN _ (v3.trans (by omega))
  rfl
theorem law_32d10 (xx : Int32) : f0_32d10 xx = 1 := by
  unfold f0_32d10
  by_cases h : xx < (55296 : Int32)
  · rw [if_pos h]; rfl
  · rw [if_neg h]; unfold f0_39d10
    by_cases h2 : (57343 : Int32) < xx
    · rw [if_pos h2]; rfl
    · rw [if_neg h2]; rfl
theorem law_150d10 {xx oo ss le : Int32} {g : Nat → Int32} (h : OutX xx oo ss le g) (hu : ¬ 1114111 < xx) : f0_150d10 xx oo ss le g = 1 := by
  obtain ⟨N, k, L, hN, rfl, h1, h6, rfl, O⟩ := h
  have hu' : N < 1114112 := by
    have q : (1114111 : Int32).toInt = 1114111 := by decide
    rw [Int32.lt_iff_toInt_lt, hN, q] at hu; omega
  have hl := O.lo
  match L, h1, h6, O, hl with
  | 1, _, _, O, hl => exact law_150d10_1 hN O
  | 2, _, _, O, hl => exact law_150d10_2 hN O
  | 3, _, _, O, hl => exact law_150d10_3 hN O
  | 4, _, _, O, hl => exact law_150d10_4 hN O
  | 5, _, _, O, hl => exact absurd (show 2097152 ≤ N from hl) (by omega)
  | 6, _, _, O, hl => exact absurd (show 67108864 ≤ N from hl) (by omega)
theorem law_eq (p1 : Int32) : f0_0 p1 = 1 := by
  unfold f0_0
  by_cases h : (p1 &&& (1 : Int32)) = (0 : Int32)
  · rw [if_pos h]; rfl
  · rw [if_neg h]; rfl
set_option maxRecDepth 65536 in
set_option maxHeartbeats 40000000 in
theorem rm0 (l : Launch) (Z : State) (a0 : Array Value) (hw : ∀ d ∈ tables_1, d.before a0 Z = true) (ws : List Jvm.Cond) (p0 : Int32) (p1 : Int32) (p2 : Int32) (w_LEGACY : Addr) (w_UNICODE : Addr) (h0 : Heap) (n0 : Nat) (Z0 : n0 ≤ h0.size) (S_LEGACY : Sta Z h0 "com/example/ucs_to_octets/ucstooctets/CodeSpace" "LEGACY" "Lcom/example/ucs_to_octets/ucstooctets/CodeSpace;" (.ref w_LEGACY)) (S_UNICODE : Sta Z h0 "com/example/ucs_to_octets/ucstooctets/CodeSpace" "UNICODE" "Lcom/example/ucs_to_octets/ucstooctets/CodeSpace;" (.ref w_UNICODE)) (E_LEGACY : Exa Z h0 w_LEGACY "com/example/ucs_to_octets/ucstooctets/CodeSpace") (E_UNICODE : Exa Z h0 w_UNICODE "com/example/ucs_to_octets/ucstooctets/CodeSpace") (F_LEGACY : Fld Z h0 w_LEGACY "com/example/ucs_to_octets/ucstooctets/CodeSpace" "highest" "I" (.int (2147483647 : Int32))) (F_UNICODE : Fld Z h0 w_UNICODE "com/example/ucs_to_octets/ucstooctets/CodeSpace" "highest" "I" (.int (1114111 : Int32))) :
    MetFree l x (head1 (Jvm.Cond.code x code maxLocals ret :: ws) room_1) (fun a U => a = #[(.int p0), (.int p1), (.int p2)] ∧ Z.Warmed39 U.vm ∧ U.heap = h0) (fun _ _ _ _ _ => True) (fun _ U o U' => ∃ v L, o = .returned v ∧ (LawQ (some (.int (f0_0 p1))) n0) v U'.heap L ∧ FrameEnd U o U' L room_1.cells room_1.slots) := by
  refine MetFree.of_bodySF (plainFor_of_name pn_0) hisR ?_
  intro p e s m args below meth c s₁ Bd hml0 hP hK
  obtain ⟨rfl, hZ, hh⟩ := hP
  have hx := Bd.exec
  have hby := Bd.bytes
  have hlk : meth.locks = false := BodyLoose.notSynchronized Bd
  have hml : c.maxLocals = 21 := hml0
  have hown : s.vm.findClass "com/example/ucs_to_octets/ucstooctets/Utf8EncodePinLaw" = some m.cls := findClass_of_methodNamed Bd.named
  have hnm := (name_of_methodNamed Bd.named Bd.method).1
  have X0 : Stand p l e room_1 s m #[(.int p0), (.int p1), (.int p2)] below meth c s₁ ([] : List Loc) 0 0 := Stand.of_body Bd
  have e0 : s₁.heap = h0 := by rw [← hh, Bd.state]; rfl
  show Go p e below s room_1.cells room_1.slots (LawQ (some (.int (f0_0 p1))) n0) s₁ (entryFrame m #[(.int p0), (.int p1), (.int p2)] maxLocals)
  rw [ef_0 m p0 p1 p2]
  have N0 := Fr.nil n0
  refine Go.step (g' := (mkF m 1 #[.val (.int p0), .val (.int p1), .val (.int p2), .unset, .unset, .unset, .unset, .unset, .unset, .unset, .unset, .unset, .unset, .unset, .unset, .unset, .unset, .unset, .unset, .unset, .unset] [(.int p1)])) (fun _ k => XS.iloadN X0.here hx rfl (hb hby at_0) rfl  k) ?_
  refine Go.step (g' := (mkF m 2 #[.val (.int p0), .val (.int p1), .val (.int p2), .unset, .unset, .unset, .unset, .unset, .unset, .unset, .unset, .unset, .unset, .unset, .unset, .unset, .unset, .unset, .unset, .unset, .unset] [(.int (1 : Int32)), (.int p1)])) (fun _ k => XS.iconst X0.here hx rfl (hb hby at_1) k) ?_
  refine Go.step (g' := (mkF m 3 #[.val (.int p0), .val (.int p1), .val (.int p2), .unset, .unset, .unset, .unset, .unset, .unset, .unset, .unset, .unset, .unset, .unset, .unset, .unset, .unset, .unset, .unset, .unset, .unset] [(.int (p1 &&& (1 : Int32)))])) (fun _ k => XS.iand X0.here hx rfl (hb hby at_2) rfl k) ?_
  by_cases hc3 : (p1 &&& (1 : Int32)) = (0 : Int32)
  · rw [show (f0_0 p1) = f0_10 from if_pos hc3]
    refine Go.step (g' := (mkF m 10 #[.val (.int p0), .val (.int p1), .val (.int p2), .unset, .unset, .unset, .unset, .unset, .unset, .unset, .unset, .unset, .unset, .unset, .unset, .unset, .unset, .unset, .unset, .unset, .unset] [])) (fun _ k => XS.ifYes X0.here hx rfl (pc0 := 3) (pc' := 10) rfl (hb hby at_3) rfl ((if0 _ _).trans (teq hc3).1) (by decide) (by decide) k) ?_
    refine Go.step (g' := (mkF m 11 #[.val (.int p0), .val (.int p1), .val (.int p2), .unset, .unset, .unset, .unset, .unset, .unset, .unset, .unset, .unset, .unset, .unset, .unset, .unset, .unset, .unset, .unset, .unset, .unset] [(.int (0 : Int32))])) (fun _ k => XS.iconst X0.here hx rfl (hb hby at_10) k) ?_
    rw [show f0_10 = f0_11d10 from rfl]
    refine Go.step (g' := (mkF m 12 #[.val (.int p0), .val (.int p1), .val (.int p2), .val (.int (0 : Int32)), .unset, .unset, .unset, .unset, .unset, .unset, .unset, .unset, .unset, .unset, .unset, .unset, .unset, .unset, .unset, .unset, .unset] [])) (fun _ k => XS.istoreN X0.here hx rfl (hb hby at_11) rfl (l' := #[.val (.int p0), .val (.int p1), .val (.int p2), .val (.int (0 : Int32)), .unset, .unset, .unset, .unset, .unset, .unset, .unset, .unset, .unset, .unset, .unset, .unset, .unset, .unset, .unset, .unset, .unset]) rfl k) ?_
    refine Go.step (g' := (mkF m 13 #[.val (.int p0), .val (.int p1), .val (.int p2), .val (.int (0 : Int32)), .unset, .unset, .unset, .unset, .unset, .unset, .unset, .unset, .unset, .unset, .unset, .unset, .unset, .unset, .unset, .unset, .unset] [(.int (0 : Int32))])) (fun _ k => XS.iloadN X0.here hx rfl (hb hby at_12) rfl  k) ?_
    refine Go.step (g' := (mkF m 23 #[.val (.int p0), .val (.int p1), .val (.int p2), .val (.int (0 : Int32)), .unset, .unset, .unset, .unset, .unset, .unset, .unset, .unset, .unset, .unset, .unset, .unset, .unset, .unset, .unset, .unset, .unset] [])) (fun _ k => XS.ifYes X0.here hx rfl (pc0 := 13) (pc' := 23) rfl (hb hby at_13) rfl ((if0 _ _).trans (teq (by decide : (0 : Int32) = (0 : Int32))).1) (by decide) (by decide) k) ?_
    rw [show f0_11d10 = f0_23d10 from rfl]
    refine Go.step (g' := (mkF m 24 #[.val (.int p0), .val (.int p1), .val (.int p2), .val (.int (0 : Int32)), .unset, .unset, .unset, .unset, .unset, .unset, .unset, .unset, .unset, .unset, .unset, .unset, .unset, .unset, .unset, .unset, .unset] [(.int p0)])) (fun _ k => XS.iloadN X0.here hx rfl (hb hby at_23) rfl  k) ?_
    refine Go.step (g' := (mkF m 26 #[.val (.int p0), .val (.int p1), .val (.int p2), .val (.int (0 : Int32)), .unset, .unset, .unset, .unset, .unset, .unset, .unset, .unset, .unset, .unset, .unset, .unset, .unset, .unset, .unset, .unset, .unset] [(.int (2147483647 : Int32)), (.int p0)])) (fun _ k => X0.ldcI hx hown (mvT hZ (hw _ (List.mem_of_getElem? (i := 0) rfl))) rfl (hb hby at_24) k) ?_
    refine Go.step (g' := (mkF m 27 #[.val (.int p0), .val (.int p1), .val (.int p2), .val (.int (0 : Int32)), .unset, .unset, .unset, .unset, .unset, .unset, .unset, .unset, .unset, .unset, .unset, .unset, .unset, .unset, .unset, .unset, .unset] [(.int (p0 &&& (2147483647 : Int32)))])) (fun _ k => XS.iand X0.here hx rfl (hb hby at_26) rfl k) ?_
    refine Go.step (g' := (mkF m 29 #[.val (.int p0), .val (.int p1), .val (.int p2), .val (.int (0 : Int32)), .unset, .unset, .unset, .unset, .unset, .unset, .unset, .unset, .unset, .unset, .unset, .unset, .unset, .unset, .unset, .unset, .unset] [(.int (1114112 : Int32)), (.int (p0 &&& (2147483647 : Int32)))])) (fun _ k => X0.ldcI hx hown (mvT hZ (hw _ (List.mem_of_getElem? (i := 29) rfl))) rfl (hb hby at_27) k) ?_
    refine Go.step (g' := (mkF m 30 #[.val (.int p0), .val (.int p1), .val (.int p2), .val (.int (0 : Int32)), .unset, .unset, .unset, .unset, .unset, .unset, .unset, .unset, .unset, .unset, .unset, .unset, .unset, .unset, .unset, .unset, .unset] [(.int ((p0 &&& (2147483647 : Int32)) % (1114112 : Int32)))])) (fun _ k => Jvm.RoadKit.iremM X0 hx rfl (hb hby at_29) rfl (by decide) k) ?_
    rw [show f0_23d10 = f0_30d10 from rfl]
    refine Go.step (g' := (mkF m 32 #[.val (.int p0), .val (.int p1), .val (.int p2), .val (.int (0 : Int32)), .val (.int ((p0 &&& (2147483647 : Int32)) % (1114112 : Int32))), .unset, .unset, .unset, .unset, .unset, .unset, .unset, .unset, .unset, .unset, .unset, .unset, .unset, .unset, .unset, .unset] [])) (fun _ k => XS.istore X0.here hx rfl (hb hby at_30) rfl (l' := #[.val (.int p0), .val (.int p1), .val (.int p2), .val (.int (0 : Int32)), .val (.int ((p0 &&& (2147483647 : Int32)) % (1114112 : Int32))), .unset, .unset, .unset, .unset, .unset, .unset, .unset, .unset, .unset, .unset, .unset, .unset, .unset, .unset, .unset, .unset]) rfl k) ?_
    generalize hxx : ((p0 &&& (2147483647 : Int32)) % (1114112 : Int32)) = xx
    have hx0 : ¬ xx < 0 := by rw [← hxx]; simp only [own_x0, own_x1, not_false_eq_true]
    obtain ⟨N, hN⟩ := own_N hx0
    rw [show f0_30d10 = (f0_32d10 xx) from (law_32d10 _).symm]
    refine Go.step (g' := (mkF m 34 #[.val (.int p0), .val (.int p1), .val (.int p2), .val (.int (0 : Int32)), .val (.int xx), .unset, .unset, .unset, .unset, .unset, .unset, .unset, .unset, .unset, .unset, .unset, .unset, .unset, .unset, .unset, .unset] [(.int xx)])) (fun _ k => XS.iload X0.here hx rfl (hb hby at_32) rfl  k) ?_
    refine Go.step (g' := (mkF m 36 #[.val (.int p0), .val (.int p1), .val (.int p2), .val (.int (0 : Int32)), .val (.int xx), .unset, .unset, .unset, .unset, .unset, .unset, .unset, .unset, .unset, .unset, .unset, .unset, .unset, .unset, .unset, .unset] [(.int (55296 : Int32)), (.int xx)])) (fun _ k => X0.ldcI hx hown (mvT hZ (hw _ (List.mem_of_getElem? (i := 1) rfl))) rfl (hb hby at_34) k) ?_
    have t48d10 : ∀ (hsur : xx < 55296 ∨ 57343 < xx), Go p e below s room_1.cells room_1.slots (LawQ (some (.int f0_48d10)) n0) s₁ (mkF m 48 #[.val (.int p0), .val (.int p1), .val (.int p2), .val (.int (0 : Int32)), .val (.int xx), .unset, .unset, .unset, .unset, .unset, .unset, .unset, .unset, .unset, .unset, .unset, .unset, .unset, .unset, .unset, .unset] []) := by
      intro hsur
      refine Go.step (g' := (mkF m 49 #[.val (.int p0), .val (.int p1), .val (.int p2), .val (.int (0 : Int32)), .val (.int xx), .unset, .unset, .unset, .unset, .unset, .unset, .unset, .unset, .unset, .unset, .unset, .unset, .unset, .unset, .unset, .unset] [(.int p2)])) (fun _ k => XS.iloadN X0.here hx rfl (hb hby at_48) rfl  k) ?_
      refine Go.step (g' := (mkF m 50 #[.val (.int p0), .val (.int p1), .val (.int p2), .val (.int (0 : Int32)), .val (.int xx), .unset, .unset, .unset, .unset, .unset, .unset, .unset, .unset, .unset, .unset, .unset, .unset, .unset, .unset, .unset, .unset] [(.int (3 : Int32)), (.int p2)])) (fun _ k => XS.iconst X0.here hx rfl (hb hby at_49) k) ?_
      refine Go.step (g' := (mkF m 51 #[.val (.int p0), .val (.int p1), .val (.int p2), .val (.int (0 : Int32)), .val (.int xx), .unset, .unset, .unset, .unset, .unset, .unset, .unset, .unset, .unset, .unset, .unset, .unset, .unset, .unset, .unset, .unset] [(.int (p2 &&& (3 : Int32)))])) (fun _ k => XS.iand X0.here hx rfl (hb hby at_50) rfl k) ?_
      refine Go.step (g' := (mkF m 53 #[.val (.int p0), .val (.int p1), .val (.int p2), .val (.int (0 : Int32)), .val (.int xx), .val (.int (p2 &&& (3 : Int32))), .unset, .unset, .unset, .unset, .unset, .unset, .unset, .unset, .unset, .unset, .unset, .unset, .unset, .unset, .unset] [])) (fun _ k => XS.istore X0.here hx rfl (hb hby at_51) rfl (l' := #[.val (.int p0), .val (.int p1), .val (.int p2), .val (.int (0 : Int32)), .val (.int xx), .val (.int (p2 &&& (3 : Int32))), .unset, .unset, .unset, .unset, .unset, .unset, .unset, .unset, .unset, .unset, .unset, .unset, .unset, .unset, .unset]) rfl k) ?_
      generalize hoo : (p2 &&& (3 : Int32)) = oo
      have ho : ∃ k : Fin 4, oo = Int32.ofNat k.val := hoo ▸ own_o _
      refine Go.step (g' := (mkF m 54 #[.val (.int p0), .val (.int p1), .val (.int p2), .val (.int (0 : Int32)), .val (.int xx), .val (.int oo), .unset, .unset, .unset, .unset, .unset, .unset, .unset, .unset, .unset, .unset, .unset, .unset, .unset, .unset, .unset] [(.int p1)])) (fun _ k => XS.iloadN X0.here hx rfl (hb hby at_53) rfl  k) ?_
      refine Go.step (g' := (mkF m 55 #[.val (.int p0), .val (.int p1), .val (.int p2), .val (.int (0 : Int32)), .val (.int xx), .val (.int oo), .unset, .unset, .unset, .unset, .unset, .unset, .unset, .unset, .unset, .unset, .unset, .unset, .unset, .unset, .unset] [(.int (1 : Int32)), (.int p1)])) (fun _ k => XS.iconst X0.here hx rfl (hb hby at_54) k) ?_
      refine Go.step (g' := (mkF m 56 #[.val (.int p0), .val (.int p1), .val (.int p2), .val (.int (0 : Int32)), .val (.int xx), .val (.int oo), .unset, .unset, .unset, .unset, .unset, .unset, .unset, .unset, .unset, .unset, .unset, .unset, .unset, .unset, .unset] [(.int (p1 >>> ((1 : Int32) &&& 31)))])) (fun _ k => XS.ishr X0.here hx rfl (hb hby at_55) rfl k) ?_
      refine Go.step (g' := (mkF m 57 #[.val (.int p0), .val (.int p1), .val (.int p2), .val (.int (0 : Int32)), .val (.int xx), .val (.int oo), .unset, .unset, .unset, .unset, .unset, .unset, .unset, .unset, .unset, .unset, .unset, .unset, .unset, .unset, .unset] [(.int ((p1 >>> ((1 : Int32) &&& 31)).toInt8.toInt32))])) (fun _ k => XS.i2b X0.here hx rfl (hb hby at_56) rfl k) ?_
      refine Go.step (g' := (mkF m 59 #[.val (.int p0), .val (.int p1), .val (.int p2), .val (.int (0 : Int32)), .val (.int xx), .val (.int oo), .val (.int ((p1 >>> ((1 : Int32) &&& 31)).toInt8.toInt32)), .unset, .unset, .unset, .unset, .unset, .unset, .unset, .unset, .unset, .unset, .unset, .unset, .unset, .unset] [])) (fun _ k => XS.istore X0.here hx rfl (hb hby at_57) rfl (l' := #[.val (.int p0), .val (.int p1), .val (.int p2), .val (.int (0 : Int32)), .val (.int xx), .val (.int oo), .val (.int ((p1 >>> ((1 : Int32) &&& 31)).toInt8.toInt32)), .unset, .unset, .unset, .unset, .unset, .unset, .unset, .unset, .unset, .unset, .unset, .unset, .unset, .unset]) rfl k) ?_
      generalize hss : ((p1 >>> ((1 : Int32) &&& 31)).toInt8.toInt32) = ss
      refine Go.step (g' := (mkF m 61 #[.val (.int p0), .val (.int p1), .val (.int p2), .val (.int (0 : Int32)), .val (.int xx), .val (.int oo), .val (.int ss), .unset, .unset, .unset, .unset, .unset, .unset, .unset, .unset, .unset, .unset, .unset, .unset, .unset, .unset] [(.int (9 : Int32))])) (fun _ k => XS.bipush X0.here hx rfl (hb hby at_59) k) ?_
      obtain ⟨T54, h54, k54, X54, e54, E54, A54, st54⟩ := newP X0 hx hZ (hw _ (List.mem_of_getElem? (i := 2) rfl)) e0 (g := (mkF m 61 #[.val (.int p0), .val (.int p1), .val (.int p2), .val (.int (0 : Int32)), .val (.int xx), .val (.int oo), .val (.int ss), .unset, .unset, .unset, .unset, .unset, .unset, .unset, .unset, .unset, .unset, .unset, .unset, .unset, .unset] [(.int (9 : Int32))])) rfl (hb hby at_61) rfl (by decide) (cap := 9) (by decide) (by decide) (by decide) (by decide)
      obtain ⟨b54, g54⟩ : ∃ z, z = h0.size := ⟨_, rfl⟩
      rw [← g54] at A54 st54
      have ne_w_LEGACY_b54 : w_LEGACY ≠ b54 := Nat.ne_of_lt (Nat.lt_of_lt_of_le F_LEGACY.lt (Nat.le_of_eq g54.symm))
      have ne_w_UNICODE_b54 : w_UNICODE ≠ b54 := Nat.ne_of_lt (Nat.lt_of_lt_of_le F_UNICODE.lt (Nat.le_of_eq g54.symm))
      have g_b54 : n0 ≤ b54 := Nat.le_trans Z0 (Nat.le_of_eq g54.symm)
      have sz_b54 : h0.size ≤ b54 := Nat.le_trans (Keep.refl h0 []).1 (Nat.le_of_eq g54.symm)
      have V54 : IA Z h54 b54 .byte 9 (fun k => .int ((fun _ => (0 : Int32)) k)) := IA.of_new A54 (by decide)
      refine Go.step (g' := (mkF m 63 #[.val (.int p0), .val (.int p1), .val (.int p2), .val (.int (0 : Int32)), .val (.int xx), .val (.int oo), .val (.int ss), .unset, .unset, .unset, .unset, .unset, .unset, .unset, .unset, .unset, .unset, .unset, .unset, .unset, .unset] [(.ref b54)])) st54 ?_
      refine Go.step (g' := (mkF m 65 #[.val (.int p0), .val (.int p1), .val (.int p2), .val (.int (0 : Int32)), .val (.int xx), .val (.int oo), .val (.int ss), .val (.ref b54), .unset, .unset, .unset, .unset, .unset, .unset, .unset, .unset, .unset, .unset, .unset, .unset, .unset] [])) (fun _ k => XS.astore X54.here hx rfl (hb hby at_63) rfl rfl (l' := #[.val (.int p0), .val (.int p1), .val (.int p2), .val (.int (0 : Int32)), .val (.int xx), .val (.int oo), .val (.int ss), .val (.ref b54), .unset, .unset, .unset, .unset, .unset, .unset, .unset, .unset, .unset, .unset, .unset, .unset, .unset]) rfl k) ?_
      refine Go.step (g' := (mkF m 67 #[.val (.int p0), .val (.int p1), .val (.int p2), .val (.int (0 : Int32)), .val (.int xx), .val (.int oo), .val (.int ss), .val (.ref b54), .unset, .unset, .unset, .unset, .unset, .unset, .unset, .unset, .unset, .unset, .unset, .unset, .unset] [(.ref b54)])) (fun _ k => XS.aload X54.here hx rfl (hb hby at_65) rfl rfl  k) ?_
      refine Go.step (g' := (mkF m 68 #[.val (.int p0), .val (.int p1), .val (.int p2), .val (.int (0 : Int32)), .val (.int xx), .val (.int oo), .val (.int ss), .val (.ref b54), .unset, .unset, .unset, .unset, .unset, .unset, .unset, .unset, .unset, .unset, .unset, .unset, .unset] [(.int (0 : Int32)), (.ref b54)])) (fun _ k => XS.iconst X54.here hx rfl (hb hby at_67) k) ?_
      refine Go.step (g' := (mkF m 70 #[.val (.int p0), .val (.int p1), .val (.int p2), .val (.int (0 : Int32)), .val (.int xx), .val (.int oo), .val (.int ss), .val (.ref b54), .unset, .unset, .unset, .unset, .unset, .unset, .unset, .unset, .unset, .unset, .unset, .unset, .unset] [(.int ss), (.int (0 : Int32)), (.ref b54)])) (fun _ k => XS.iload X54.here hx rfl (hb hby at_68) rfl  k) ?_
      obtain ⟨T55, h55, lc55, X55, e55, W55, N55, V55, st55⟩ := putAB X54 hx hZ e54 V54 (j := (0 : Int32)) (by decide) N0 g_b54 (gf := (mkF m 70 #[.val (.int p0), .val (.int p1), .val (.int p2), .val (.int (0 : Int32)), .val (.int xx), .val (.int oo), .val (.int ss), .val (.ref b54), .unset, .unset, .unset, .unset, .unset, .unset, .unset, .unset, .unset, .unset, .unset, .unset, .unset] [(.int ss), (.int (0 : Int32)), (.ref b54)])) rfl rfl (hb hby at_70)
      refine Go.step (g' := (mkF m 71 #[.val (.int p0), .val (.int p1), .val (.int p2), .val (.int (0 : Int32)), .val (.int xx), .val (.int oo), .val (.int ss), .val (.ref b54), .unset, .unset, .unset, .unset, .unset, .unset, .unset, .unset, .unset, .unset, .unset, .unset, .unset] [])) st55 ?_
      refine Go.step (g' := (mkF m 73 #[.val (.int p0), .val (.int p1), .val (.int p2), .val (.int (0 : Int32)), .val (.int xx), .val (.int oo), .val (.int ss), .val (.ref b54), .unset, .unset, .unset, .unset, .unset, .unset, .unset, .unset, .unset, .unset, .unset, .unset, .unset] [(.ref b54)])) (fun _ k => XS.aload X55.here hx rfl (hb hby at_71) rfl rfl  k) ?_
      refine Go.step (g' := (mkF m 74 #[.val (.int p0), .val (.int p1), .val (.int p2), .val (.int (0 : Int32)), .val (.int xx), .val (.int oo), .val (.int ss), .val (.ref b54), .unset, .unset, .unset, .unset, .unset, .unset, .unset, .unset, .unset, .unset, .unset, .unset, .unset] [(.int (1 : Int32)), (.ref b54)])) (fun _ k => XS.iconst X55.here hx rfl (hb hby at_73) k) ?_
      refine Go.step (g' := (mkF m 76 #[.val (.int p0), .val (.int p1), .val (.int p2), .val (.int (0 : Int32)), .val (.int xx), .val (.int oo), .val (.int ss), .val (.ref b54), .unset, .unset, .unset, .unset, .unset, .unset, .unset, .unset, .unset, .unset, .unset, .unset, .unset] [(.int ss), (.int (1 : Int32)), (.ref b54)])) (fun _ k => XS.iload X55.here hx rfl (hb hby at_74) rfl  k) ?_
      obtain ⟨T56, h56, lc56, X56, e56, W56, N56, V56, st56⟩ := putAB X55 hx hZ e55 V55 (j := (1 : Int32)) (by decide) N55 g_b54 (gf := (mkF m 76 #[.val (.int p0), .val (.int p1), .val (.int p2), .val (.int (0 : Int32)), .val (.int xx), .val (.int oo), .val (.int ss), .val (.ref b54), .unset, .unset, .unset, .unset, .unset, .unset, .unset, .unset, .unset, .unset, .unset, .unset, .unset] [(.int ss), (.int (1 : Int32)), (.ref b54)])) rfl rfl (hb hby at_76)
      refine Go.step (g' := (mkF m 77 #[.val (.int p0), .val (.int p1), .val (.int p2), .val (.int (0 : Int32)), .val (.int xx), .val (.int oo), .val (.int ss), .val (.ref b54), .unset, .unset, .unset, .unset, .unset, .unset, .unset, .unset, .unset, .unset, .unset, .unset, .unset] [])) st56 ?_
      have Q57 := (((F_LEGACY.ext E54).other W55 (Or.inl ne_w_LEGACY_b54)).other W56 (Or.inl ne_w_LEGACY_b54))
      have Q58 := (((F_UNICODE.ext E54).other W55 (Or.inl ne_w_UNICODE_b54)).other W56 (Or.inl ne_w_UNICODE_b54))
      have Q59 := (Nat.le_trans (Nat.le_trans (Nat.le_trans Z0 E54.1) (Keep.of_wr W55).1) (Keep.of_wr W56).1)
      have Q60 := ((((Keep.refl h0 []).ext E54).wr W55 (Or.inr sz_b54)).wr W56 (Or.inr sz_b54))
      refine Go.step (g' := (mkF m 79 #[.val (.int p0), .val (.int p1), .val (.int p2), .val (.int (0 : Int32)), .val (.int xx), .val (.int oo), .val (.int ss), .val (.ref b54), .unset, .unset, .unset, .unset, .unset, .unset, .unset, .unset, .unset, .unset, .unset, .unset, .unset] [(.ref b54)])) (fun _ k => XS.aload X56.here hx rfl (hb hby at_77) rfl rfl  k) ?_
      refine Go.step (g' := (mkF m 80 #[.val (.int p0), .val (.int p1), .val (.int p2), .val (.int (0 : Int32)), .val (.int xx), .val (.int oo), .val (.int ss), .val (.ref b54), .unset, .unset, .unset, .unset, .unset, .unset, .unset, .unset, .unset, .unset, .unset, .unset, .unset] [(.int (2 : Int32)), (.ref b54)])) (fun _ k => XS.iconst X56.here hx rfl (hb hby at_79) k) ?_
      refine Go.step (g' := (mkF m 82 #[.val (.int p0), .val (.int p1), .val (.int p2), .val (.int (0 : Int32)), .val (.int xx), .val (.int oo), .val (.int ss), .val (.ref b54), .unset, .unset, .unset, .unset, .unset, .unset, .unset, .unset, .unset, .unset, .unset, .unset, .unset] [(.int ss), (.int (2 : Int32)), (.ref b54)])) (fun _ k => XS.iload X56.here hx rfl (hb hby at_80) rfl  k) ?_
      obtain ⟨T61, h61, lc61, X61, e61, W61, N61, V61, st61⟩ := putAB X56 hx hZ e56 V56 (j := (2 : Int32)) (by decide) N56 g_b54 (gf := (mkF m 82 #[.val (.int p0), .val (.int p1), .val (.int p2), .val (.int (0 : Int32)), .val (.int xx), .val (.int oo), .val (.int ss), .val (.ref b54), .unset, .unset, .unset, .unset, .unset, .unset, .unset, .unset, .unset, .unset, .unset, .unset, .unset] [(.int ss), (.int (2 : Int32)), (.ref b54)])) rfl rfl (hb hby at_82)
      refine Go.step (g' := (mkF m 83 #[.val (.int p0), .val (.int p1), .val (.int p2), .val (.int (0 : Int32)), .val (.int xx), .val (.int oo), .val (.int ss), .val (.ref b54), .unset, .unset, .unset, .unset, .unset, .unset, .unset, .unset, .unset, .unset, .unset, .unset, .unset] [])) st61 ?_
      refine Go.step (g' := (mkF m 85 #[.val (.int p0), .val (.int p1), .val (.int p2), .val (.int (0 : Int32)), .val (.int xx), .val (.int oo), .val (.int ss), .val (.ref b54), .unset, .unset, .unset, .unset, .unset, .unset, .unset, .unset, .unset, .unset, .unset, .unset, .unset] [(.ref b54)])) (fun _ k => XS.aload X61.here hx rfl (hb hby at_83) rfl rfl  k) ?_
      refine Go.step (g' := (mkF m 86 #[.val (.int p0), .val (.int p1), .val (.int p2), .val (.int (0 : Int32)), .val (.int xx), .val (.int oo), .val (.int ss), .val (.ref b54), .unset, .unset, .unset, .unset, .unset, .unset, .unset, .unset, .unset, .unset, .unset, .unset, .unset] [(.int (3 : Int32)), (.ref b54)])) (fun _ k => XS.iconst X61.here hx rfl (hb hby at_85) k) ?_
      refine Go.step (g' := (mkF m 88 #[.val (.int p0), .val (.int p1), .val (.int p2), .val (.int (0 : Int32)), .val (.int xx), .val (.int oo), .val (.int ss), .val (.ref b54), .unset, .unset, .unset, .unset, .unset, .unset, .unset, .unset, .unset, .unset, .unset, .unset, .unset] [(.int ss), (.int (3 : Int32)), (.ref b54)])) (fun _ k => XS.iload X61.here hx rfl (hb hby at_86) rfl  k) ?_
      obtain ⟨T62, h62, lc62, X62, e62, W62, N62, V62, st62⟩ := putAB X61 hx hZ e61 V61 (j := (3 : Int32)) (by decide) N61 g_b54 (gf := (mkF m 88 #[.val (.int p0), .val (.int p1), .val (.int p2), .val (.int (0 : Int32)), .val (.int xx), .val (.int oo), .val (.int ss), .val (.ref b54), .unset, .unset, .unset, .unset, .unset, .unset, .unset, .unset, .unset, .unset, .unset, .unset, .unset] [(.int ss), (.int (3 : Int32)), (.ref b54)])) rfl rfl (hb hby at_88)
      refine Go.step (g' := (mkF m 89 #[.val (.int p0), .val (.int p1), .val (.int p2), .val (.int (0 : Int32)), .val (.int xx), .val (.int oo), .val (.int ss), .val (.ref b54), .unset, .unset, .unset, .unset, .unset, .unset, .unset, .unset, .unset, .unset, .unset, .unset, .unset] [])) st62 ?_
      have Q63 := ((Q57.other W61 (Or.inl ne_w_LEGACY_b54)).other W62 (Or.inl ne_w_LEGACY_b54))
      have Q64 := ((Q58.other W61 (Or.inl ne_w_UNICODE_b54)).other W62 (Or.inl ne_w_UNICODE_b54))
      have Q65 := (Nat.le_trans (Nat.le_trans Q59 (Keep.of_wr W61).1) (Keep.of_wr W62).1)
      refine Go.step (g' := (mkF m 91 #[.val (.int p0), .val (.int p1), .val (.int p2), .val (.int (0 : Int32)), .val (.int xx), .val (.int oo), .val (.int ss), .val (.ref b54), .unset, .unset, .unset, .unset, .unset, .unset, .unset, .unset, .unset, .unset, .unset, .unset, .unset] [(.ref b54)])) (fun _ k => XS.aload X62.here hx rfl (hb hby at_89) rfl rfl  k) ?_
      refine Go.step (g' := (mkF m 92 #[.val (.int p0), .val (.int p1), .val (.int p2), .val (.int (0 : Int32)), .val (.int xx), .val (.int oo), .val (.int ss), .val (.ref b54), .unset, .unset, .unset, .unset, .unset, .unset, .unset, .unset, .unset, .unset, .unset, .unset, .unset] [(.int (4 : Int32)), (.ref b54)])) (fun _ k => XS.iconst X62.here hx rfl (hb hby at_91) k) ?_
      refine Go.step (g' := (mkF m 94 #[.val (.int p0), .val (.int p1), .val (.int p2), .val (.int (0 : Int32)), .val (.int xx), .val (.int oo), .val (.int ss), .val (.ref b54), .unset, .unset, .unset, .unset, .unset, .unset, .unset, .unset, .unset, .unset, .unset, .unset, .unset] [(.int ss), (.int (4 : Int32)), (.ref b54)])) (fun _ k => XS.iload X62.here hx rfl (hb hby at_92) rfl  k) ?_
      obtain ⟨T66, h66, lc66, X66, e66, W66, N66, V66, st66⟩ := putAB X62 hx hZ e62 V62 (j := (4 : Int32)) (by decide) N62 g_b54 (gf := (mkF m 94 #[.val (.int p0), .val (.int p1), .val (.int p2), .val (.int (0 : Int32)), .val (.int xx), .val (.int oo), .val (.int ss), .val (.ref b54), .unset, .unset, .unset, .unset, .unset, .unset, .unset, .unset, .unset, .unset, .unset, .unset, .unset] [(.int ss), (.int (4 : Int32)), (.ref b54)])) rfl rfl (hb hby at_94)
      refine Go.step (g' := (mkF m 95 #[.val (.int p0), .val (.int p1), .val (.int p2), .val (.int (0 : Int32)), .val (.int xx), .val (.int oo), .val (.int ss), .val (.ref b54), .unset, .unset, .unset, .unset, .unset, .unset, .unset, .unset, .unset, .unset, .unset, .unset, .unset] [])) st66 ?_
      have Q67 := ((((((S_LEGACY.ext E54).wr W55).wr W56).wr W61).wr W62).wr W66)
      have Q68 := ((((((S_UNICODE.ext E54).wr W55).wr W56).wr W61).wr W62).wr W66)
      have Q69 := ((((((E_LEGACY.ext E54).wr W55).wr W56).wr W61).wr W62).wr W66)
      have Q70 := ((((((E_UNICODE.ext E54).wr W55).wr W56).wr W61).wr W62).wr W66)
      have Q71 := (((Q60.wr W61 (Or.inr sz_b54)).wr W62 (Or.inr sz_b54)).wr W66 (Or.inr sz_b54))
      refine Go.step (g' := (mkF m 97 #[.val (.int p0), .val (.int p1), .val (.int p2), .val (.int (0 : Int32)), .val (.int xx), .val (.int oo), .val (.int ss), .val (.ref b54), .unset, .unset, .unset, .unset, .unset, .unset, .unset, .unset, .unset, .unset, .unset, .unset, .unset] [(.ref b54)])) (fun _ k => XS.aload X66.here hx rfl (hb hby at_95) rfl rfl  k) ?_
      refine Go.step (g' := (mkF m 98 #[.val (.int p0), .val (.int p1), .val (.int p2), .val (.int (0 : Int32)), .val (.int xx), .val (.int oo), .val (.int ss), .val (.ref b54), .unset, .unset, .unset, .unset, .unset, .unset, .unset, .unset, .unset, .unset, .unset, .unset, .unset] [(.int (5 : Int32)), (.ref b54)])) (fun _ k => XS.iconst X66.here hx rfl (hb hby at_97) k) ?_
      refine Go.step (g' := (mkF m 100 #[.val (.int p0), .val (.int p1), .val (.int p2), .val (.int (0 : Int32)), .val (.int xx), .val (.int oo), .val (.int ss), .val (.ref b54), .unset, .unset, .unset, .unset, .unset, .unset, .unset, .unset, .unset, .unset, .unset, .unset, .unset] [(.int ss), (.int (5 : Int32)), (.ref b54)])) (fun _ k => XS.iload X66.here hx rfl (hb hby at_98) rfl  k) ?_
      obtain ⟨T72, h72, lc72, X72, e72, W72, N72, V72, st72⟩ := putAB X66 hx hZ e66 V66 (j := (5 : Int32)) (by decide) N66 g_b54 (gf := (mkF m 100 #[.val (.int p0), .val (.int p1), .val (.int p2), .val (.int (0 : Int32)), .val (.int xx), .val (.int oo), .val (.int ss), .val (.ref b54), .unset, .unset, .unset, .unset, .unset, .unset, .unset, .unset, .unset, .unset, .unset, .unset, .unset] [(.int ss), (.int (5 : Int32)), (.ref b54)])) rfl rfl (hb hby at_100)
      refine Go.step (g' := (mkF m 101 #[.val (.int p0), .val (.int p1), .val (.int p2), .val (.int (0 : Int32)), .val (.int xx), .val (.int oo), .val (.int ss), .val (.ref b54), .unset, .unset, .unset, .unset, .unset, .unset, .unset, .unset, .unset, .unset, .unset, .unset, .unset] [])) st72 ?_
      have Q73 := ((Q63.other W66 (Or.inl ne_w_LEGACY_b54)).other W72 (Or.inl ne_w_LEGACY_b54))
      have Q74 := ((Q64.other W66 (Or.inl ne_w_UNICODE_b54)).other W72 (Or.inl ne_w_UNICODE_b54))
      have Q75 := (Nat.le_trans (Nat.le_trans Q65 (Keep.of_wr W66).1) (Keep.of_wr W72).1)
      refine Go.step (g' := (mkF m 103 #[.val (.int p0), .val (.int p1), .val (.int p2), .val (.int (0 : Int32)), .val (.int xx), .val (.int oo), .val (.int ss), .val (.ref b54), .unset, .unset, .unset, .unset, .unset, .unset, .unset, .unset, .unset, .unset, .unset, .unset, .unset] [(.ref b54)])) (fun _ k => XS.aload X72.here hx rfl (hb hby at_101) rfl rfl  k) ?_
      refine Go.step (g' := (mkF m 105 #[.val (.int p0), .val (.int p1), .val (.int p2), .val (.int (0 : Int32)), .val (.int xx), .val (.int oo), .val (.int ss), .val (.ref b54), .unset, .unset, .unset, .unset, .unset, .unset, .unset, .unset, .unset, .unset, .unset, .unset, .unset] [(.int (6 : Int32)), (.ref b54)])) (fun _ k => XS.bipush X72.here hx rfl (hb hby at_103) k) ?_
      refine Go.step (g' := (mkF m 107 #[.val (.int p0), .val (.int p1), .val (.int p2), .val (.int (0 : Int32)), .val (.int xx), .val (.int oo), .val (.int ss), .val (.ref b54), .unset, .unset, .unset, .unset, .unset, .unset, .unset, .unset, .unset, .unset, .unset, .unset, .unset] [(.int ss), (.int (6 : Int32)), (.ref b54)])) (fun _ k => XS.iload X72.here hx rfl (hb hby at_105) rfl  k) ?_
      obtain ⟨T76, h76, lc76, X76, e76, W76, N76, V76, st76⟩ := putAB X72 hx hZ e72 V72 (j := (6 : Int32)) (by decide) N72 g_b54 (gf := (mkF m 107 #[.val (.int p0), .val (.int p1), .val (.int p2), .val (.int (0 : Int32)), .val (.int xx), .val (.int oo), .val (.int ss), .val (.ref b54), .unset, .unset, .unset, .unset, .unset, .unset, .unset, .unset, .unset, .unset, .unset, .unset, .unset] [(.int ss), (.int (6 : Int32)), (.ref b54)])) rfl rfl (hb hby at_107)
      refine Go.step (g' := (mkF m 108 #[.val (.int p0), .val (.int p1), .val (.int p2), .val (.int (0 : Int32)), .val (.int xx), .val (.int oo), .val (.int ss), .val (.ref b54), .unset, .unset, .unset, .unset, .unset, .unset, .unset, .unset, .unset, .unset, .unset, .unset, .unset] [])) st76 ?_
      refine Go.step (g' := (mkF m 110 #[.val (.int p0), .val (.int p1), .val (.int p2), .val (.int (0 : Int32)), .val (.int xx), .val (.int oo), .val (.int ss), .val (.ref b54), .unset, .unset, .unset, .unset, .unset, .unset, .unset, .unset, .unset, .unset, .unset, .unset, .unset] [(.ref b54)])) (fun _ k => XS.aload X76.here hx rfl (hb hby at_108) rfl rfl  k) ?_
      refine Go.step (g' := (mkF m 112 #[.val (.int p0), .val (.int p1), .val (.int p2), .val (.int (0 : Int32)), .val (.int xx), .val (.int oo), .val (.int ss), .val (.ref b54), .unset, .unset, .unset, .unset, .unset, .unset, .unset, .unset, .unset, .unset, .unset, .unset, .unset] [(.int (7 : Int32)), (.ref b54)])) (fun _ k => XS.bipush X76.here hx rfl (hb hby at_110) k) ?_
      refine Go.step (g' := (mkF m 114 #[.val (.int p0), .val (.int p1), .val (.int p2), .val (.int (0 : Int32)), .val (.int xx), .val (.int oo), .val (.int ss), .val (.ref b54), .unset, .unset, .unset, .unset, .unset, .unset, .unset, .unset, .unset, .unset, .unset, .unset, .unset] [(.int ss), (.int (7 : Int32)), (.ref b54)])) (fun _ k => XS.iload X76.here hx rfl (hb hby at_112) rfl  k) ?_
      obtain ⟨T77, h77, lc77, X77, e77, W77, N77, V77, st77⟩ := putAB X76 hx hZ e76 V76 (j := (7 : Int32)) (by decide) N76 g_b54 (gf := (mkF m 114 #[.val (.int p0), .val (.int p1), .val (.int p2), .val (.int (0 : Int32)), .val (.int xx), .val (.int oo), .val (.int ss), .val (.ref b54), .unset, .unset, .unset, .unset, .unset, .unset, .unset, .unset, .unset, .unset, .unset, .unset, .unset] [(.int ss), (.int (7 : Int32)), (.ref b54)])) rfl rfl (hb hby at_114)
      refine Go.step (g' := (mkF m 115 #[.val (.int p0), .val (.int p1), .val (.int p2), .val (.int (0 : Int32)), .val (.int xx), .val (.int oo), .val (.int ss), .val (.ref b54), .unset, .unset, .unset, .unset, .unset, .unset, .unset, .unset, .unset, .unset, .unset, .unset, .unset] [])) st77 ?_
      have Q78 := ((Q73.other W76 (Or.inl ne_w_LEGACY_b54)).other W77 (Or.inl ne_w_LEGACY_b54))
      have Q79 := ((Q74.other W76 (Or.inl ne_w_UNICODE_b54)).other W77 (Or.inl ne_w_UNICODE_b54))
      have Q80 := (Nat.le_trans (Nat.le_trans Q75 (Keep.of_wr W76).1) (Keep.of_wr W77).1)
      have Q81 := (((Q71.wr W72 (Or.inr sz_b54)).wr W76 (Or.inr sz_b54)).wr W77 (Or.inr sz_b54))
      refine Go.step (g' := (mkF m 117 #[.val (.int p0), .val (.int p1), .val (.int p2), .val (.int (0 : Int32)), .val (.int xx), .val (.int oo), .val (.int ss), .val (.ref b54), .unset, .unset, .unset, .unset, .unset, .unset, .unset, .unset, .unset, .unset, .unset, .unset, .unset] [(.ref b54)])) (fun _ k => XS.aload X77.here hx rfl (hb hby at_115) rfl rfl  k) ?_
      refine Go.step (g' := (mkF m 119 #[.val (.int p0), .val (.int p1), .val (.int p2), .val (.int (0 : Int32)), .val (.int xx), .val (.int oo), .val (.int ss), .val (.ref b54), .unset, .unset, .unset, .unset, .unset, .unset, .unset, .unset, .unset, .unset, .unset, .unset, .unset] [(.int (8 : Int32)), (.ref b54)])) (fun _ k => XS.bipush X77.here hx rfl (hb hby at_117) k) ?_
      refine Go.step (g' := (mkF m 121 #[.val (.int p0), .val (.int p1), .val (.int p2), .val (.int (0 : Int32)), .val (.int xx), .val (.int oo), .val (.int ss), .val (.ref b54), .unset, .unset, .unset, .unset, .unset, .unset, .unset, .unset, .unset, .unset, .unset, .unset, .unset] [(.int ss), (.int (8 : Int32)), (.ref b54)])) (fun _ k => XS.iload X77.here hx rfl (hb hby at_119) rfl  k) ?_
      obtain ⟨T82, h82, lc82, X82, e82, W82, N82, V82, st82⟩ := putAB X77 hx hZ e77 V77 (j := (8 : Int32)) (by decide) N77 g_b54 (gf := (mkF m 121 #[.val (.int p0), .val (.int p1), .val (.int p2), .val (.int (0 : Int32)), .val (.int xx), .val (.int oo), .val (.int ss), .val (.ref b54), .unset, .unset, .unset, .unset, .unset, .unset, .unset, .unset, .unset, .unset, .unset, .unset, .unset] [(.int ss), (.int (8 : Int32)), (.ref b54)])) rfl rfl (hb hby at_121)
      refine Go.step (g' := (mkF m 122 #[.val (.int p0), .val (.int p1), .val (.int p2), .val (.int (0 : Int32)), .val (.int xx), .val (.int oo), .val (.int ss), .val (.ref b54), .unset, .unset, .unset, .unset, .unset, .unset, .unset, .unset, .unset, .unset, .unset, .unset, .unset] [])) st82 ?_
      refine Go.step (g' := (mkF m 123 #[.val (.int p0), .val (.int p1), .val (.int p2), .val (.int (0 : Int32)), .val (.int xx), .val (.int oo), .val (.int ss), .val (.ref b54), .unset, .unset, .unset, .unset, .unset, .unset, .unset, .unset, .unset, .unset, .unset, .unset, .unset] [(.int (0 : Int32))])) (fun _ k => XS.iloadN X82.here hx rfl (hb hby at_122) rfl  k) ?_
      refine Go.step (g' := (mkF m 132 #[.val (.int p0), .val (.int p1), .val (.int p2), .val (.int (0 : Int32)), .val (.int xx), .val (.int oo), .val (.int ss), .val (.ref b54), .unset, .unset, .unset, .unset, .unset, .unset, .unset, .unset, .unset, .unset, .unset, .unset, .unset] [])) (fun _ k => XS.ifYes X82.here hx rfl (pc0 := 123) (pc' := 132) rfl (hb hby at_123) rfl ((if0 _ _).trans (teq (by decide : (0 : Int32) = (0 : Int32))).1) (by decide) (by decide) k) ?_
      rw [show f0_48d10 = f0_132d10 from rfl]
      obtain ⟨T83, X83, e83, st83⟩ := getS2 X82 hx hZ hown (host := "") (Or.inl (hw _ (List.mem_of_getElem? (i := 30) rfl))) Via.refl e82 ((((Q68.wr W72).wr W76).wr W77).wr W82) (g := (mkF m 132 #[.val (.int p0), .val (.int p1), .val (.int p2), .val (.int (0 : Int32)), .val (.int xx), .val (.int oo), .val (.int ss), .val (.ref b54), .unset, .unset, .unset, .unset, .unset, .unset, .unset, .unset, .unset, .unset, .unset, .unset, .unset] [])) rfl (hb hby at_132)
      refine Go.step (g' := (mkF m 135 #[.val (.int p0), .val (.int p1), .val (.int p2), .val (.int (0 : Int32)), .val (.int xx), .val (.int oo), .val (.int ss), .val (.ref b54), .unset, .unset, .unset, .unset, .unset, .unset, .unset, .unset, .unset, .unset, .unset, .unset, .unset] [(.ref w_UNICODE)])) st83 ?_
      rw [show f0_132d10 = f0_135d10 from rfl]
      refine Go.step (g' := (mkF m 137 #[.val (.int p0), .val (.int p1), .val (.int p2), .val (.int (0 : Int32)), .val (.int xx), .val (.int oo), .val (.int ss), .val (.ref b54), .val (.ref w_UNICODE), .unset, .unset, .unset, .unset, .unset, .unset, .unset, .unset, .unset, .unset, .unset, .unset] [])) (fun _ k => XS.astore X83.here hx rfl (hb hby at_135) rfl rfl (l' := #[.val (.int p0), .val (.int p1), .val (.int p2), .val (.int (0 : Int32)), .val (.int xx), .val (.int oo), .val (.int ss), .val (.ref b54), .val (.ref w_UNICODE), .unset, .unset, .unset, .unset, .unset, .unset, .unset, .unset, .unset, .unset, .unset, .unset]) rfl k) ?_
      refine Go.step (g' := (mkF m 139 #[.val (.int p0), .val (.int p1), .val (.int p2), .val (.int (0 : Int32)), .val (.int xx), .val (.int oo), .val (.int ss), .val (.ref b54), .val (.ref w_UNICODE), .unset, .unset, .unset, .unset, .unset, .unset, .unset, .unset, .unset, .unset, .unset, .unset] [(.int xx)])) (fun _ k => XS.iload X83.here hx rfl (hb hby at_137) rfl  k) ?_
      refine Go.step (g' := (mkF m 141 #[.val (.int p0), .val (.int p1), .val (.int p2), .val (.int (0 : Int32)), .val (.int xx), .val (.int oo), .val (.int ss), .val (.ref b54), .val (.ref w_UNICODE), .unset, .unset, .unset, .unset, .unset, .unset, .unset, .unset, .unset, .unset, .unset, .unset] [(.ref b54), (.int xx)])) (fun _ k => XS.aload X83.here hx rfl (hb hby at_139) rfl rfl  k) ?_
      refine Go.step (g' := (mkF m 143 #[.val (.int p0), .val (.int p1), .val (.int p2), .val (.int (0 : Int32)), .val (.int xx), .val (.int oo), .val (.int ss), .val (.ref b54), .val (.ref w_UNICODE), .unset, .unset, .unset, .unset, .unset, .unset, .unset, .unset, .unset, .unset, .unset, .unset] [(.int oo), (.ref b54), (.int xx)])) (fun _ k => XS.iload X83.here hx rfl (hb hby at_141) rfl  k) ?_
      refine Go.step (g' := (mkF m 145 #[.val (.int p0), .val (.int p1), .val (.int p2), .val (.int (0 : Int32)), .val (.int xx), .val (.int oo), .val (.int ss), .val (.ref b54), .val (.ref w_UNICODE), .unset, .unset, .unset, .unset, .unset, .unset, .unset, .unset, .unset, .unset, .unset, .unset] [(.ref w_UNICODE), (.int oo), (.ref b54), (.int xx)])) (fun _ k => XS.aload X83.here hx rfl (hb hby at_143) rfl rfl  k) ?_
      obtain ⟨_, _, ⟨T84, L84, k84, n84⟩, -, X84, ⟨Lc84, hQ84, l84, y84, z84⟩, st84⟩ := Jvm.LawKit.callS X83 hx (y := (⟨"com/example/ucs_to_octets/ucstooctets/Utf8", "encode", "(I[BILcom/example/ucs_to_octets/ucstooctets/CodeSpace;)I"⟩ : MethodName)) hown (mvT hZ (hw _ (List.mem_of_getElem? (i := 6) rfl))) (mvT hZ (hw _ (List.mem_of_getElem? (i := 7) rfl))) (mvT hZ (hw _ (List.mem_of_getElem? (i := 8) rfl))) (mvT hZ (hw _ (List.mem_of_getElem? (i := 9) rfl))) (by decide) (backOf (W := 0) (rm1 l Z a0 hw [] xx b54 oo w_UNICODE (upd (upd (upd (upd (upd (upd (upd (upd (upd (fun _ => (0 : Int32)) (0 : Int32).toNatClampNeg (nar .byte ss)) (1 : Int32).toNatClampNeg (nar .byte ss)) (2 : Int32).toNatClampNeg (nar .byte ss)) (3 : Int32).toNatClampNeg (nar .byte ss)) (4 : Int32).toNatClampNeg (nar .byte ss)) (5 : Int32).toNatClampNeg (nar .byte ss)) (6 : Int32).toNatClampNeg (nar .byte ss)) (7 : Int32).toNatClampNeg (nar .byte ss)) (8 : Int32).toNatClampNeg (nar .byte ss)) (1114111 : Int32) h82 n0 (Nat.le_trans Q80 (Keep.of_wr W82).1) V82 g_b54 ho ((((Q70.wr W72).wr W76).wr W77).wr W82) (Q79.other W82 (Or.inl ne_w_UNICODE_b54)) (own_con _ _ hx0 (own_x1u hxx) hsur)) hZ (hw _ (List.mem_of_getElem? (i := 9) rfl)) (hw _ (List.mem_of_getElem? (i := 8) rfl)) (by decide) (by decide)) (g := (mkF m 145 #[.val (.int p0), .val (.int p1), .val (.int p2), .val (.int (0 : Int32)), .val (.int xx), .val (.int oo), .val (.int ss), .val (.ref b54), .val (.ref w_UNICODE), .unset, .unset, .unset, .unset, .unset, .unset, .unset, .unset, .unset, .unset, .unset, .unset] [(.ref w_UNICODE), (.int oo), (.ref b54), (.int xx)])) rfl (by rw [hml]; rfl) (argsL := [(.int xx), (.ref b54), (.int oo), (.ref w_UNICODE)]) (rest := []) (lenOf pd_2 rfl) rfl (by show 2 * 0 + _ ≤ _; exact Nat.le_of_eq rfl) (hb hby at_145) (fun _ _ => ⟨rfl, e83, (by decide : (0 + 1) + 0 ≤ _), (by decide : (0 + 9) + 0 ≤ _)⟩)
      dsimp only [Pt.U, Pt.locs, Pt.cells, Pt.slots] at X84 l84 y84 z84 st84 hQ84
      subst l84 y84 z84
      obtain ⟨le84, gg84, rfl, N84q, K84, Ac84, En84⟩ := hQ84
      obtain ⟨lc84, X84, N84⟩ := own_pack X84 (Fr.app N82 N84q)
      have hOut := own_out En84 (own_g0 ss hss) ho hN hx0
      have Q85 := ((Q78.other W82 (Or.inl ne_w_LEGACY_b54)).keep K84 (ninS ne_w_LEGACY_b54 nin0))
      have Q86 := ((Q79.other W82 (Or.inl ne_w_UNICODE_b54)).keep K84 (ninS ne_w_UNICODE_b54 nin0))
      have Q87 := ((Q81.wr W82 (Or.inr sz_b54)).trans K84 (allS (Or.inr sz_b54) all0))
      refine Go.step (g' := (mkF m 148 #[.val (.int p0), .val (.int p1), .val (.int p2), .val (.int (0 : Int32)), .val (.int xx), .val (.int oo), .val (.int ss), .val (.ref b54), .val (.ref w_UNICODE), .unset, .unset, .unset, .unset, .unset, .unset, .unset, .unset, .unset, .unset, .unset, .unset] [(.int le84)])) st84 ?_
      refine Go.step (g' := (mkF m 150 #[.val (.int p0), .val (.int p1), .val (.int p2), .val (.int (0 : Int32)), .val (.int xx), .val (.int oo), .val (.int ss), .val (.ref b54), .val (.ref w_UNICODE), .val (.int le84), .unset, .unset, .unset, .unset, .unset, .unset, .unset, .unset, .unset, .unset, .unset] [])) (fun _ k => XS.istore X84.here hx rfl (hb hby at_148) rfl (l' := #[.val (.int p0), .val (.int p1), .val (.int p2), .val (.int (0 : Int32)), .val (.int xx), .val (.int oo), .val (.int ss), .val (.ref b54), .val (.ref w_UNICODE), .val (.int le84), .unset, .unset, .unset, .unset, .unset, .unset, .unset, .unset, .unset, .unset, .unset]) rfl k) ?_
      rw [show f0_135d10 = (f0_150d10 xx oo ss le84 gg84) from (law_150d10 hOut (own_x1u hxx)).symm]
      refine Go.step (g' := (mkF m 152 #[.val (.int p0), .val (.int p1), .val (.int p2), .val (.int (0 : Int32)), .val (.int xx), .val (.int oo), .val (.int ss), .val (.ref b54), .val (.ref w_UNICODE), .val (.int le84), .unset, .unset, .unset, .unset, .unset, .unset, .unset, .unset, .unset, .unset, .unset] [(.int le84)])) (fun _ k => XS.iload X84.here hx rfl (hb hby at_150) rfl  k) ?_
      refine Go.step (g' := (mkF m 153 #[.val (.int p0), .val (.int p1), .val (.int p2), .val (.int (0 : Int32)), .val (.int xx), .val (.int oo), .val (.int ss), .val (.ref b54), .val (.ref w_UNICODE), .val (.int le84), .unset, .unset, .unset, .unset, .unset, .unset, .unset, .unset, .unset, .unset, .unset] [(.int (1 : Int32)), (.int le84)])) (fun _ k => XS.iconst X84.here hx rfl (hb hby at_152) k) ?_
      have t163d10 : Go p e below s room_1.cells room_1.slots (LawQ (some (.int f0_163d10)) n0) T84 (mkF m 163 #[.val (.int p0), .val (.int p1), .val (.int p2), .val (.int (0 : Int32)), .val (.int xx), .val (.int oo), .val (.int ss), .val (.ref b54), .val (.ref w_UNICODE), .val (.int le84), .unset, .unset, .unset, .unset, .unset, .unset, .unset, .unset, .unset, .unset, .unset] []) := by
        refine Go.step (g' := (mkF m 164 #[.val (.int p0), .val (.int p1), .val (.int p2), .val (.int (0 : Int32)), .val (.int xx), .val (.int oo), .val (.int ss), .val (.ref b54), .val (.ref w_UNICODE), .val (.int le84), .unset, .unset, .unset, .unset, .unset, .unset, .unset, .unset, .unset, .unset, .unset] [(.int (0 : Int32))])) (fun _ k => XS.iconst X84.here hx rfl (hb hby at_163) k) ?_
        exact Go.retN X84 hx hlk (t := .boolean) Bd.returns (by simp) (hb hby at_164) (by decide) (by decide) ⟨rfl, N84⟩
      by_cases hc153d10 : le84 < (1 : Int32)
      · rw [show (f0_150d10 xx oo ss le84 gg84) = f0_163d10 from if_pos hc153d10]
        refine Go.step (g' := (mkF m 163 #[.val (.int p0), .val (.int p1), .val (.int p2), .val (.int (0 : Int32)), .val (.int xx), .val (.int oo), .val (.int ss), .val (.ref b54), .val (.ref w_UNICODE), .val (.int le84), .unset, .unset, .unset, .unset, .unset, .unset, .unset, .unset, .unset, .unset, .unset] [])) (fun _ k => XS.icmpYes X84.here hx rfl (pc0 := 153) (pc' := 163) rfl (hb hby at_153) rfl (tlt hc153d10).1 (by decide) (by decide) k) ?_
        exact t163d10 
      · rw [show (f0_150d10 xx oo ss le84 gg84) = (f0_156d10 xx oo ss le84 gg84) from if_neg hc153d10]
        refine Go.step (g' := (mkF m 156 #[.val (.int p0), .val (.int p1), .val (.int p2), .val (.int (0 : Int32)), .val (.int xx), .val (.int oo), .val (.int ss), .val (.ref b54), .val (.ref w_UNICODE), .val (.int le84), .unset, .unset, .unset, .unset, .unset, .unset, .unset, .unset, .unset, .unset, .unset] [])) (fun _ k => XS.icmpNo X84.here hx rfl (hb hby at_153) rfl (flt hc153d10).1 k) ?_
        refine Go.step (g' := (mkF m 158 #[.val (.int p0), .val (.int p1), .val (.int p2), .val (.int (0 : Int32)), .val (.int xx), .val (.int oo), .val (.int ss), .val (.ref b54), .val (.ref w_UNICODE), .val (.int le84), .unset, .unset, .unset, .unset, .unset, .unset, .unset, .unset, .unset, .unset, .unset] [(.int le84)])) (fun _ k => XS.iload X84.here hx rfl (hb hby at_156) rfl  k) ?_
        refine Go.step (g' := (mkF m 160 #[.val (.int p0), .val (.int p1), .val (.int p2), .val (.int (0 : Int32)), .val (.int xx), .val (.int oo), .val (.int ss), .val (.ref b54), .val (.ref w_UNICODE), .val (.int le84), .unset, .unset, .unset, .unset, .unset, .unset, .unset, .unset, .unset, .unset, .unset] [(.int (6 : Int32)), (.int le84)])) (fun _ k => XS.bipush X84.here hx rfl (hb hby at_158) k) ?_
        by_cases hc160d10 : (6 : Int32) < le84
        · rw [show (f0_156d10 xx oo ss le84 gg84) = f0_163d10 from if_pos hc160d10]
          refine Go.step (g' := (mkF m 163 #[.val (.int p0), .val (.int p1), .val (.int p2), .val (.int (0 : Int32)), .val (.int xx), .val (.int oo), .val (.int ss), .val (.ref b54), .val (.ref w_UNICODE), .val (.int le84), .unset, .unset, .unset, .unset, .unset, .unset, .unset, .unset, .unset, .unset, .unset] [])) (fun _ k => XS.icmpNo X84.here hx rfl (hb hby at_160) rfl (tlt hc160d10).2.2.2 k) ?_
          exact t163d10 
        · rw [show (f0_156d10 xx oo ss le84 gg84) = (f0_165d10 xx oo ss le84 gg84) from if_neg hc160d10]
          refine Go.step (g' := (mkF m 165 #[.val (.int p0), .val (.int p1), .val (.int p2), .val (.int (0 : Int32)), .val (.int xx), .val (.int oo), .val (.int ss), .val (.ref b54), .val (.ref w_UNICODE), .val (.int le84), .unset, .unset, .unset, .unset, .unset, .unset, .unset, .unset, .unset, .unset, .unset] [])) (fun _ k => XS.icmpYes X84.here hx rfl (pc0 := 160) (pc' := 165) rfl (hb hby at_160) rfl (flt hc160d10).2.2.2 (by decide) (by decide) k) ?_
          refine Go.step (g' := (mkF m 166 #[.val (.int p0), .val (.int p1), .val (.int p2), .val (.int (0 : Int32)), .val (.int xx), .val (.int oo), .val (.int ss), .val (.ref b54), .val (.ref w_UNICODE), .val (.int le84), .unset, .unset, .unset, .unset, .unset, .unset, .unset, .unset, .unset, .unset, .unset] [(.int (0 : Int32))])) (fun _ k => XS.iloadN X84.here hx rfl (hb hby at_165) rfl  k) ?_
          refine Go.step (g' := (mkF m 169 #[.val (.int p0), .val (.int p1), .val (.int p2), .val (.int (0 : Int32)), .val (.int xx), .val (.int oo), .val (.int ss), .val (.ref b54), .val (.ref w_UNICODE), .val (.int le84), .unset, .unset, .unset, .unset, .unset, .unset, .unset, .unset, .unset, .unset, .unset] [])) (fun _ k => XS.ifNo X84.here hx rfl (hb hby at_166) rfl ((if0 _ _).trans (teq (by decide : (0 : Int32) = (0 : Int32))).2) k) ?_
          rw [show (f0_165d10 xx oo ss le84 gg84) = (f0_169d10 xx oo ss le84 gg84) from rfl]
          refine Go.step (g' := (mkF m 171 #[.val (.int p0), .val (.int p1), .val (.int p2), .val (.int (0 : Int32)), .val (.int xx), .val (.int oo), .val (.int ss), .val (.ref b54), .val (.ref w_UNICODE), .val (.int le84), .unset, .unset, .unset, .unset, .unset, .unset, .unset, .unset, .unset, .unset, .unset] [(.int le84)])) (fun _ k => XS.iload X84.here hx rfl (hb hby at_169) rfl  k) ?_
          refine Go.step (g' := (mkF m 172 #[.val (.int p0), .val (.int p1), .val (.int p2), .val (.int (0 : Int32)), .val (.int xx), .val (.int oo), .val (.int ss), .val (.ref b54), .val (.ref w_UNICODE), .val (.int le84), .unset, .unset, .unset, .unset, .unset, .unset, .unset, .unset, .unset, .unset, .unset] [(.int (4 : Int32)), (.int le84)])) (fun _ k => XS.iconst X84.here hx rfl (hb hby at_171) k) ?_
          by_cases hc172d10 : (4 : Int32) < le84
          · rw [show (f0_169d10 xx oo ss le84 gg84) = f0_175d10 from if_pos hc172d10]
            refine Go.step (g' := (mkF m 175 #[.val (.int p0), .val (.int p1), .val (.int p2), .val (.int (0 : Int32)), .val (.int xx), .val (.int oo), .val (.int ss), .val (.ref b54), .val (.ref w_UNICODE), .val (.int le84), .unset, .unset, .unset, .unset, .unset, .unset, .unset, .unset, .unset, .unset, .unset] [])) (fun _ k => XS.icmpNo X84.here hx rfl (hb hby at_172) rfl (tlt hc172d10).2.2.2 k) ?_
            refine Go.step (g' := (mkF m 176 #[.val (.int p0), .val (.int p1), .val (.int p2), .val (.int (0 : Int32)), .val (.int xx), .val (.int oo), .val (.int ss), .val (.ref b54), .val (.ref w_UNICODE), .val (.int le84), .unset, .unset, .unset, .unset, .unset, .unset, .unset, .unset, .unset, .unset, .unset] [(.int (0 : Int32))])) (fun _ k => XS.iconst X84.here hx rfl (hb hby at_175) k) ?_
            exact Go.retN X84 hx hlk (t := .boolean) Bd.returns (by simp) (hb hby at_176) (by decide) (by decide) ⟨rfl, N84⟩
          · rw [show (f0_169d10 xx oo ss le84 gg84) = (f0_177d10 xx oo ss le84 gg84) from if_neg hc172d10]
            refine Go.step (g' := (mkF m 177 #[.val (.int p0), .val (.int p1), .val (.int p2), .val (.int (0 : Int32)), .val (.int xx), .val (.int oo), .val (.int ss), .val (.ref b54), .val (.ref w_UNICODE), .val (.int le84), .unset, .unset, .unset, .unset, .unset, .unset, .unset, .unset, .unset, .unset, .unset] [])) (fun _ k => XS.icmpYes X84.here hx rfl (pc0 := 172) (pc' := 177) rfl (hb hby at_172) rfl (flt hc172d10).2.2.2 (by decide) (by decide) k) ?_
            refine Go.step (g' := (mkF m 179 #[.val (.int p0), .val (.int p1), .val (.int p2), .val (.int (0 : Int32)), .val (.int xx), .val (.int oo), .val (.int ss), .val (.ref b54), .val (.ref w_UNICODE), .val (.int le84), .unset, .unset, .unset, .unset, .unset, .unset, .unset, .unset, .unset, .unset, .unset] [(.int le84)])) (fun _ k => XS.iload X84.here hx rfl (hb hby at_177) rfl  k) ?_
            refine Go.step (g' := (mkF m 180 #[.val (.int p0), .val (.int p1), .val (.int p2), .val (.int (0 : Int32)), .val (.int xx), .val (.int oo), .val (.int ss), .val (.ref b54), .val (.ref w_UNICODE), .val (.int le84), .unset, .unset, .unset, .unset, .unset, .unset, .unset, .unset, .unset, .unset, .unset] [(.int (1 : Int32)), (.int le84)])) (fun _ k => XS.iconst X84.here hx rfl (hb hby at_179) k) ?_
            have t209d10 : ∀ (v209d10_s0 : Int64), Go p e below s room_1.cells room_1.slots (LawQ (some (.int (f0_209d10 xx oo ss le84 gg84 v209d10_s0))) n0) T84 (mkF m 209 #[.val (.int p0), .val (.int p1), .val (.int p2), .val (.int (0 : Int32)), .val (.int xx), .val (.int oo), .val (.int ss), .val (.ref b54), .val (.ref w_UNICODE), .val (.int le84), .unset, .unset, .unset, .unset, .unset, .unset, .unset, .unset, .unset, .unset, .unset] [(.long v209d10_s0)]) := by
              intro v209d10_s0
              refine Go.step (g' := (mkF m 211 #[.val (.int p0), .val (.int p1), .val (.int p2), .val (.int (0 : Int32)), .val (.int xx), .val (.int oo), .val (.int ss), .val (.ref b54), .val (.ref w_UNICODE), .val (.int le84), .val (.long v209d10_s0), .second, .unset, .unset, .unset, .unset, .unset, .unset, .unset, .unset, .unset] [])) (fun _ k => XS.lstore X84.here hx rfl (hb hby at_209) rfl (l' := #[.val (.int p0), .val (.int p1), .val (.int p2), .val (.int (0 : Int32)), .val (.int xx), .val (.int oo), .val (.int ss), .val (.ref b54), .val (.ref w_UNICODE), .val (.int le84), .val (.long v209d10_s0), .second, .unset, .unset, .unset, .unset, .unset, .unset, .unset, .unset, .unset]) rfl k) ?_
              refine Go.step (g' := (mkF m 213 #[.val (.int p0), .val (.int p1), .val (.int p2), .val (.int (0 : Int32)), .val (.int xx), .val (.int oo), .val (.int ss), .val (.ref b54), .val (.ref w_UNICODE), .val (.int le84), .val (.long v209d10_s0), .second, .unset, .unset, .unset, .unset, .unset, .unset, .unset, .unset, .unset] [(.int le84)])) (fun _ k => XS.iload X84.here hx rfl (hb hby at_211) rfl  k) ?_
              refine Go.step (g' := (mkF m 214 #[.val (.int p0), .val (.int p1), .val (.int p2), .val (.int (0 : Int32)), .val (.int xx), .val (.int oo), .val (.int ss), .val (.ref b54), .val (.ref w_UNICODE), .val (.int le84), .val (.long v209d10_s0), .second, .unset, .unset, .unset, .unset, .unset, .unset, .unset, .unset, .unset] [(.int (1 : Int32)), (.int le84)])) (fun _ k => XS.iconst X84.here hx rfl (hb hby at_213) k) ?_
              have t231d10 : ∀ (v231d10_s0 : Int64), Go p e below s room_1.cells room_1.slots (LawQ (some (.int (f0_231d10 xx oo ss le84 gg84 v209d10_s0 v231d10_s0))) n0) T84 (mkF m 231 #[.val (.int p0), .val (.int p1), .val (.int p2), .val (.int (0 : Int32)), .val (.int xx), .val (.int oo), .val (.int ss), .val (.ref b54), .val (.ref w_UNICODE), .val (.int le84), .val (.long v209d10_s0), .second, .unset, .unset, .unset, .unset, .unset, .unset, .unset, .unset, .unset] [(.long v231d10_s0)]) := by
                intro v231d10_s0
                refine Go.step (g' := (mkF m 233 #[.val (.int p0), .val (.int p1), .val (.int p2), .val (.int (0 : Int32)), .val (.int xx), .val (.int oo), .val (.int ss), .val (.ref b54), .val (.ref w_UNICODE), .val (.int le84), .val (.long v209d10_s0), .second, .val (.long v231d10_s0), .second, .unset, .unset, .unset, .unset, .unset, .unset, .unset] [])) (fun _ k => XS.lstore X84.here hx rfl (hb hby at_231) rfl (l' := #[.val (.int p0), .val (.int p1), .val (.int p2), .val (.int (0 : Int32)), .val (.int xx), .val (.int oo), .val (.int ss), .val (.ref b54), .val (.ref w_UNICODE), .val (.int le84), .val (.long v209d10_s0), .second, .val (.long v231d10_s0), .second, .unset, .unset, .unset, .unset, .unset, .unset, .unset]) rfl k) ?_
                refine Go.step (g' := (mkF m 235 #[.val (.int p0), .val (.int p1), .val (.int p2), .val (.int (0 : Int32)), .val (.int xx), .val (.int oo), .val (.int ss), .val (.ref b54), .val (.ref w_UNICODE), .val (.int le84), .val (.long v209d10_s0), .second, .val (.long v231d10_s0), .second, .unset, .unset, .unset, .unset, .unset, .unset, .unset] [(.int xx)])) (fun _ k => XS.iload X84.here hx rfl (hb hby at_233) rfl  k) ?_
                refine Go.step (g' := (mkF m 236 #[.val (.int p0), .val (.int p1), .val (.int p2), .val (.int (0 : Int32)), .val (.int xx), .val (.int oo), .val (.int ss), .val (.ref b54), .val (.ref w_UNICODE), .val (.int le84), .val (.long v209d10_s0), .second, .val (.long v231d10_s0), .second, .unset, .unset, .unset, .unset, .unset, .unset, .unset] [(.long (xx.toInt64))])) (fun _ k => XS.i2l X84.here hx rfl (hb hby at_235) rfl k) ?_
                refine Go.step (g' := (mkF m 238 #[.val (.int p0), .val (.int p1), .val (.int p2), .val (.int (0 : Int32)), .val (.int xx), .val (.int oo), .val (.int ss), .val (.ref b54), .val (.ref w_UNICODE), .val (.int le84), .val (.long v209d10_s0), .second, .val (.long v231d10_s0), .second, .unset, .unset, .unset, .unset, .unset, .unset, .unset] [(.long v209d10_s0), (.long (xx.toInt64))])) (fun _ k => XS.lload X84.here hx rfl (hb hby at_236) rfl  k) ?_
                refine Go.step (g' := (mkF m 239 #[.val (.int p0), .val (.int p1), .val (.int p2), .val (.int (0 : Int32)), .val (.int xx), .val (.int oo), .val (.int ss), .val (.ref b54), .val (.ref w_UNICODE), .val (.int le84), .val (.long v209d10_s0), .second, .val (.long v231d10_s0), .second, .unset, .unset, .unset, .unset, .unset, .unset, .unset] [(.int (lcmpW (xx.toInt64) v209d10_s0))])) (fun _ k => XS.lcmp X84.here hx rfl (hb hby at_238) rfl k) ?_
                have t251d10 : Go p e below s room_1.cells room_1.slots (LawQ (some (.int f0_251d10)) n0) T84 (mkF m 251 #[.val (.int p0), .val (.int p1), .val (.int p2), .val (.int (0 : Int32)), .val (.int xx), .val (.int oo), .val (.int ss), .val (.ref b54), .val (.ref w_UNICODE), .val (.int le84), .val (.long v209d10_s0), .second, .val (.long v231d10_s0), .second, .unset, .unset, .unset, .unset, .unset, .unset, .unset] []) := by
                  refine Go.step (g' := (mkF m 252 #[.val (.int p0), .val (.int p1), .val (.int p2), .val (.int (0 : Int32)), .val (.int xx), .val (.int oo), .val (.int ss), .val (.ref b54), .val (.ref w_UNICODE), .val (.int le84), .val (.long v209d10_s0), .second, .val (.long v231d10_s0), .second, .unset, .unset, .unset, .unset, .unset, .unset, .unset] [(.int (0 : Int32))])) (fun _ k => XS.iconst X84.here hx rfl (hb hby at_251) k) ?_
                  exact Go.retN X84 hx hlk (t := .boolean) Bd.returns (by simp) (hb hby at_252) (by decide) (by decide) ⟨rfl, N84⟩
                by_cases hc239d10 : (lcmpW (xx.toInt64) v209d10_s0) < (0 : Int32)
                · rw [show (f0_231d10 xx oo ss le84 gg84 v209d10_s0 v231d10_s0) = f0_251d10 from if_pos hc239d10]
                  refine Go.step (g' := (mkF m 251 #[.val (.int p0), .val (.int p1), .val (.int p2), .val (.int (0 : Int32)), .val (.int xx), .val (.int oo), .val (.int ss), .val (.ref b54), .val (.ref w_UNICODE), .val (.int le84), .val (.long v209d10_s0), .second, .val (.long v231d10_s0), .second, .unset, .unset, .unset, .unset, .unset, .unset, .unset] [])) (fun _ k => XS.ifYes X84.here hx rfl (pc0 := 239) (pc' := 251) rfl (hb hby at_239) rfl ((if0 _ _).trans (tlt hc239d10).1) (by decide) (by decide) k) ?_
                  exact t251d10 
                · rw [show (f0_231d10 xx oo ss le84 gg84 v209d10_s0 v231d10_s0) = (f0_242d10 xx oo ss le84 gg84 v231d10_s0) from if_neg hc239d10]
                  refine Go.step (g' := (mkF m 242 #[.val (.int p0), .val (.int p1), .val (.int p2), .val (.int (0 : Int32)), .val (.int xx), .val (.int oo), .val (.int ss), .val (.ref b54), .val (.ref w_UNICODE), .val (.int le84), .val (.long v209d10_s0), .second, .val (.long v231d10_s0), .second, .unset, .unset, .unset, .unset, .unset, .unset, .unset] [])) (fun _ k => XS.ifNo X84.here hx rfl (hb hby at_239) rfl ((if0 _ _).trans (flt hc239d10).1) k) ?_
                  refine Go.step (g' := (mkF m 244 #[.val (.int p0), .val (.int p1), .val (.int p2), .val (.int (0 : Int32)), .val (.int xx), .val (.int oo), .val (.int ss), .val (.ref b54), .val (.ref w_UNICODE), .val (.int le84), .val (.long v209d10_s0), .second, .val (.long v231d10_s0), .second, .unset, .unset, .unset, .unset, .unset, .unset, .unset] [(.int xx)])) (fun _ k => XS.iload X84.here hx rfl (hb hby at_242) rfl  k) ?_
                  refine Go.step (g' := (mkF m 245 #[.val (.int p0), .val (.int p1), .val (.int p2), .val (.int (0 : Int32)), .val (.int xx), .val (.int oo), .val (.int ss), .val (.ref b54), .val (.ref w_UNICODE), .val (.int le84), .val (.long v209d10_s0), .second, .val (.long v231d10_s0), .second, .unset, .unset, .unset, .unset, .unset, .unset, .unset] [(.long (xx.toInt64))])) (fun _ k => XS.i2l X84.here hx rfl (hb hby at_244) rfl k) ?_
                  refine Go.step (g' := (mkF m 247 #[.val (.int p0), .val (.int p1), .val (.int p2), .val (.int (0 : Int32)), .val (.int xx), .val (.int oo), .val (.int ss), .val (.ref b54), .val (.ref w_UNICODE), .val (.int le84), .val (.long v209d10_s0), .second, .val (.long v231d10_s0), .second, .unset, .unset, .unset, .unset, .unset, .unset, .unset] [(.long v231d10_s0), (.long (xx.toInt64))])) (fun _ k => XS.lload X84.here hx rfl (hb hby at_245) rfl  k) ?_
                  refine Go.step (g' := (mkF m 248 #[.val (.int p0), .val (.int p1), .val (.int p2), .val (.int (0 : Int32)), .val (.int xx), .val (.int oo), .val (.int ss), .val (.ref b54), .val (.ref w_UNICODE), .val (.int le84), .val (.long v209d10_s0), .second, .val (.long v231d10_s0), .second, .unset, .unset, .unset, .unset, .unset, .unset, .unset] [(.int (lcmpW (xx.toInt64) v231d10_s0))])) (fun _ k => XS.lcmp X84.here hx rfl (hb hby at_247) rfl k) ?_
                  by_cases hc248d10 : (lcmpW (xx.toInt64) v231d10_s0) < (0 : Int32)
                  · rw [show (f0_242d10 xx oo ss le84 gg84 v231d10_s0) = (f0_253d10 xx oo ss le84 gg84) from if_pos hc248d10]
                    refine Go.step (g' := (mkF m 253 #[.val (.int p0), .val (.int p1), .val (.int p2), .val (.int (0 : Int32)), .val (.int xx), .val (.int oo), .val (.int ss), .val (.ref b54), .val (.ref w_UNICODE), .val (.int le84), .val (.long v209d10_s0), .second, .val (.long v231d10_s0), .second, .unset, .unset, .unset, .unset, .unset, .unset, .unset] [])) (fun _ k => XS.ifYes X84.here hx rfl (pc0 := 248) (pc' := 253) rfl (hb hby at_248) rfl ((if0 _ _).trans (tlt hc248d10).1) (by decide) (by decide) k) ?_
                    refine Go.step (g' := (mkF m 255 #[.val (.int p0), .val (.int p1), .val (.int p2), .val (.int (0 : Int32)), .val (.int xx), .val (.int oo), .val (.int ss), .val (.ref b54), .val (.ref w_UNICODE), .val (.int le84), .val (.long v209d10_s0), .second, .val (.long v231d10_s0), .second, .unset, .unset, .unset, .unset, .unset, .unset, .unset] [(.ref b54)])) (fun _ k => XS.aload X84.here hx rfl (hb hby at_253) rfl rfl  k) ?_
                    refine Go.step (g' := (mkF m 256 #[.val (.int p0), .val (.int p1), .val (.int p2), .val (.int (0 : Int32)), .val (.int xx), .val (.int oo), .val (.int ss), .val (.ref b54), .val (.ref w_UNICODE), .val (.int le84), .val (.long v209d10_s0), .second, .val (.long v231d10_s0), .second, .unset, .unset, .unset, .unset, .unset, .unset, .unset] [(.int (0 : Int32)), (.ref b54)])) (fun _ k => XS.iconst X84.here hx rfl (hb hby at_255) k) ?_
                    refine Go.step (g' := (mkF m 258 #[.val (.int p0), .val (.int p1), .val (.int p2), .val (.int (0 : Int32)), .val (.int xx), .val (.int oo), .val (.int ss), .val (.ref b54), .val (.ref w_UNICODE), .val (.int le84), .val (.long v209d10_s0), .second, .val (.long v231d10_s0), .second, .unset, .unset, .unset, .unset, .unset, .unset, .unset] [(.int oo), (.int (0 : Int32)), (.ref b54)])) (fun _ k => XS.iload X84.here hx rfl (hb hby at_256) rfl  k) ?_
                    refine Go.step (g' := (mkF m 260 #[.val (.int p0), .val (.int p1), .val (.int p2), .val (.int (0 : Int32)), .val (.int xx), .val (.int oo), .val (.int ss), .val (.ref b54), .val (.ref w_UNICODE), .val (.int le84), .val (.long v209d10_s0), .second, .val (.long v231d10_s0), .second, .unset, .unset, .unset, .unset, .unset, .unset, .unset] [(.int le84), (.int oo), (.int (0 : Int32)), (.ref b54)])) (fun _ k => XS.iload X84.here hx rfl (hb hby at_258) rfl  k) ?_
                    refine Go.step (g' := (mkF m 262 #[.val (.int p0), .val (.int p1), .val (.int p2), .val (.int (0 : Int32)), .val (.int xx), .val (.int oo), .val (.int ss), .val (.ref b54), .val (.ref w_UNICODE), .val (.int le84), .val (.long v209d10_s0), .second, .val (.long v231d10_s0), .second, .unset, .unset, .unset, .unset, .unset, .unset, .unset] [(.int ss), (.int le84), (.int oo), (.int (0 : Int32)), (.ref b54)])) (fun _ k => XS.iload X84.here hx rfl (hb hby at_260) rfl  k) ?_
                    obtain ⟨_, _, ⟨T88, L88, k88, n88⟩, -, X88, ⟨Lc88, hQ88, l88, y88, z88⟩, st88⟩ := Jvm.LawKit.callS X84 hx (y := (⟨"com/example/ucs_to_octets/ucstooctets/Utf8EncodePinLaw", "untouched", "([BIIIB)Z"⟩ : MethodName)) hown (mvT hZ (hw _ (List.mem_of_getElem? (i := 19) rfl))) (mvT hZ (hw _ (List.mem_of_getElem? (i := 20) rfl))) (mvT hZ (hw _ (List.mem_of_getElem? (i := 21) rfl))) (mvT hZ (hw _ (List.mem_of_getElem? (i := 22) rfl))) (by decide) (backOf (W := 0) (rm3 l Z a0 hw [] b54 (0 : Int32) oo le84 ss gg84 T84.heap Ac84 (by decide)) hZ (hw _ (List.mem_of_getElem? (i := 22) rfl)) (hw _ (List.mem_of_getElem? (i := 21) rfl)) (by decide) (by decide)) (g := (mkF m 262 #[.val (.int p0), .val (.int p1), .val (.int p2), .val (.int (0 : Int32)), .val (.int xx), .val (.int oo), .val (.int ss), .val (.ref b54), .val (.ref w_UNICODE), .val (.int le84), .val (.long v209d10_s0), .second, .val (.long v231d10_s0), .second, .unset, .unset, .unset, .unset, .unset, .unset, .unset] [(.int ss), (.int le84), (.int oo), (.int (0 : Int32)), (.ref b54)])) rfl (by rw [hml]; rfl) (argsL := [(.ref b54), (.int (0 : Int32)), (.int oo), (.int le84), (.int ss)]) (rest := []) (lenOf pd_3 rfl) rfl (by show 2 * 0 + _ ≤ _; exact Nat.le_of_eq rfl) (hb hby at_262) (fun _ _ => ⟨rfl, rfl, (by decide : ((0 + 1) + 0) + 0 ≤ _), (by decide : ((0 + 9) + 0) + 0 ≤ _)⟩)
                    dsimp only [Pt.U, Pt.locs, Pt.cells, Pt.slots] at X88 l88 y88 z88 st88 hQ88
                    subst l88 y88 z88
                    obtain ⟨rfl, rfl, e88⟩ := hQ88
                    try rw [List.append_nil] at X88
                    refine Go.step (g' := (mkF m 265 #[.val (.int p0), .val (.int p1), .val (.int p2), .val (.int (0 : Int32)), .val (.int xx), .val (.int oo), .val (.int ss), .val (.ref b54), .val (.ref w_UNICODE), .val (.int le84), .val (.long v209d10_s0), .second, .val (.long v231d10_s0), .second, .unset, .unset, .unset, .unset, .unset, .unset, .unset] [(.int (f3_0 (0 : Int32) oo le84 ss gg84))])) st88 ?_
                    have t396d10 : ∀ (T_396d10 : State) (X_396d10 : Stand p l e room_1 s m #[(.int p0), (.int p1), (.int p2)] below meth c T_396d10 lc84 ((0 + 1) + 0) ((0 + 9) + 0)) (e_396d10 : T_396d10.heap = T84.heap) (v396d10_s0 : Int32), Go p e below s room_1.cells room_1.slots (LawQ (some (.int (f0_396d10 xx oo le84 gg84 v396d10_s0))) n0) T_396d10 (mkF m 396 #[.val (.int p0), .val (.int p1), .val (.int p2), .val (.int (0 : Int32)), .val (.int xx), .val (.int oo), .val (.int ss), .val (.ref b54), .val (.ref w_UNICODE), .val (.int le84), .val (.long v209d10_s0), .second, .val (.long v231d10_s0), .second, .unset, .unset, .unset, .unset, .unset, .unset, .unset] [(.int v396d10_s0)]) := by
                      intro T_396d10 X_396d10 e_396d10 v396d10_s0
                      refine Go.step (g' := (mkF m 398 #[.val (.int p0), .val (.int p1), .val (.int p2), .val (.int (0 : Int32)), .val (.int xx), .val (.int oo), .val (.int ss), .val (.ref b54), .val (.ref w_UNICODE), .val (.int le84), .val (.long v209d10_s0), .second, .val (.long v231d10_s0), .second, .val (.int v396d10_s0), .unset, .unset, .unset, .unset, .unset, .unset] [])) (fun _ k => XS.istore X_396d10.here hx rfl (hb hby at_396) rfl (l' := #[.val (.int p0), .val (.int p1), .val (.int p2), .val (.int (0 : Int32)), .val (.int xx), .val (.int oo), .val (.int ss), .val (.ref b54), .val (.ref w_UNICODE), .val (.int le84), .val (.long v209d10_s0), .second, .val (.long v231d10_s0), .second, .val (.int v396d10_s0), .unset, .unset, .unset, .unset, .unset, .unset]) rfl k) ?_
                      refine Go.step (g' := (mkF m 400 #[.val (.int p0), .val (.int p1), .val (.int p2), .val (.int (0 : Int32)), .val (.int xx), .val (.int oo), .val (.int ss), .val (.ref b54), .val (.ref w_UNICODE), .val (.int le84), .val (.long v209d10_s0), .second, .val (.long v231d10_s0), .second, .val (.int v396d10_s0), .unset, .unset, .unset, .unset, .unset, .unset] [(.int v396d10_s0)])) (fun _ k => XS.iload X_396d10.here hx rfl (hb hby at_398) rfl  k) ?_
                      by_cases hc400d10 : v396d10_s0 = (0 : Int32)
                      · rw [show (f0_396d10 xx oo le84 gg84 v396d10_s0) = f0_403d10 from if_pos hc400d10]
                        refine Go.step (g' := (mkF m 403 #[.val (.int p0), .val (.int p1), .val (.int p2), .val (.int (0 : Int32)), .val (.int xx), .val (.int oo), .val (.int ss), .val (.ref b54), .val (.ref w_UNICODE), .val (.int le84), .val (.long v209d10_s0), .second, .val (.long v231d10_s0), .second, .val (.int v396d10_s0), .unset, .unset, .unset, .unset, .unset, .unset] [])) (fun _ k => XS.ifNo X_396d10.here hx rfl (hb hby at_400) rfl ((if0 _ _).trans (teq hc400d10).2) k) ?_
                        refine Go.step (g' := (mkF m 404 #[.val (.int p0), .val (.int p1), .val (.int p2), .val (.int (0 : Int32)), .val (.int xx), .val (.int oo), .val (.int ss), .val (.ref b54), .val (.ref w_UNICODE), .val (.int le84), .val (.long v209d10_s0), .second, .val (.long v231d10_s0), .second, .val (.int v396d10_s0), .unset, .unset, .unset, .unset, .unset, .unset] [(.int (0 : Int32))])) (fun _ k => XS.iconst X_396d10.here hx rfl (hb hby at_403) k) ?_
                        exact Go.retN X_396d10 hx hlk (t := .boolean) Bd.returns (by simp) (hb hby at_404) (by decide) (by decide) ⟨rfl, N84⟩
                      · rw [show (f0_396d10 xx oo le84 gg84 v396d10_s0) = (f0_405d10 xx oo le84 gg84) from if_neg hc400d10]
                        refine Go.step (g' := (mkF m 405 #[.val (.int p0), .val (.int p1), .val (.int p2), .val (.int (0 : Int32)), .val (.int xx), .val (.int oo), .val (.int ss), .val (.ref b54), .val (.ref w_UNICODE), .val (.int le84), .val (.long v209d10_s0), .second, .val (.long v231d10_s0), .second, .val (.int v396d10_s0), .unset, .unset, .unset, .unset, .unset, .unset] [])) (fun _ k => XS.ifYes X_396d10.here hx rfl (pc0 := 400) (pc' := 405) rfl (hb hby at_400) rfl ((if0 _ _).trans (feq hc400d10).2) (by decide) (by decide) k) ?_
                        refine Go.step (g' := (mkF m 407 #[.val (.int p0), .val (.int p1), .val (.int p2), .val (.int (0 : Int32)), .val (.int xx), .val (.int oo), .val (.int ss), .val (.ref b54), .val (.ref w_UNICODE), .val (.int le84), .val (.long v209d10_s0), .second, .val (.long v231d10_s0), .second, .val (.int v396d10_s0), .unset, .unset, .unset, .unset, .unset, .unset] [(.ref b54)])) (fun _ k => XS.aload X_396d10.here hx rfl (hb hby at_405) rfl rfl  k) ?_
                        refine Go.step (g' := (mkF m 409 #[.val (.int p0), .val (.int p1), .val (.int p2), .val (.int (0 : Int32)), .val (.int xx), .val (.int oo), .val (.int ss), .val (.ref b54), .val (.ref w_UNICODE), .val (.int le84), .val (.long v209d10_s0), .second, .val (.long v231d10_s0), .second, .val (.int v396d10_s0), .unset, .unset, .unset, .unset, .unset, .unset] [(.int oo), (.ref b54)])) (fun _ k => XS.iload X_396d10.here hx rfl (hb hby at_407) rfl  k) ?_
                        refine Go.step (g' := (mkF m 410 #[.val (.int p0), .val (.int p1), .val (.int p2), .val (.int (0 : Int32)), .val (.int xx), .val (.int oo), .val (.int ss), .val (.ref b54), .val (.ref w_UNICODE), .val (.int le84), .val (.long v209d10_s0), .second, .val (.long v231d10_s0), .second, .val (.int v396d10_s0), .unset, .unset, .unset, .unset, .unset, .unset] [(.int (gg84 oo.toNatClampNeg))])) (fun _ k => getAB X_396d10 hx hZ e_396d10 Ac84 (j := oo) (own_ix0 ho) (gf := (mkF m 409 #[.val (.int p0), .val (.int p1), .val (.int p2), .val (.int (0 : Int32)), .val (.int xx), .val (.int oo), .val (.int ss), .val (.ref b54), .val (.ref w_UNICODE), .val (.int le84), .val (.long v209d10_s0), .second, .val (.long v231d10_s0), .second, .val (.int v396d10_s0), .unset, .unset, .unset, .unset, .unset, .unset] [(.int oo), (.ref b54)])) rfl rfl (hb hby at_409) k) ?_
                        refine Go.step (g' := (mkF m 413 #[.val (.int p0), .val (.int p1), .val (.int p2), .val (.int (0 : Int32)), .val (.int xx), .val (.int oo), .val (.int ss), .val (.ref b54), .val (.ref w_UNICODE), .val (.int le84), .val (.long v209d10_s0), .second, .val (.long v231d10_s0), .second, .val (.int v396d10_s0), .unset, .unset, .unset, .unset, .unset, .unset] [(.int (255 : Int32)), (.int (gg84 oo.toNatClampNeg))])) (fun _ k => XS.sipush X_396d10.here hx rfl (hb hby at_410) k) ?_
                        refine Go.step (g' := (mkF m 414 #[.val (.int p0), .val (.int p1), .val (.int p2), .val (.int (0 : Int32)), .val (.int xx), .val (.int oo), .val (.int ss), .val (.ref b54), .val (.ref w_UNICODE), .val (.int le84), .val (.long v209d10_s0), .second, .val (.long v231d10_s0), .second, .val (.int v396d10_s0), .unset, .unset, .unset, .unset, .unset, .unset] [(.int ((gg84 oo.toNatClampNeg) &&& (255 : Int32)))])) (fun _ k => XS.iand X_396d10.here hx rfl (hb hby at_413) rfl k) ?_
                        refine Go.step (g' := (mkF m 416 #[.val (.int p0), .val (.int p1), .val (.int p2), .val (.int (0 : Int32)), .val (.int xx), .val (.int oo), .val (.int ss), .val (.ref b54), .val (.ref w_UNICODE), .val (.int le84), .val (.long v209d10_s0), .second, .val (.long v231d10_s0), .second, .val (.int v396d10_s0), .val (.int ((gg84 oo.toNatClampNeg) &&& (255 : Int32))), .unset, .unset, .unset, .unset, .unset] [])) (fun _ k => XS.istore X_396d10.here hx rfl (hb hby at_414) rfl (l' := #[.val (.int p0), .val (.int p1), .val (.int p2), .val (.int (0 : Int32)), .val (.int xx), .val (.int oo), .val (.int ss), .val (.ref b54), .val (.ref w_UNICODE), .val (.int le84), .val (.long v209d10_s0), .second, .val (.long v231d10_s0), .second, .val (.int v396d10_s0), .val (.int ((gg84 oo.toNatClampNeg) &&& (255 : Int32))), .unset, .unset, .unset, .unset, .unset]) rfl k) ?_
                        refine Go.step (g' := (mkF m 418 #[.val (.int p0), .val (.int p1), .val (.int p2), .val (.int (0 : Int32)), .val (.int xx), .val (.int oo), .val (.int ss), .val (.ref b54), .val (.ref w_UNICODE), .val (.int le84), .val (.long v209d10_s0), .second, .val (.long v231d10_s0), .second, .val (.int v396d10_s0), .val (.int ((gg84 oo.toNatClampNeg) &&& (255 : Int32))), .unset, .unset, .unset, .unset, .unset] [(.int le84)])) (fun _ k => XS.iload X_396d10.here hx rfl (hb hby at_416) rfl  k) ?_
                        refine Go.step (g' := (mkF m 419 #[.val (.int p0), .val (.int p1), .val (.int p2), .val (.int (0 : Int32)), .val (.int xx), .val (.int oo), .val (.int ss), .val (.ref b54), .val (.ref w_UNICODE), .val (.int le84), .val (.long v209d10_s0), .second, .val (.long v231d10_s0), .second, .val (.int v396d10_s0), .val (.int ((gg84 oo.toNatClampNeg) &&& (255 : Int32))), .unset, .unset, .unset, .unset, .unset] [(.int (1 : Int32)), (.int le84)])) (fun _ k => XS.iconst X_396d10.here hx rfl (hb hby at_418) k) ?_
                        have t435d10 : ∀ (v435d10_s0 : Int32), Go p e below s room_1.cells room_1.slots (LawQ (some (.int (f0_435d10 xx oo le84 gg84 v435d10_s0))) n0) T_396d10 (mkF m 435 #[.val (.int p0), .val (.int p1), .val (.int p2), .val (.int (0 : Int32)), .val (.int xx), .val (.int oo), .val (.int ss), .val (.ref b54), .val (.ref w_UNICODE), .val (.int le84), .val (.long v209d10_s0), .second, .val (.long v231d10_s0), .second, .val (.int v396d10_s0), .val (.int ((gg84 oo.toNatClampNeg) &&& (255 : Int32))), .unset, .unset, .unset, .unset, .unset] [(.int v435d10_s0)]) := by
                          intro v435d10_s0
                          refine Go.step (g' := (mkF m 437 #[.val (.int p0), .val (.int p1), .val (.int p2), .val (.int (0 : Int32)), .val (.int xx), .val (.int oo), .val (.int ss), .val (.ref b54), .val (.ref w_UNICODE), .val (.int le84), .val (.long v209d10_s0), .second, .val (.long v231d10_s0), .second, .val (.int v396d10_s0), .val (.int ((gg84 oo.toNatClampNeg) &&& (255 : Int32))), .val (.int v435d10_s0), .unset, .unset, .unset, .unset] [])) (fun _ k => XS.istore X_396d10.here hx rfl (hb hby at_435) rfl (l' := #[.val (.int p0), .val (.int p1), .val (.int p2), .val (.int (0 : Int32)), .val (.int xx), .val (.int oo), .val (.int ss), .val (.ref b54), .val (.ref w_UNICODE), .val (.int le84), .val (.long v209d10_s0), .second, .val (.long v231d10_s0), .second, .val (.int v396d10_s0), .val (.int ((gg84 oo.toNatClampNeg) &&& (255 : Int32))), .val (.int v435d10_s0), .unset, .unset, .unset, .unset]) rfl k) ?_
                          refine Go.step (g' := (mkF m 439 #[.val (.int p0), .val (.int p1), .val (.int p2), .val (.int (0 : Int32)), .val (.int xx), .val (.int oo), .val (.int ss), .val (.ref b54), .val (.ref w_UNICODE), .val (.int le84), .val (.long v209d10_s0), .second, .val (.long v231d10_s0), .second, .val (.int v396d10_s0), .val (.int ((gg84 oo.toNatClampNeg) &&& (255 : Int32))), .val (.int v435d10_s0), .unset, .unset, .unset, .unset] [(.int le84)])) (fun _ k => XS.iload X_396d10.here hx rfl (hb hby at_437) rfl  k) ?_
                          refine Go.step (g' := (mkF m 440 #[.val (.int p0), .val (.int p1), .val (.int p2), .val (.int (0 : Int32)), .val (.int xx), .val (.int oo), .val (.int ss), .val (.ref b54), .val (.ref w_UNICODE), .val (.int le84), .val (.long v209d10_s0), .second, .val (.long v231d10_s0), .second, .val (.int v396d10_s0), .val (.int ((gg84 oo.toNatClampNeg) &&& (255 : Int32))), .val (.int v435d10_s0), .unset, .unset, .unset, .unset] [(.int (1 : Int32)), (.int le84)])) (fun _ k => XS.iconst X_396d10.here hx rfl (hb hby at_439) k) ?_
                          have t456d10 : ∀ (v456d10_s0 : Int32), Go p e below s room_1.cells room_1.slots (LawQ (some (.int (f0_456d10 xx oo le84 gg84 v435d10_s0 v456d10_s0))) n0) T_396d10 (mkF m 456 #[.val (.int p0), .val (.int p1), .val (.int p2), .val (.int (0 : Int32)), .val (.int xx), .val (.int oo), .val (.int ss), .val (.ref b54), .val (.ref w_UNICODE), .val (.int le84), .val (.long v209d10_s0), .second, .val (.long v231d10_s0), .second, .val (.int v396d10_s0), .val (.int ((gg84 oo.toNatClampNeg) &&& (255 : Int32))), .val (.int v435d10_s0), .unset, .unset, .unset, .unset] [(.int v456d10_s0)]) := by
                            intro v456d10_s0
                            refine Go.step (g' := (mkF m 458 #[.val (.int p0), .val (.int p1), .val (.int p2), .val (.int (0 : Int32)), .val (.int xx), .val (.int oo), .val (.int ss), .val (.ref b54), .val (.ref w_UNICODE), .val (.int le84), .val (.long v209d10_s0), .second, .val (.long v231d10_s0), .second, .val (.int v396d10_s0), .val (.int ((gg84 oo.toNatClampNeg) &&& (255 : Int32))), .val (.int v435d10_s0), .val (.int v456d10_s0), .unset, .unset, .unset] [])) (fun _ k => XS.istore X_396d10.here hx rfl (hb hby at_456) rfl (l' := #[.val (.int p0), .val (.int p1), .val (.int p2), .val (.int (0 : Int32)), .val (.int xx), .val (.int oo), .val (.int ss), .val (.ref b54), .val (.ref w_UNICODE), .val (.int le84), .val (.long v209d10_s0), .second, .val (.long v231d10_s0), .second, .val (.int v396d10_s0), .val (.int ((gg84 oo.toNatClampNeg) &&& (255 : Int32))), .val (.int v435d10_s0), .val (.int v456d10_s0), .unset, .unset, .unset]) rfl k) ?_
                            refine Go.step (g' := (mkF m 460 #[.val (.int p0), .val (.int p1), .val (.int p2), .val (.int (0 : Int32)), .val (.int xx), .val (.int oo), .val (.int ss), .val (.ref b54), .val (.ref w_UNICODE), .val (.int le84), .val (.long v209d10_s0), .second, .val (.long v231d10_s0), .second, .val (.int v396d10_s0), .val (.int ((gg84 oo.toNatClampNeg) &&& (255 : Int32))), .val (.int v435d10_s0), .val (.int v456d10_s0), .unset, .unset, .unset] [(.int ((gg84 oo.toNatClampNeg) &&& (255 : Int32)))])) (fun _ k => XS.iload X_396d10.here hx rfl (hb hby at_458) rfl  k) ?_
                            refine Go.step (g' := (mkF m 462 #[.val (.int p0), .val (.int p1), .val (.int p2), .val (.int (0 : Int32)), .val (.int xx), .val (.int oo), .val (.int ss), .val (.ref b54), .val (.ref w_UNICODE), .val (.int le84), .val (.long v209d10_s0), .second, .val (.long v231d10_s0), .second, .val (.int v396d10_s0), .val (.int ((gg84 oo.toNatClampNeg) &&& (255 : Int32))), .val (.int v435d10_s0), .val (.int v456d10_s0), .unset, .unset, .unset] [(.int v435d10_s0), (.int ((gg84 oo.toNatClampNeg) &&& (255 : Int32)))])) (fun _ k => XS.iload X_396d10.here hx rfl (hb hby at_460) rfl  k) ?_
                            refine Go.step (g' := (mkF m 463 #[.val (.int p0), .val (.int p1), .val (.int p2), .val (.int (0 : Int32)), .val (.int xx), .val (.int oo), .val (.int ss), .val (.ref b54), .val (.ref w_UNICODE), .val (.int le84), .val (.long v209d10_s0), .second, .val (.long v231d10_s0), .second, .val (.int v396d10_s0), .val (.int ((gg84 oo.toNatClampNeg) &&& (255 : Int32))), .val (.int v435d10_s0), .val (.int v456d10_s0), .unset, .unset, .unset] [(.int (-1 : Int32)), (.int v435d10_s0), (.int ((gg84 oo.toNatClampNeg) &&& (255 : Int32)))])) (fun _ k => XS.iconst X_396d10.here hx rfl (hb hby at_462) k) ?_
                            refine Go.step (g' := (mkF m 464 #[.val (.int p0), .val (.int p1), .val (.int p2), .val (.int (0 : Int32)), .val (.int xx), .val (.int oo), .val (.int ss), .val (.ref b54), .val (.ref w_UNICODE), .val (.int le84), .val (.long v209d10_s0), .second, .val (.long v231d10_s0), .second, .val (.int v396d10_s0), .val (.int ((gg84 oo.toNatClampNeg) &&& (255 : Int32))), .val (.int v435d10_s0), .val (.int v456d10_s0), .unset, .unset, .unset] [(.int (v435d10_s0 ^^^ (-1 : Int32))), (.int ((gg84 oo.toNatClampNeg) &&& (255 : Int32)))])) (fun _ k => XS.ixor X_396d10.here hx rfl (hb hby at_463) rfl k) ?_
                            refine Go.step (g' := (mkF m 465 #[.val (.int p0), .val (.int p1), .val (.int p2), .val (.int (0 : Int32)), .val (.int xx), .val (.int oo), .val (.int ss), .val (.ref b54), .val (.ref w_UNICODE), .val (.int le84), .val (.long v209d10_s0), .second, .val (.long v231d10_s0), .second, .val (.int v396d10_s0), .val (.int ((gg84 oo.toNatClampNeg) &&& (255 : Int32))), .val (.int v435d10_s0), .val (.int v456d10_s0), .unset, .unset, .unset] [(.int (((gg84 oo.toNatClampNeg) &&& (255 : Int32)) &&& (v435d10_s0 ^^^ (-1 : Int32))))])) (fun _ k => XS.iand X_396d10.here hx rfl (hb hby at_464) rfl k) ?_
                            refine Go.step (g' := (mkF m 468 #[.val (.int p0), .val (.int p1), .val (.int p2), .val (.int (0 : Int32)), .val (.int xx), .val (.int oo), .val (.int ss), .val (.ref b54), .val (.ref w_UNICODE), .val (.int le84), .val (.long v209d10_s0), .second, .val (.long v231d10_s0), .second, .val (.int v396d10_s0), .val (.int ((gg84 oo.toNatClampNeg) &&& (255 : Int32))), .val (.int v435d10_s0), .val (.int v456d10_s0), .unset, .unset, .unset] [(.int (255 : Int32)), (.int (((gg84 oo.toNatClampNeg) &&& (255 : Int32)) &&& (v435d10_s0 ^^^ (-1 : Int32))))])) (fun _ k => XS.sipush X_396d10.here hx rfl (hb hby at_465) k) ?_
                            refine Go.step (g' := (mkF m 469 #[.val (.int p0), .val (.int p1), .val (.int p2), .val (.int (0 : Int32)), .val (.int xx), .val (.int oo), .val (.int ss), .val (.ref b54), .val (.ref w_UNICODE), .val (.int le84), .val (.long v209d10_s0), .second, .val (.long v231d10_s0), .second, .val (.int v396d10_s0), .val (.int ((gg84 oo.toNatClampNeg) &&& (255 : Int32))), .val (.int v435d10_s0), .val (.int v456d10_s0), .unset, .unset, .unset] [(.int ((((gg84 oo.toNatClampNeg) &&& (255 : Int32)) &&& (v435d10_s0 ^^^ (-1 : Int32))) &&& (255 : Int32)))])) (fun _ k => XS.iand X_396d10.here hx rfl (hb hby at_468) rfl k) ?_
                            refine Go.step (g' := (mkF m 471 #[.val (.int p0), .val (.int p1), .val (.int p2), .val (.int (0 : Int32)), .val (.int xx), .val (.int oo), .val (.int ss), .val (.ref b54), .val (.ref w_UNICODE), .val (.int le84), .val (.long v209d10_s0), .second, .val (.long v231d10_s0), .second, .val (.int v396d10_s0), .val (.int ((gg84 oo.toNatClampNeg) &&& (255 : Int32))), .val (.int v435d10_s0), .val (.int v456d10_s0), .unset, .unset, .unset] [(.int v456d10_s0), (.int ((((gg84 oo.toNatClampNeg) &&& (255 : Int32)) &&& (v435d10_s0 ^^^ (-1 : Int32))) &&& (255 : Int32)))])) (fun _ k => XS.iload X_396d10.here hx rfl (hb hby at_469) rfl  k) ?_
                            by_cases hc471d10 : ((((gg84 oo.toNatClampNeg) &&& (255 : Int32)) &&& (v435d10_s0 ^^^ (-1 : Int32))) &&& (255 : Int32)) = v456d10_s0
                            · rw [show (f0_456d10 xx oo le84 gg84 v435d10_s0 v456d10_s0) = (f0_476d10 xx oo le84 gg84 v435d10_s0) from if_pos hc471d10]
                              refine Go.step (g' := (mkF m 476 #[.val (.int p0), .val (.int p1), .val (.int p2), .val (.int (0 : Int32)), .val (.int xx), .val (.int oo), .val (.int ss), .val (.ref b54), .val (.ref w_UNICODE), .val (.int le84), .val (.long v209d10_s0), .second, .val (.long v231d10_s0), .second, .val (.int v396d10_s0), .val (.int ((gg84 oo.toNatClampNeg) &&& (255 : Int32))), .val (.int v435d10_s0), .val (.int v456d10_s0), .unset, .unset, .unset] [])) (fun _ k => XS.icmpYes X_396d10.here hx rfl (pc0 := 471) (pc' := 476) rfl (hb hby at_471) rfl (teq hc471d10).1 (by decide) (by decide) k) ?_
                              refine Go.step (g' := (mkF m 478 #[.val (.int p0), .val (.int p1), .val (.int p2), .val (.int (0 : Int32)), .val (.int xx), .val (.int oo), .val (.int ss), .val (.ref b54), .val (.ref w_UNICODE), .val (.int le84), .val (.long v209d10_s0), .second, .val (.long v231d10_s0), .second, .val (.int v396d10_s0), .val (.int ((gg84 oo.toNatClampNeg) &&& (255 : Int32))), .val (.int v435d10_s0), .val (.int v456d10_s0), .unset, .unset, .unset] [(.ref b54)])) (fun _ k => XS.aload X_396d10.here hx rfl (hb hby at_476) rfl rfl  k) ?_
                              refine Go.step (g' := (mkF m 480 #[.val (.int p0), .val (.int p1), .val (.int p2), .val (.int (0 : Int32)), .val (.int xx), .val (.int oo), .val (.int ss), .val (.ref b54), .val (.ref w_UNICODE), .val (.int le84), .val (.long v209d10_s0), .second, .val (.long v231d10_s0), .second, .val (.int v396d10_s0), .val (.int ((gg84 oo.toNatClampNeg) &&& (255 : Int32))), .val (.int v435d10_s0), .val (.int v456d10_s0), .unset, .unset, .unset] [(.int oo), (.ref b54)])) (fun _ k => XS.iload X_396d10.here hx rfl (hb hby at_478) rfl  k) ?_
                              refine Go.step (g' := (mkF m 482 #[.val (.int p0), .val (.int p1), .val (.int p2), .val (.int (0 : Int32)), .val (.int xx), .val (.int oo), .val (.int ss), .val (.ref b54), .val (.ref w_UNICODE), .val (.int le84), .val (.long v209d10_s0), .second, .val (.long v231d10_s0), .second, .val (.int v396d10_s0), .val (.int ((gg84 oo.toNatClampNeg) &&& (255 : Int32))), .val (.int v435d10_s0), .val (.int v456d10_s0), .unset, .unset, .unset] [(.int le84), (.int oo), (.ref b54)])) (fun _ k => XS.iload X_396d10.here hx rfl (hb hby at_480) rfl  k) ?_
                              refine Go.step (g' := (mkF m 483 #[.val (.int p0), .val (.int p1), .val (.int p2), .val (.int (0 : Int32)), .val (.int xx), .val (.int oo), .val (.int ss), .val (.ref b54), .val (.ref w_UNICODE), .val (.int le84), .val (.long v209d10_s0), .second, .val (.long v231d10_s0), .second, .val (.int v396d10_s0), .val (.int ((gg84 oo.toNatClampNeg) &&& (255 : Int32))), .val (.int v435d10_s0), .val (.int v456d10_s0), .unset, .unset, .unset] [(.int (1 : Int32)), (.int le84), (.int oo), (.ref b54)])) (fun _ k => XS.iconst X_396d10.here hx rfl (hb hby at_482) k) ?_
                              obtain ⟨_, _, ⟨T97, L97, k97, n97⟩, -, X97, ⟨Lc97, hQ97, l97, y97, z97⟩, st97⟩ := Jvm.LawKit.callS X_396d10 hx (y := (⟨"com/example/ucs_to_octets/ucstooctets/Utf8EncodePinLaw", "tailOk", "([BIII)Z"⟩ : MethodName)) hown (mvT hZ (hw _ (List.mem_of_getElem? (i := 23) rfl))) (mvT hZ (hw _ (List.mem_of_getElem? (i := 24) rfl))) (mvT hZ (hw _ (List.mem_of_getElem? (i := 21) rfl))) (mvT hZ (hw _ (List.mem_of_getElem? (i := 25) rfl))) (by decide) (backOf (W := 0) (rm4 l Z a0 hw [] b54 oo le84 (1 : Int32) gg84 T84.heap Ac84 (own_ix ho 1)) hZ (hw _ (List.mem_of_getElem? (i := 25) rfl)) (hw _ (List.mem_of_getElem? (i := 21) rfl)) (by decide) (by decide)) (g := (mkF m 483 #[.val (.int p0), .val (.int p1), .val (.int p2), .val (.int (0 : Int32)), .val (.int xx), .val (.int oo), .val (.int ss), .val (.ref b54), .val (.ref w_UNICODE), .val (.int le84), .val (.long v209d10_s0), .second, .val (.long v231d10_s0), .second, .val (.int v396d10_s0), .val (.int ((gg84 oo.toNatClampNeg) &&& (255 : Int32))), .val (.int v435d10_s0), .val (.int v456d10_s0), .unset, .unset, .unset] [(.int (1 : Int32)), (.int le84), (.int oo), (.ref b54)])) rfl (by rw [hml]; rfl) (argsL := [(.ref b54), (.int oo), (.int le84), (.int (1 : Int32))]) (rest := []) (lenOf pd_4 rfl) rfl (by show 2 * 0 + _ ≤ _; exact Nat.le_of_eq rfl) (hb hby at_483) (fun _ _ => ⟨rfl, e_396d10, (by decide : ((0 + 1) + 0) + 0 ≤ _), (by decide : ((0 + 9) + 0) + 0 ≤ _)⟩)
                              dsimp only [Pt.U, Pt.locs, Pt.cells, Pt.slots] at X97 l97 y97 z97 st97 hQ97
                              subst l97 y97 z97
                              obtain ⟨rfl, rfl, e97⟩ := hQ97
                              try rw [List.append_nil] at X97
                              refine Go.step (g' := (mkF m 486 #[.val (.int p0), .val (.int p1), .val (.int p2), .val (.int (0 : Int32)), .val (.int xx), .val (.int oo), .val (.int ss), .val (.ref b54), .val (.ref w_UNICODE), .val (.int le84), .val (.long v209d10_s0), .second, .val (.long v231d10_s0), .second, .val (.int v396d10_s0), .val (.int ((gg84 oo.toNatClampNeg) &&& (255 : Int32))), .val (.int v435d10_s0), .val (.int v456d10_s0), .unset, .unset, .unset] [(.int (f4_0 oo le84 (1 : Int32) gg84))])) st97 ?_
                              have t546d10 : ∀ (T_546d10 : State) (X_546d10 : Stand p l e room_1 s m #[(.int p0), (.int p1), (.int p2)] below meth c T_546d10 lc84 ((0 + 1) + 0) ((0 + 9) + 0)) (e_546d10 : T_546d10.heap = T84.heap) (v546d10_s0 : Int32), Go p e below s room_1.cells room_1.slots (LawQ (some (.int (f0_546d10 xx oo le84 gg84 v435d10_s0 v546d10_s0))) n0) T_546d10 (mkF m 546 #[.val (.int p0), .val (.int p1), .val (.int p2), .val (.int (0 : Int32)), .val (.int xx), .val (.int oo), .val (.int ss), .val (.ref b54), .val (.ref w_UNICODE), .val (.int le84), .val (.long v209d10_s0), .second, .val (.long v231d10_s0), .second, .val (.int v396d10_s0), .val (.int ((gg84 oo.toNatClampNeg) &&& (255 : Int32))), .val (.int v435d10_s0), .val (.int v456d10_s0), .unset, .unset, .unset] [(.int v546d10_s0)]) := by
                                intro T_546d10 X_546d10 e_546d10 v546d10_s0
                                refine Go.step (g' := (mkF m 548 #[.val (.int p0), .val (.int p1), .val (.int p2), .val (.int (0 : Int32)), .val (.int xx), .val (.int oo), .val (.int ss), .val (.ref b54), .val (.ref w_UNICODE), .val (.int le84), .val (.long v209d10_s0), .second, .val (.long v231d10_s0), .second, .val (.int v396d10_s0), .val (.int ((gg84 oo.toNatClampNeg) &&& (255 : Int32))), .val (.int v435d10_s0), .val (.int v456d10_s0), .val (.int v546d10_s0), .unset, .unset] [])) (fun _ k => XS.istore X_546d10.here hx rfl (hb hby at_546) rfl (l' := #[.val (.int p0), .val (.int p1), .val (.int p2), .val (.int (0 : Int32)), .val (.int xx), .val (.int oo), .val (.int ss), .val (.ref b54), .val (.ref w_UNICODE), .val (.int le84), .val (.long v209d10_s0), .second, .val (.long v231d10_s0), .second, .val (.int v396d10_s0), .val (.int ((gg84 oo.toNatClampNeg) &&& (255 : Int32))), .val (.int v435d10_s0), .val (.int v456d10_s0), .val (.int v546d10_s0), .unset, .unset]) rfl k) ?_
                                refine Go.step (g' := (mkF m 550 #[.val (.int p0), .val (.int p1), .val (.int p2), .val (.int (0 : Int32)), .val (.int xx), .val (.int oo), .val (.int ss), .val (.ref b54), .val (.ref w_UNICODE), .val (.int le84), .val (.long v209d10_s0), .second, .val (.long v231d10_s0), .second, .val (.int v396d10_s0), .val (.int ((gg84 oo.toNatClampNeg) &&& (255 : Int32))), .val (.int v435d10_s0), .val (.int v456d10_s0), .val (.int v546d10_s0), .unset, .unset] [(.int v546d10_s0)])) (fun _ k => XS.iload X_546d10.here hx rfl (hb hby at_548) rfl  k) ?_
                                by_cases hc550d10 : v546d10_s0 = (0 : Int32)
                                · rw [show (f0_546d10 xx oo le84 gg84 v435d10_s0 v546d10_s0) = f0_553d10 from if_pos hc550d10]
                                  refine Go.step (g' := (mkF m 553 #[.val (.int p0), .val (.int p1), .val (.int p2), .val (.int (0 : Int32)), .val (.int xx), .val (.int oo), .val (.int ss), .val (.ref b54), .val (.ref w_UNICODE), .val (.int le84), .val (.long v209d10_s0), .second, .val (.long v231d10_s0), .second, .val (.int v396d10_s0), .val (.int ((gg84 oo.toNatClampNeg) &&& (255 : Int32))), .val (.int v435d10_s0), .val (.int v456d10_s0), .val (.int v546d10_s0), .unset, .unset] [])) (fun _ k => XS.ifNo X_546d10.here hx rfl (hb hby at_550) rfl ((if0 _ _).trans (teq hc550d10).2) k) ?_
                                  refine Go.step (g' := (mkF m 554 #[.val (.int p0), .val (.int p1), .val (.int p2), .val (.int (0 : Int32)), .val (.int xx), .val (.int oo), .val (.int ss), .val (.ref b54), .val (.ref w_UNICODE), .val (.int le84), .val (.long v209d10_s0), .second, .val (.long v231d10_s0), .second, .val (.int v396d10_s0), .val (.int ((gg84 oo.toNatClampNeg) &&& (255 : Int32))), .val (.int v435d10_s0), .val (.int v456d10_s0), .val (.int v546d10_s0), .unset, .unset] [(.int (0 : Int32))])) (fun _ k => XS.iconst X_546d10.here hx rfl (hb hby at_553) k) ?_
                                  exact Go.retN X_546d10 hx hlk (t := .boolean) Bd.returns (by simp) (hb hby at_554) (by decide) (by decide) ⟨rfl, N84⟩
                                · rw [show (f0_546d10 xx oo le84 gg84 v435d10_s0 v546d10_s0) = (f0_555d10 xx oo le84 gg84 v435d10_s0) from if_neg hc550d10]
                                  refine Go.step (g' := (mkF m 555 #[.val (.int p0), .val (.int p1), .val (.int p2), .val (.int (0 : Int32)), .val (.int xx), .val (.int oo), .val (.int ss), .val (.ref b54), .val (.ref w_UNICODE), .val (.int le84), .val (.long v209d10_s0), .second, .val (.long v231d10_s0), .second, .val (.int v396d10_s0), .val (.int ((gg84 oo.toNatClampNeg) &&& (255 : Int32))), .val (.int v435d10_s0), .val (.int v456d10_s0), .val (.int v546d10_s0), .unset, .unset] [])) (fun _ k => XS.ifYes X_546d10.here hx rfl (pc0 := 550) (pc' := 555) rfl (hb hby at_550) rfl ((if0 _ _).trans (feq hc550d10).2) (by decide) (by decide) k) ?_
                                  refine Go.step (g' := (mkF m 557 #[.val (.int p0), .val (.int p1), .val (.int p2), .val (.int (0 : Int32)), .val (.int xx), .val (.int oo), .val (.int ss), .val (.ref b54), .val (.ref w_UNICODE), .val (.int le84), .val (.long v209d10_s0), .second, .val (.long v231d10_s0), .second, .val (.int v396d10_s0), .val (.int ((gg84 oo.toNatClampNeg) &&& (255 : Int32))), .val (.int v435d10_s0), .val (.int v456d10_s0), .val (.int v546d10_s0), .unset, .unset] [(.int ((gg84 oo.toNatClampNeg) &&& (255 : Int32)))])) (fun _ k => XS.iload X_546d10.here hx rfl (hb hby at_555) rfl  k) ?_
                                  refine Go.step (g' := (mkF m 559 #[.val (.int p0), .val (.int p1), .val (.int p2), .val (.int (0 : Int32)), .val (.int xx), .val (.int oo), .val (.int ss), .val (.ref b54), .val (.ref w_UNICODE), .val (.int le84), .val (.long v209d10_s0), .second, .val (.long v231d10_s0), .second, .val (.int v396d10_s0), .val (.int ((gg84 oo.toNatClampNeg) &&& (255 : Int32))), .val (.int v435d10_s0), .val (.int v456d10_s0), .val (.int v546d10_s0), .unset, .unset] [(.int v435d10_s0), (.int ((gg84 oo.toNatClampNeg) &&& (255 : Int32)))])) (fun _ k => XS.iload X_546d10.here hx rfl (hb hby at_557) rfl  k) ?_
                                  refine Go.step (g' := (mkF m 560 #[.val (.int p0), .val (.int p1), .val (.int p2), .val (.int (0 : Int32)), .val (.int xx), .val (.int oo), .val (.int ss), .val (.ref b54), .val (.ref w_UNICODE), .val (.int le84), .val (.long v209d10_s0), .second, .val (.long v231d10_s0), .second, .val (.int v396d10_s0), .val (.int ((gg84 oo.toNatClampNeg) &&& (255 : Int32))), .val (.int v435d10_s0), .val (.int v456d10_s0), .val (.int v546d10_s0), .unset, .unset] [(.int (((gg84 oo.toNatClampNeg) &&& (255 : Int32)) &&& v435d10_s0))])) (fun _ k => XS.iand X_546d10.here hx rfl (hb hby at_559) rfl k) ?_
                                  refine Go.step (g' := (mkF m 561 #[.val (.int p0), .val (.int p1), .val (.int p2), .val (.int (0 : Int32)), .val (.int xx), .val (.int oo), .val (.int ss), .val (.ref b54), .val (.ref w_UNICODE), .val (.int le84), .val (.long v209d10_s0), .second, .val (.long v231d10_s0), .second, .val (.int v396d10_s0), .val (.int ((gg84 oo.toNatClampNeg) &&& (255 : Int32))), .val (.int v435d10_s0), .val (.int v456d10_s0), .val (.int v546d10_s0), .unset, .unset] [(.long ((((gg84 oo.toNatClampNeg) &&& (255 : Int32)) &&& v435d10_s0).toInt64))])) (fun _ k => XS.i2l X_546d10.here hx rfl (hb hby at_560) rfl k) ?_
                                  refine Go.step (g' := (mkF m 563 #[.val (.int p0), .val (.int p1), .val (.int p2), .val (.int (0 : Int32)), .val (.int xx), .val (.int oo), .val (.int ss), .val (.ref b54), .val (.ref w_UNICODE), .val (.int le84), .val (.long v209d10_s0), .second, .val (.long v231d10_s0), .second, .val (.int v396d10_s0), .val (.int ((gg84 oo.toNatClampNeg) &&& (255 : Int32))), .val (.int v435d10_s0), .val (.int v456d10_s0), .val (.int v546d10_s0), .val (.long ((((gg84 oo.toNatClampNeg) &&& (255 : Int32)) &&& v435d10_s0).toInt64)), .second] [])) (fun _ k => XS.lstore X_546d10.here hx rfl (hb hby at_561) rfl (l' := #[.val (.int p0), .val (.int p1), .val (.int p2), .val (.int (0 : Int32)), .val (.int xx), .val (.int oo), .val (.int ss), .val (.ref b54), .val (.ref w_UNICODE), .val (.int le84), .val (.long v209d10_s0), .second, .val (.long v231d10_s0), .second, .val (.int v396d10_s0), .val (.int ((gg84 oo.toNatClampNeg) &&& (255 : Int32))), .val (.int v435d10_s0), .val (.int v456d10_s0), .val (.int v546d10_s0), .val (.long ((((gg84 oo.toNatClampNeg) &&& (255 : Int32)) &&& v435d10_s0).toInt64)), .second]) rfl k) ?_
                                  refine Go.step (g' := (mkF m 565 #[.val (.int p0), .val (.int p1), .val (.int p2), .val (.int (0 : Int32)), .val (.int xx), .val (.int oo), .val (.int ss), .val (.ref b54), .val (.ref w_UNICODE), .val (.int le84), .val (.long v209d10_s0), .second, .val (.long v231d10_s0), .second, .val (.int v396d10_s0), .val (.int ((gg84 oo.toNatClampNeg) &&& (255 : Int32))), .val (.int v435d10_s0), .val (.int v456d10_s0), .val (.int v546d10_s0), .val (.long ((((gg84 oo.toNatClampNeg) &&& (255 : Int32)) &&& v435d10_s0).toInt64)), .second] [(.long ((((gg84 oo.toNatClampNeg) &&& (255 : Int32)) &&& v435d10_s0).toInt64))])) (fun _ k => XS.lload X_546d10.here hx rfl (hb hby at_563) rfl  k) ?_
                                  refine Go.step (g' := (mkF m 567 #[.val (.int p0), .val (.int p1), .val (.int p2), .val (.int (0 : Int32)), .val (.int xx), .val (.int oo), .val (.int ss), .val (.ref b54), .val (.ref w_UNICODE), .val (.int le84), .val (.long v209d10_s0), .second, .val (.long v231d10_s0), .second, .val (.int v396d10_s0), .val (.int ((gg84 oo.toNatClampNeg) &&& (255 : Int32))), .val (.int v435d10_s0), .val (.int v456d10_s0), .val (.int v546d10_s0), .val (.long ((((gg84 oo.toNatClampNeg) &&& (255 : Int32)) &&& v435d10_s0).toInt64)), .second] [(.ref b54), (.long ((((gg84 oo.toNatClampNeg) &&& (255 : Int32)) &&& v435d10_s0).toInt64))])) (fun _ k => XS.aload X_546d10.here hx rfl (hb hby at_565) rfl rfl  k) ?_
                                  refine Go.step (g' := (mkF m 569 #[.val (.int p0), .val (.int p1), .val (.int p2), .val (.int (0 : Int32)), .val (.int xx), .val (.int oo), .val (.int ss), .val (.ref b54), .val (.ref w_UNICODE), .val (.int le84), .val (.long v209d10_s0), .second, .val (.long v231d10_s0), .second, .val (.int v396d10_s0), .val (.int ((gg84 oo.toNatClampNeg) &&& (255 : Int32))), .val (.int v435d10_s0), .val (.int v456d10_s0), .val (.int v546d10_s0), .val (.long ((((gg84 oo.toNatClampNeg) &&& (255 : Int32)) &&& v435d10_s0).toInt64)), .second] [(.int oo), (.ref b54), (.long ((((gg84 oo.toNatClampNeg) &&& (255 : Int32)) &&& v435d10_s0).toInt64))])) (fun _ k => XS.iload X_546d10.here hx rfl (hb hby at_567) rfl  k) ?_
                                  refine Go.step (g' := (mkF m 571 #[.val (.int p0), .val (.int p1), .val (.int p2), .val (.int (0 : Int32)), .val (.int xx), .val (.int oo), .val (.int ss), .val (.ref b54), .val (.ref w_UNICODE), .val (.int le84), .val (.long v209d10_s0), .second, .val (.long v231d10_s0), .second, .val (.int v396d10_s0), .val (.int ((gg84 oo.toNatClampNeg) &&& (255 : Int32))), .val (.int v435d10_s0), .val (.int v456d10_s0), .val (.int v546d10_s0), .val (.long ((((gg84 oo.toNatClampNeg) &&& (255 : Int32)) &&& v435d10_s0).toInt64)), .second] [(.int le84), (.int oo), (.ref b54), (.long ((((gg84 oo.toNatClampNeg) &&& (255 : Int32)) &&& v435d10_s0).toInt64))])) (fun _ k => XS.iload X_546d10.here hx rfl (hb hby at_569) rfl  k) ?_
                                  refine Go.step (g' := (mkF m 572 #[.val (.int p0), .val (.int p1), .val (.int p2), .val (.int (0 : Int32)), .val (.int xx), .val (.int oo), .val (.int ss), .val (.ref b54), .val (.ref w_UNICODE), .val (.int le84), .val (.long v209d10_s0), .second, .val (.long v231d10_s0), .second, .val (.int v396d10_s0), .val (.int ((gg84 oo.toNatClampNeg) &&& (255 : Int32))), .val (.int v435d10_s0), .val (.int v456d10_s0), .val (.int v546d10_s0), .val (.long ((((gg84 oo.toNatClampNeg) &&& (255 : Int32)) &&& v435d10_s0).toInt64)), .second] [(.int (1 : Int32)), (.int le84), (.int oo), (.ref b54), (.long ((((gg84 oo.toNatClampNeg) &&& (255 : Int32)) &&& v435d10_s0).toInt64))])) (fun _ k => XS.iconst X_546d10.here hx rfl (hb hby at_571) k) ?_
                                  obtain ⟨_, _, ⟨T102, L102, k102, n102⟩, -, X102, ⟨Lc102, hQ102, l102, y102, z102⟩, st102⟩ := Jvm.LawKit.callS X_546d10 hx (y := (⟨"com/example/ucs_to_octets/ucstooctets/Utf8EncodePinLaw", "add", "(J[BIII)J"⟩ : MethodName)) hown (mvT hZ (hw _ (List.mem_of_getElem? (i := 26) rfl))) (mvT hZ (hw _ (List.mem_of_getElem? (i := 27) rfl))) (mvT hZ (hw _ (List.mem_of_getElem? (i := 21) rfl))) (mvT hZ (hw _ (List.mem_of_getElem? (i := 28) rfl))) (by decide) (backOf (W := 0) (rm5 l Z a0 hw [] ((((gg84 oo.toNatClampNeg) &&& (255 : Int32)) &&& v435d10_s0).toInt64) b54 oo le84 (1 : Int32) gg84 T84.heap Ac84 (own_ix ho 1)) hZ (hw _ (List.mem_of_getElem? (i := 28) rfl)) (hw _ (List.mem_of_getElem? (i := 21) rfl)) (by decide) (by decide)) (g := (mkF m 572 #[.val (.int p0), .val (.int p1), .val (.int p2), .val (.int (0 : Int32)), .val (.int xx), .val (.int oo), .val (.int ss), .val (.ref b54), .val (.ref w_UNICODE), .val (.int le84), .val (.long v209d10_s0), .second, .val (.long v231d10_s0), .second, .val (.int v396d10_s0), .val (.int ((gg84 oo.toNatClampNeg) &&& (255 : Int32))), .val (.int v435d10_s0), .val (.int v456d10_s0), .val (.int v546d10_s0), .val (.long ((((gg84 oo.toNatClampNeg) &&& (255 : Int32)) &&& v435d10_s0).toInt64)), .second] [(.int (1 : Int32)), (.int le84), (.int oo), (.ref b54), (.long ((((gg84 oo.toNatClampNeg) &&& (255 : Int32)) &&& v435d10_s0).toInt64))])) rfl (by rw [hml]; rfl) (argsL := [(.long ((((gg84 oo.toNatClampNeg) &&& (255 : Int32)) &&& v435d10_s0).toInt64)), (.ref b54), (.int oo), (.int le84), (.int (1 : Int32))]) (rest := []) (lenOf pd_5 rfl) rfl (by show 2 * 0 + _ ≤ _; exact Nat.le_of_eq rfl) (hb hby at_572) (fun _ _ => ⟨rfl, e_546d10, (by decide : ((0 + 1) + 0) + 0 ≤ _), (by decide : ((0 + 9) + 0) + 0 ≤ _)⟩)
                                  dsimp only [Pt.U, Pt.locs, Pt.cells, Pt.slots] at X102 l102 y102 z102 st102 hQ102
                                  subst l102 y102 z102
                                  obtain ⟨rfl, rfl, e102⟩ := hQ102
                                  try rw [List.append_nil] at X102
                                  refine Go.step (g' := (mkF m 575 #[.val (.int p0), .val (.int p1), .val (.int p2), .val (.int (0 : Int32)), .val (.int xx), .val (.int oo), .val (.int ss), .val (.ref b54), .val (.ref w_UNICODE), .val (.int le84), .val (.long v209d10_s0), .second, .val (.long v231d10_s0), .second, .val (.int v396d10_s0), .val (.int ((gg84 oo.toNatClampNeg) &&& (255 : Int32))), .val (.int v435d10_s0), .val (.int v456d10_s0), .val (.int v546d10_s0), .val (.long ((((gg84 oo.toNatClampNeg) &&& (255 : Int32)) &&& v435d10_s0).toInt64)), .second] [(.long (f5_0 ((((gg84 oo.toNatClampNeg) &&& (255 : Int32)) &&& v435d10_s0).toInt64) oo le84 (1 : Int32) gg84))])) st102 ?_
                                  refine Go.step (g' := (mkF m 577 #[.val (.int p0), .val (.int p1), .val (.int p2), .val (.int (0 : Int32)), .val (.int xx), .val (.int oo), .val (.int ss), .val (.ref b54), .val (.ref w_UNICODE), .val (.int le84), .val (.long v209d10_s0), .second, .val (.long v231d10_s0), .second, .val (.int v396d10_s0), .val (.int ((gg84 oo.toNatClampNeg) &&& (255 : Int32))), .val (.int v435d10_s0), .val (.int v456d10_s0), .val (.int v546d10_s0), .val (.long (f5_0 ((((gg84 oo.toNatClampNeg) &&& (255 : Int32)) &&& v435d10_s0).toInt64) oo le84 (1 : Int32) gg84)), .second] [])) (fun _ k => XS.lstore X102.here hx rfl (hb hby at_575) rfl (l' := #[.val (.int p0), .val (.int p1), .val (.int p2), .val (.int (0 : Int32)), .val (.int xx), .val (.int oo), .val (.int ss), .val (.ref b54), .val (.ref w_UNICODE), .val (.int le84), .val (.long v209d10_s0), .second, .val (.long v231d10_s0), .second, .val (.int v396d10_s0), .val (.int ((gg84 oo.toNatClampNeg) &&& (255 : Int32))), .val (.int v435d10_s0), .val (.int v456d10_s0), .val (.int v546d10_s0), .val (.long (f5_0 ((((gg84 oo.toNatClampNeg) &&& (255 : Int32)) &&& v435d10_s0).toInt64) oo le84 (1 : Int32) gg84)), .second]) rfl k) ?_
                                  refine Go.step (g' := (mkF m 579 #[.val (.int p0), .val (.int p1), .val (.int p2), .val (.int (0 : Int32)), .val (.int xx), .val (.int oo), .val (.int ss), .val (.ref b54), .val (.ref w_UNICODE), .val (.int le84), .val (.long v209d10_s0), .second, .val (.long v231d10_s0), .second, .val (.int v396d10_s0), .val (.int ((gg84 oo.toNatClampNeg) &&& (255 : Int32))), .val (.int v435d10_s0), .val (.int v456d10_s0), .val (.int v546d10_s0), .val (.long (f5_0 ((((gg84 oo.toNatClampNeg) &&& (255 : Int32)) &&& v435d10_s0).toInt64) oo le84 (1 : Int32) gg84)), .second] [(.long (f5_0 ((((gg84 oo.toNatClampNeg) &&& (255 : Int32)) &&& v435d10_s0).toInt64) oo le84 (1 : Int32) gg84))])) (fun _ k => XS.lload X102.here hx rfl (hb hby at_577) rfl  k) ?_
                                  refine Go.step (g' := (mkF m 581 #[.val (.int p0), .val (.int p1), .val (.int p2), .val (.int (0 : Int32)), .val (.int xx), .val (.int oo), .val (.int ss), .val (.ref b54), .val (.ref w_UNICODE), .val (.int le84), .val (.long v209d10_s0), .second, .val (.long v231d10_s0), .second, .val (.int v396d10_s0), .val (.int ((gg84 oo.toNatClampNeg) &&& (255 : Int32))), .val (.int v435d10_s0), .val (.int v456d10_s0), .val (.int v546d10_s0), .val (.long (f5_0 ((((gg84 oo.toNatClampNeg) &&& (255 : Int32)) &&& v435d10_s0).toInt64) oo le84 (1 : Int32) gg84)), .second] [(.ref b54), (.long (f5_0 ((((gg84 oo.toNatClampNeg) &&& (255 : Int32)) &&& v435d10_s0).toInt64) oo le84 (1 : Int32) gg84))])) (fun _ k => XS.aload X102.here hx rfl (hb hby at_579) rfl rfl  k) ?_
                                  refine Go.step (g' := (mkF m 583 #[.val (.int p0), .val (.int p1), .val (.int p2), .val (.int (0 : Int32)), .val (.int xx), .val (.int oo), .val (.int ss), .val (.ref b54), .val (.ref w_UNICODE), .val (.int le84), .val (.long v209d10_s0), .second, .val (.long v231d10_s0), .second, .val (.int v396d10_s0), .val (.int ((gg84 oo.toNatClampNeg) &&& (255 : Int32))), .val (.int v435d10_s0), .val (.int v456d10_s0), .val (.int v546d10_s0), .val (.long (f5_0 ((((gg84 oo.toNatClampNeg) &&& (255 : Int32)) &&& v435d10_s0).toInt64) oo le84 (1 : Int32) gg84)), .second] [(.int oo), (.ref b54), (.long (f5_0 ((((gg84 oo.toNatClampNeg) &&& (255 : Int32)) &&& v435d10_s0).toInt64) oo le84 (1 : Int32) gg84))])) (fun _ k => XS.iload X102.here hx rfl (hb hby at_581) rfl  k) ?_
                                  refine Go.step (g' := (mkF m 585 #[.val (.int p0), .val (.int p1), .val (.int p2), .val (.int (0 : Int32)), .val (.int xx), .val (.int oo), .val (.int ss), .val (.ref b54), .val (.ref w_UNICODE), .val (.int le84), .val (.long v209d10_s0), .second, .val (.long v231d10_s0), .second, .val (.int v396d10_s0), .val (.int ((gg84 oo.toNatClampNeg) &&& (255 : Int32))), .val (.int v435d10_s0), .val (.int v456d10_s0), .val (.int v546d10_s0), .val (.long (f5_0 ((((gg84 oo.toNatClampNeg) &&& (255 : Int32)) &&& v435d10_s0).toInt64) oo le84 (1 : Int32) gg84)), .second] [(.int le84), (.int oo), (.ref b54), (.long (f5_0 ((((gg84 oo.toNatClampNeg) &&& (255 : Int32)) &&& v435d10_s0).toInt64) oo le84 (1 : Int32) gg84))])) (fun _ k => XS.iload X102.here hx rfl (hb hby at_583) rfl  k) ?_
                                  refine Go.step (g' := (mkF m 586 #[.val (.int p0), .val (.int p1), .val (.int p2), .val (.int (0 : Int32)), .val (.int xx), .val (.int oo), .val (.int ss), .val (.ref b54), .val (.ref w_UNICODE), .val (.int le84), .val (.long v209d10_s0), .second, .val (.long v231d10_s0), .second, .val (.int v396d10_s0), .val (.int ((gg84 oo.toNatClampNeg) &&& (255 : Int32))), .val (.int v435d10_s0), .val (.int v456d10_s0), .val (.int v546d10_s0), .val (.long (f5_0 ((((gg84 oo.toNatClampNeg) &&& (255 : Int32)) &&& v435d10_s0).toInt64) oo le84 (1 : Int32) gg84)), .second] [(.int (2 : Int32)), (.int le84), (.int oo), (.ref b54), (.long (f5_0 ((((gg84 oo.toNatClampNeg) &&& (255 : Int32)) &&& v435d10_s0).toInt64) oo le84 (1 : Int32) gg84))])) (fun _ k => XS.iconst X102.here hx rfl (hb hby at_585) k) ?_
                                  obtain ⟨_, _, ⟨T103, L103, k103, n103⟩, -, X103, ⟨Lc103, hQ103, l103, y103, z103⟩, st103⟩ := Jvm.LawKit.callS X102 hx (y := (⟨"com/example/ucs_to_octets/ucstooctets/Utf8EncodePinLaw", "add", "(J[BIII)J"⟩ : MethodName)) hown (mvT hZ (hw _ (List.mem_of_getElem? (i := 26) rfl))) (mvT hZ (hw _ (List.mem_of_getElem? (i := 27) rfl))) (mvT hZ (hw _ (List.mem_of_getElem? (i := 21) rfl))) (mvT hZ (hw _ (List.mem_of_getElem? (i := 28) rfl))) (by decide) (backOf (W := 0) (rm5 l Z a0 hw [] (f5_0 ((((gg84 oo.toNatClampNeg) &&& (255 : Int32)) &&& v435d10_s0).toInt64) oo le84 (1 : Int32) gg84) b54 oo le84 (2 : Int32) gg84 T84.heap Ac84 (own_ix ho 2)) hZ (hw _ (List.mem_of_getElem? (i := 28) rfl)) (hw _ (List.mem_of_getElem? (i := 21) rfl)) (by decide) (by decide)) (g := (mkF m 586 #[.val (.int p0), .val (.int p1), .val (.int p2), .val (.int (0 : Int32)), .val (.int xx), .val (.int oo), .val (.int ss), .val (.ref b54), .val (.ref w_UNICODE), .val (.int le84), .val (.long v209d10_s0), .second, .val (.long v231d10_s0), .second, .val (.int v396d10_s0), .val (.int ((gg84 oo.toNatClampNeg) &&& (255 : Int32))), .val (.int v435d10_s0), .val (.int v456d10_s0), .val (.int v546d10_s0), .val (.long (f5_0 ((((gg84 oo.toNatClampNeg) &&& (255 : Int32)) &&& v435d10_s0).toInt64) oo le84 (1 : Int32) gg84)), .second] [(.int (2 : Int32)), (.int le84), (.int oo), (.ref b54), (.long (f5_0 ((((gg84 oo.toNatClampNeg) &&& (255 : Int32)) &&& v435d10_s0).toInt64) oo le84 (1 : Int32) gg84))])) rfl (by rw [hml]; rfl) (argsL := [(.long (f5_0 ((((gg84 oo.toNatClampNeg) &&& (255 : Int32)) &&& v435d10_s0).toInt64) oo le84 (1 : Int32) gg84)), (.ref b54), (.int oo), (.int le84), (.int (2 : Int32))]) (rest := []) (lenOf pd_5 rfl) rfl (by show 2 * 0 + _ ≤ _; exact Nat.le_of_eq rfl) (hb hby at_586) (fun _ _ => ⟨rfl, e102, (by decide : ((0 + 1) + 0) + 0 ≤ _), (by decide : ((0 + 9) + 0) + 0 ≤ _)⟩)
                                  dsimp only [Pt.U, Pt.locs, Pt.cells, Pt.slots] at X103 l103 y103 z103 st103 hQ103
                                  subst l103 y103 z103
                                  obtain ⟨rfl, rfl, e103⟩ := hQ103
                                  try rw [List.append_nil] at X103
                                  refine Go.step (g' := (mkF m 589 #[.val (.int p0), .val (.int p1), .val (.int p2), .val (.int (0 : Int32)), .val (.int xx), .val (.int oo), .val (.int ss), .val (.ref b54), .val (.ref w_UNICODE), .val (.int le84), .val (.long v209d10_s0), .second, .val (.long v231d10_s0), .second, .val (.int v396d10_s0), .val (.int ((gg84 oo.toNatClampNeg) &&& (255 : Int32))), .val (.int v435d10_s0), .val (.int v456d10_s0), .val (.int v546d10_s0), .val (.long (f5_0 ((((gg84 oo.toNatClampNeg) &&& (255 : Int32)) &&& v435d10_s0).toInt64) oo le84 (1 : Int32) gg84)), .second] [(.long (f5_0 (f5_0 ((((gg84 oo.toNatClampNeg) &&& (255 : Int32)) &&& v435d10_s0).toInt64) oo le84 (1 : Int32) gg84) oo le84 (2 : Int32) gg84))])) st103 ?_
                                  refine Go.step (g' := (mkF m 591 #[.val (.int p0), .val (.int p1), .val (.int p2), .val (.int (0 : Int32)), .val (.int xx), .val (.int oo), .val (.int ss), .val (.ref b54), .val (.ref w_UNICODE), .val (.int le84), .val (.long v209d10_s0), .second, .val (.long v231d10_s0), .second, .val (.int v396d10_s0), .val (.int ((gg84 oo.toNatClampNeg) &&& (255 : Int32))), .val (.int v435d10_s0), .val (.int v456d10_s0), .val (.int v546d10_s0), .val (.long (f5_0 (f5_0 ((((gg84 oo.toNatClampNeg) &&& (255 : Int32)) &&& v435d10_s0).toInt64) oo le84 (1 : Int32) gg84) oo le84 (2 : Int32) gg84)), .second] [])) (fun _ k => XS.lstore X103.here hx rfl (hb hby at_589) rfl (l' := #[.val (.int p0), .val (.int p1), .val (.int p2), .val (.int (0 : Int32)), .val (.int xx), .val (.int oo), .val (.int ss), .val (.ref b54), .val (.ref w_UNICODE), .val (.int le84), .val (.long v209d10_s0), .second, .val (.long v231d10_s0), .second, .val (.int v396d10_s0), .val (.int ((gg84 oo.toNatClampNeg) &&& (255 : Int32))), .val (.int v435d10_s0), .val (.int v456d10_s0), .val (.int v546d10_s0), .val (.long (f5_0 (f5_0 ((((gg84 oo.toNatClampNeg) &&& (255 : Int32)) &&& v435d10_s0).toInt64) oo le84 (1 : Int32) gg84) oo le84 (2 : Int32) gg84)), .second]) rfl k) ?_
                                  refine Go.step (g' := (mkF m 593 #[.val (.int p0), .val (.int p1), .val (.int p2), .val (.int (0 : Int32)), .val (.int xx), .val (.int oo), .val (.int ss), .val (.ref b54), .val (.ref w_UNICODE), .val (.int le84), .val (.long v209d10_s0), .second, .val (.long v231d10_s0), .second, .val (.int v396d10_s0), .val (.int ((gg84 oo.toNatClampNeg) &&& (255 : Int32))), .val (.int v435d10_s0), .val (.int v456d10_s0), .val (.int v546d10_s0), .val (.long (f5_0 (f5_0 ((((gg84 oo.toNatClampNeg) &&& (255 : Int32)) &&& v435d10_s0).toInt64) oo le84 (1 : Int32) gg84) oo le84 (2 : Int32) gg84)), .second] [(.long (f5_0 (f5_0 ((((gg84 oo.toNatClampNeg) &&& (255 : Int32)) &&& v435d10_s0).toInt64) oo le84 (1 : Int32) gg84) oo le84 (2 : Int32) gg84))])) (fun _ k => XS.lload X103.here hx rfl (hb hby at_591) rfl  k) ?_
                                  refine Go.step (g' := (mkF m 595 #[.val (.int p0), .val (.int p1), .val (.int p2), .val (.int (0 : Int32)), .val (.int xx), .val (.int oo), .val (.int ss), .val (.ref b54), .val (.ref w_UNICODE), .val (.int le84), .val (.long v209d10_s0), .second, .val (.long v231d10_s0), .second, .val (.int v396d10_s0), .val (.int ((gg84 oo.toNatClampNeg) &&& (255 : Int32))), .val (.int v435d10_s0), .val (.int v456d10_s0), .val (.int v546d10_s0), .val (.long (f5_0 (f5_0 ((((gg84 oo.toNatClampNeg) &&& (255 : Int32)) &&& v435d10_s0).toInt64) oo le84 (1 : Int32) gg84) oo le84 (2 : Int32) gg84)), .second] [(.ref b54), (.long (f5_0 (f5_0 ((((gg84 oo.toNatClampNeg) &&& (255 : Int32)) &&& v435d10_s0).toInt64) oo le84 (1 : Int32) gg84) oo le84 (2 : Int32) gg84))])) (fun _ k => XS.aload X103.here hx rfl (hb hby at_593) rfl rfl  k) ?_
                                  refine Go.step (g' := (mkF m 597 #[.val (.int p0), .val (.int p1), .val (.int p2), .val (.int (0 : Int32)), .val (.int xx), .val (.int oo), .val (.int ss), .val (.ref b54), .val (.ref w_UNICODE), .val (.int le84), .val (.long v209d10_s0), .second, .val (.long v231d10_s0), .second, .val (.int v396d10_s0), .val (.int ((gg84 oo.toNatClampNeg) &&& (255 : Int32))), .val (.int v435d10_s0), .val (.int v456d10_s0), .val (.int v546d10_s0), .val (.long (f5_0 (f5_0 ((((gg84 oo.toNatClampNeg) &&& (255 : Int32)) &&& v435d10_s0).toInt64) oo le84 (1 : Int32) gg84) oo le84 (2 : Int32) gg84)), .second] [(.int oo), (.ref b54), (.long (f5_0 (f5_0 ((((gg84 oo.toNatClampNeg) &&& (255 : Int32)) &&& v435d10_s0).toInt64) oo le84 (1 : Int32) gg84) oo le84 (2 : Int32) gg84))])) (fun _ k => XS.iload X103.here hx rfl (hb hby at_595) rfl  k) ?_
                                  refine Go.step (g' := (mkF m 599 #[.val (.int p0), .val (.int p1), .val (.int p2), .val (.int (0 : Int32)), .val (.int xx), .val (.int oo), .val (.int ss), .val (.ref b54), .val (.ref w_UNICODE), .val (.int le84), .val (.long v209d10_s0), .second, .val (.long v231d10_s0), .second, .val (.int v396d10_s0), .val (.int ((gg84 oo.toNatClampNeg) &&& (255 : Int32))), .val (.int v435d10_s0), .val (.int v456d10_s0), .val (.int v546d10_s0), .val (.long (f5_0 (f5_0 ((((gg84 oo.toNatClampNeg) &&& (255 : Int32)) &&& v435d10_s0).toInt64) oo le84 (1 : Int32) gg84) oo le84 (2 : Int32) gg84)), .second] [(.int le84), (.int oo), (.ref b54), (.long (f5_0 (f5_0 ((((gg84 oo.toNatClampNeg) &&& (255 : Int32)) &&& v435d10_s0).toInt64) oo le84 (1 : Int32) gg84) oo le84 (2 : Int32) gg84))])) (fun _ k => XS.iload X103.here hx rfl (hb hby at_597) rfl  k) ?_
                                  refine Go.step (g' := (mkF m 600 #[.val (.int p0), .val (.int p1), .val (.int p2), .val (.int (0 : Int32)), .val (.int xx), .val (.int oo), .val (.int ss), .val (.ref b54), .val (.ref w_UNICODE), .val (.int le84), .val (.long v209d10_s0), .second, .val (.long v231d10_s0), .second, .val (.int v396d10_s0), .val (.int ((gg84 oo.toNatClampNeg) &&& (255 : Int32))), .val (.int v435d10_s0), .val (.int v456d10_s0), .val (.int v546d10_s0), .val (.long (f5_0 (f5_0 ((((gg84 oo.toNatClampNeg) &&& (255 : Int32)) &&& v435d10_s0).toInt64) oo le84 (1 : Int32) gg84) oo le84 (2 : Int32) gg84)), .second] [(.int (3 : Int32)), (.int le84), (.int oo), (.ref b54), (.long (f5_0 (f5_0 ((((gg84 oo.toNatClampNeg) &&& (255 : Int32)) &&& v435d10_s0).toInt64) oo le84 (1 : Int32) gg84) oo le84 (2 : Int32) gg84))])) (fun _ k => XS.iconst X103.here hx rfl (hb hby at_599) k) ?_
                                  obtain ⟨_, _, ⟨T104, L104, k104, n104⟩, -, X104, ⟨Lc104, hQ104, l104, y104, z104⟩, st104⟩ := Jvm.LawKit.callS X103 hx (y := (⟨"com/example/ucs_to_octets/ucstooctets/Utf8EncodePinLaw", "add", "(J[BIII)J"⟩ : MethodName)) hown (mvT hZ (hw _ (List.mem_of_getElem? (i := 26) rfl))) (mvT hZ (hw _ (List.mem_of_getElem? (i := 27) rfl))) (mvT hZ (hw _ (List.mem_of_getElem? (i := 21) rfl))) (mvT hZ (hw _ (List.mem_of_getElem? (i := 28) rfl))) (by decide) (backOf (W := 0) (rm5 l Z a0 hw [] (f5_0 (f5_0 ((((gg84 oo.toNatClampNeg) &&& (255 : Int32)) &&& v435d10_s0).toInt64) oo le84 (1 : Int32) gg84) oo le84 (2 : Int32) gg84) b54 oo le84 (3 : Int32) gg84 T84.heap Ac84 (own_ix ho 3)) hZ (hw _ (List.mem_of_getElem? (i := 28) rfl)) (hw _ (List.mem_of_getElem? (i := 21) rfl)) (by decide) (by decide)) (g := (mkF m 600 #[.val (.int p0), .val (.int p1), .val (.int p2), .val (.int (0 : Int32)), .val (.int xx), .val (.int oo), .val (.int ss), .val (.ref b54), .val (.ref w_UNICODE), .val (.int le84), .val (.long v209d10_s0), .second, .val (.long v231d10_s0), .second, .val (.int v396d10_s0), .val (.int ((gg84 oo.toNatClampNeg) &&& (255 : Int32))), .val (.int v435d10_s0), .val (.int v456d10_s0), .val (.int v546d10_s0), .val (.long (f5_0 (f5_0 ((((gg84 oo.toNatClampNeg) &&& (255 : Int32)) &&& v435d10_s0).toInt64) oo le84 (1 : Int32) gg84) oo le84 (2 : Int32) gg84)), .second] [(.int (3 : Int32)), (.int le84), (.int oo), (.ref b54), (.long (f5_0 (f5_0 ((((gg84 oo.toNatClampNeg) &&& (255 : Int32)) &&& v435d10_s0).toInt64) oo le84 (1 : Int32) gg84) oo le84 (2 : Int32) gg84))])) rfl (by rw [hml]; rfl) (argsL := [(.long (f5_0 (f5_0 ((((gg84 oo.toNatClampNeg) &&& (255 : Int32)) &&& v435d10_s0).toInt64) oo le84 (1 : Int32) gg84) oo le84 (2 : Int32) gg84)), (.ref b54), (.int oo), (.int le84), (.int (3 : Int32))]) (rest := []) (lenOf pd_5 rfl) rfl (by show 2 * 0 + _ ≤ _; exact Nat.le_of_eq rfl) (hb hby at_600) (fun _ _ => ⟨rfl, e103, (by decide : ((0 + 1) + 0) + 0 ≤ _), (by decide : ((0 + 9) + 0) + 0 ≤ _)⟩)
                                  dsimp only [Pt.U, Pt.locs, Pt.cells, Pt.slots] at X104 l104 y104 z104 st104 hQ104
                                  subst l104 y104 z104
                                  obtain ⟨rfl, rfl, e104⟩ := hQ104
                                  try rw [List.append_nil] at X104
                                  refine Go.step (g' := (mkF m 603 #[.val (.int p0), .val (.int p1), .val (.int p2), .val (.int (0 : Int32)), .val (.int xx), .val (.int oo), .val (.int ss), .val (.ref b54), .val (.ref w_UNICODE), .val (.int le84), .val (.long v209d10_s0), .second, .val (.long v231d10_s0), .second, .val (.int v396d10_s0), .val (.int ((gg84 oo.toNatClampNeg) &&& (255 : Int32))), .val (.int v435d10_s0), .val (.int v456d10_s0), .val (.int v546d10_s0), .val (.long (f5_0 (f5_0 ((((gg84 oo.toNatClampNeg) &&& (255 : Int32)) &&& v435d10_s0).toInt64) oo le84 (1 : Int32) gg84) oo le84 (2 : Int32) gg84)), .second] [(.long (f5_0 (f5_0 (f5_0 ((((gg84 oo.toNatClampNeg) &&& (255 : Int32)) &&& v435d10_s0).toInt64) oo le84 (1 : Int32) gg84) oo le84 (2 : Int32) gg84) oo le84 (3 : Int32) gg84))])) st104 ?_
                                  refine Go.step (g' := (mkF m 605 #[.val (.int p0), .val (.int p1), .val (.int p2), .val (.int (0 : Int32)), .val (.int xx), .val (.int oo), .val (.int ss), .val (.ref b54), .val (.ref w_UNICODE), .val (.int le84), .val (.long v209d10_s0), .second, .val (.long v231d10_s0), .second, .val (.int v396d10_s0), .val (.int ((gg84 oo.toNatClampNeg) &&& (255 : Int32))), .val (.int v435d10_s0), .val (.int v456d10_s0), .val (.int v546d10_s0), .val (.long (f5_0 (f5_0 (f5_0 ((((gg84 oo.toNatClampNeg) &&& (255 : Int32)) &&& v435d10_s0).toInt64) oo le84 (1 : Int32) gg84) oo le84 (2 : Int32) gg84) oo le84 (3 : Int32) gg84)), .second] [])) (fun _ k => XS.lstore X104.here hx rfl (hb hby at_603) rfl (l' := #[.val (.int p0), .val (.int p1), .val (.int p2), .val (.int (0 : Int32)), .val (.int xx), .val (.int oo), .val (.int ss), .val (.ref b54), .val (.ref w_UNICODE), .val (.int le84), .val (.long v209d10_s0), .second, .val (.long v231d10_s0), .second, .val (.int v396d10_s0), .val (.int ((gg84 oo.toNatClampNeg) &&& (255 : Int32))), .val (.int v435d10_s0), .val (.int v456d10_s0), .val (.int v546d10_s0), .val (.long (f5_0 (f5_0 (f5_0 ((((gg84 oo.toNatClampNeg) &&& (255 : Int32)) &&& v435d10_s0).toInt64) oo le84 (1 : Int32) gg84) oo le84 (2 : Int32) gg84) oo le84 (3 : Int32) gg84)), .second]) rfl k) ?_
                                  refine Go.step (g' := (mkF m 607 #[.val (.int p0), .val (.int p1), .val (.int p2), .val (.int (0 : Int32)), .val (.int xx), .val (.int oo), .val (.int ss), .val (.ref b54), .val (.ref w_UNICODE), .val (.int le84), .val (.long v209d10_s0), .second, .val (.long v231d10_s0), .second, .val (.int v396d10_s0), .val (.int ((gg84 oo.toNatClampNeg) &&& (255 : Int32))), .val (.int v435d10_s0), .val (.int v456d10_s0), .val (.int v546d10_s0), .val (.long (f5_0 (f5_0 (f5_0 ((((gg84 oo.toNatClampNeg) &&& (255 : Int32)) &&& v435d10_s0).toInt64) oo le84 (1 : Int32) gg84) oo le84 (2 : Int32) gg84) oo le84 (3 : Int32) gg84)), .second] [(.long (f5_0 (f5_0 (f5_0 ((((gg84 oo.toNatClampNeg) &&& (255 : Int32)) &&& v435d10_s0).toInt64) oo le84 (1 : Int32) gg84) oo le84 (2 : Int32) gg84) oo le84 (3 : Int32) gg84))])) (fun _ k => XS.lload X104.here hx rfl (hb hby at_605) rfl  k) ?_
                                  refine Go.step (g' := (mkF m 609 #[.val (.int p0), .val (.int p1), .val (.int p2), .val (.int (0 : Int32)), .val (.int xx), .val (.int oo), .val (.int ss), .val (.ref b54), .val (.ref w_UNICODE), .val (.int le84), .val (.long v209d10_s0), .second, .val (.long v231d10_s0), .second, .val (.int v396d10_s0), .val (.int ((gg84 oo.toNatClampNeg) &&& (255 : Int32))), .val (.int v435d10_s0), .val (.int v456d10_s0), .val (.int v546d10_s0), .val (.long (f5_0 (f5_0 (f5_0 ((((gg84 oo.toNatClampNeg) &&& (255 : Int32)) &&& v435d10_s0).toInt64) oo le84 (1 : Int32) gg84) oo le84 (2 : Int32) gg84) oo le84 (3 : Int32) gg84)), .second] [(.ref b54), (.long (f5_0 (f5_0 (f5_0 ((((gg84 oo.toNatClampNeg) &&& (255 : Int32)) &&& v435d10_s0).toInt64) oo le84 (1 : Int32) gg84) oo le84 (2 : Int32) gg84) oo le84 (3 : Int32) gg84))])) (fun _ k => XS.aload X104.here hx rfl (hb hby at_607) rfl rfl  k) ?_
                                  refine Go.step (g' := (mkF m 611 #[.val (.int p0), .val (.int p1), .val (.int p2), .val (.int (0 : Int32)), .val (.int xx), .val (.int oo), .val (.int ss), .val (.ref b54), .val (.ref w_UNICODE), .val (.int le84), .val (.long v209d10_s0), .second, .val (.long v231d10_s0), .second, .val (.int v396d10_s0), .val (.int ((gg84 oo.toNatClampNeg) &&& (255 : Int32))), .val (.int v435d10_s0), .val (.int v456d10_s0), .val (.int v546d10_s0), .val (.long (f5_0 (f5_0 (f5_0 ((((gg84 oo.toNatClampNeg) &&& (255 : Int32)) &&& v435d10_s0).toInt64) oo le84 (1 : Int32) gg84) oo le84 (2 : Int32) gg84) oo le84 (3 : Int32) gg84)), .second] [(.int oo), (.ref b54), (.long (f5_0 (f5_0 (f5_0 ((((gg84 oo.toNatClampNeg) &&& (255 : Int32)) &&& v435d10_s0).toInt64) oo le84 (1 : Int32) gg84) oo le84 (2 : Int32) gg84) oo le84 (3 : Int32) gg84))])) (fun _ k => XS.iload X104.here hx rfl (hb hby at_609) rfl  k) ?_
                                  refine Go.step (g' := (mkF m 613 #[.val (.int p0), .val (.int p1), .val (.int p2), .val (.int (0 : Int32)), .val (.int xx), .val (.int oo), .val (.int ss), .val (.ref b54), .val (.ref w_UNICODE), .val (.int le84), .val (.long v209d10_s0), .second, .val (.long v231d10_s0), .second, .val (.int v396d10_s0), .val (.int ((gg84 oo.toNatClampNeg) &&& (255 : Int32))), .val (.int v435d10_s0), .val (.int v456d10_s0), .val (.int v546d10_s0), .val (.long (f5_0 (f5_0 (f5_0 ((((gg84 oo.toNatClampNeg) &&& (255 : Int32)) &&& v435d10_s0).toInt64) oo le84 (1 : Int32) gg84) oo le84 (2 : Int32) gg84) oo le84 (3 : Int32) gg84)), .second] [(.int le84), (.int oo), (.ref b54), (.long (f5_0 (f5_0 (f5_0 ((((gg84 oo.toNatClampNeg) &&& (255 : Int32)) &&& v435d10_s0).toInt64) oo le84 (1 : Int32) gg84) oo le84 (2 : Int32) gg84) oo le84 (3 : Int32) gg84))])) (fun _ k => XS.iload X104.here hx rfl (hb hby at_611) rfl  k) ?_
                                  refine Go.step (g' := (mkF m 614 #[.val (.int p0), .val (.int p1), .val (.int p2), .val (.int (0 : Int32)), .val (.int xx), .val (.int oo), .val (.int ss), .val (.ref b54), .val (.ref w_UNICODE), .val (.int le84), .val (.long v209d10_s0), .second, .val (.long v231d10_s0), .second, .val (.int v396d10_s0), .val (.int ((gg84 oo.toNatClampNeg) &&& (255 : Int32))), .val (.int v435d10_s0), .val (.int v456d10_s0), .val (.int v546d10_s0), .val (.long (f5_0 (f5_0 (f5_0 ((((gg84 oo.toNatClampNeg) &&& (255 : Int32)) &&& v435d10_s0).toInt64) oo le84 (1 : Int32) gg84) oo le84 (2 : Int32) gg84) oo le84 (3 : Int32) gg84)), .second] [(.int (4 : Int32)), (.int le84), (.int oo), (.ref b54), (.long (f5_0 (f5_0 (f5_0 ((((gg84 oo.toNatClampNeg) &&& (255 : Int32)) &&& v435d10_s0).toInt64) oo le84 (1 : Int32) gg84) oo le84 (2 : Int32) gg84) oo le84 (3 : Int32) gg84))])) (fun _ k => XS.iconst X104.here hx rfl (hb hby at_613) k) ?_
                                  obtain ⟨_, _, ⟨T105, L105, k105, n105⟩, -, X105, ⟨Lc105, hQ105, l105, y105, z105⟩, st105⟩ := Jvm.LawKit.callS X104 hx (y := (⟨"com/example/ucs_to_octets/ucstooctets/Utf8EncodePinLaw", "add", "(J[BIII)J"⟩ : MethodName)) hown (mvT hZ (hw _ (List.mem_of_getElem? (i := 26) rfl))) (mvT hZ (hw _ (List.mem_of_getElem? (i := 27) rfl))) (mvT hZ (hw _ (List.mem_of_getElem? (i := 21) rfl))) (mvT hZ (hw _ (List.mem_of_getElem? (i := 28) rfl))) (by decide) (backOf (W := 0) (rm5 l Z a0 hw [] (f5_0 (f5_0 (f5_0 ((((gg84 oo.toNatClampNeg) &&& (255 : Int32)) &&& v435d10_s0).toInt64) oo le84 (1 : Int32) gg84) oo le84 (2 : Int32) gg84) oo le84 (3 : Int32) gg84) b54 oo le84 (4 : Int32) gg84 T84.heap Ac84 (own_ix ho 4)) hZ (hw _ (List.mem_of_getElem? (i := 28) rfl)) (hw _ (List.mem_of_getElem? (i := 21) rfl)) (by decide) (by decide)) (g := (mkF m 614 #[.val (.int p0), .val (.int p1), .val (.int p2), .val (.int (0 : Int32)), .val (.int xx), .val (.int oo), .val (.int ss), .val (.ref b54), .val (.ref w_UNICODE), .val (.int le84), .val (.long v209d10_s0), .second, .val (.long v231d10_s0), .second, .val (.int v396d10_s0), .val (.int ((gg84 oo.toNatClampNeg) &&& (255 : Int32))), .val (.int v435d10_s0), .val (.int v456d10_s0), .val (.int v546d10_s0), .val (.long (f5_0 (f5_0 (f5_0 ((((gg84 oo.toNatClampNeg) &&& (255 : Int32)) &&& v435d10_s0).toInt64) oo le84 (1 : Int32) gg84) oo le84 (2 : Int32) gg84) oo le84 (3 : Int32) gg84)), .second] [(.int (4 : Int32)), (.int le84), (.int oo), (.ref b54), (.long (f5_0 (f5_0 (f5_0 ((((gg84 oo.toNatClampNeg) &&& (255 : Int32)) &&& v435d10_s0).toInt64) oo le84 (1 : Int32) gg84) oo le84 (2 : Int32) gg84) oo le84 (3 : Int32) gg84))])) rfl (by rw [hml]; rfl) (argsL := [(.long (f5_0 (f5_0 (f5_0 ((((gg84 oo.toNatClampNeg) &&& (255 : Int32)) &&& v435d10_s0).toInt64) oo le84 (1 : Int32) gg84) oo le84 (2 : Int32) gg84) oo le84 (3 : Int32) gg84)), (.ref b54), (.int oo), (.int le84), (.int (4 : Int32))]) (rest := []) (lenOf pd_5 rfl) rfl (by show 2 * 0 + _ ≤ _; exact Nat.le_of_eq rfl) (hb hby at_614) (fun _ _ => ⟨rfl, e104, (by decide : ((0 + 1) + 0) + 0 ≤ _), (by decide : ((0 + 9) + 0) + 0 ≤ _)⟩)
                                  dsimp only [Pt.U, Pt.locs, Pt.cells, Pt.slots] at X105 l105 y105 z105 st105 hQ105
                                  subst l105 y105 z105
                                  obtain ⟨rfl, rfl, e105⟩ := hQ105
                                  try rw [List.append_nil] at X105
                                  refine Go.step (g' := (mkF m 617 #[.val (.int p0), .val (.int p1), .val (.int p2), .val (.int (0 : Int32)), .val (.int xx), .val (.int oo), .val (.int ss), .val (.ref b54), .val (.ref w_UNICODE), .val (.int le84), .val (.long v209d10_s0), .second, .val (.long v231d10_s0), .second, .val (.int v396d10_s0), .val (.int ((gg84 oo.toNatClampNeg) &&& (255 : Int32))), .val (.int v435d10_s0), .val (.int v456d10_s0), .val (.int v546d10_s0), .val (.long (f5_0 (f5_0 (f5_0 ((((gg84 oo.toNatClampNeg) &&& (255 : Int32)) &&& v435d10_s0).toInt64) oo le84 (1 : Int32) gg84) oo le84 (2 : Int32) gg84) oo le84 (3 : Int32) gg84)), .second] [(.long (f5_0 (f5_0 (f5_0 (f5_0 ((((gg84 oo.toNatClampNeg) &&& (255 : Int32)) &&& v435d10_s0).toInt64) oo le84 (1 : Int32) gg84) oo le84 (2 : Int32) gg84) oo le84 (3 : Int32) gg84) oo le84 (4 : Int32) gg84))])) st105 ?_
                                  refine Go.step (g' := (mkF m 619 #[.val (.int p0), .val (.int p1), .val (.int p2), .val (.int (0 : Int32)), .val (.int xx), .val (.int oo), .val (.int ss), .val (.ref b54), .val (.ref w_UNICODE), .val (.int le84), .val (.long v209d10_s0), .second, .val (.long v231d10_s0), .second, .val (.int v396d10_s0), .val (.int ((gg84 oo.toNatClampNeg) &&& (255 : Int32))), .val (.int v435d10_s0), .val (.int v456d10_s0), .val (.int v546d10_s0), .val (.long (f5_0 (f5_0 (f5_0 (f5_0 ((((gg84 oo.toNatClampNeg) &&& (255 : Int32)) &&& v435d10_s0).toInt64) oo le84 (1 : Int32) gg84) oo le84 (2 : Int32) gg84) oo le84 (3 : Int32) gg84) oo le84 (4 : Int32) gg84)), .second] [])) (fun _ k => XS.lstore X105.here hx rfl (hb hby at_617) rfl (l' := #[.val (.int p0), .val (.int p1), .val (.int p2), .val (.int (0 : Int32)), .val (.int xx), .val (.int oo), .val (.int ss), .val (.ref b54), .val (.ref w_UNICODE), .val (.int le84), .val (.long v209d10_s0), .second, .val (.long v231d10_s0), .second, .val (.int v396d10_s0), .val (.int ((gg84 oo.toNatClampNeg) &&& (255 : Int32))), .val (.int v435d10_s0), .val (.int v456d10_s0), .val (.int v546d10_s0), .val (.long (f5_0 (f5_0 (f5_0 (f5_0 ((((gg84 oo.toNatClampNeg) &&& (255 : Int32)) &&& v435d10_s0).toInt64) oo le84 (1 : Int32) gg84) oo le84 (2 : Int32) gg84) oo le84 (3 : Int32) gg84) oo le84 (4 : Int32) gg84)), .second]) rfl k) ?_
                                  refine Go.step (g' := (mkF m 621 #[.val (.int p0), .val (.int p1), .val (.int p2), .val (.int (0 : Int32)), .val (.int xx), .val (.int oo), .val (.int ss), .val (.ref b54), .val (.ref w_UNICODE), .val (.int le84), .val (.long v209d10_s0), .second, .val (.long v231d10_s0), .second, .val (.int v396d10_s0), .val (.int ((gg84 oo.toNatClampNeg) &&& (255 : Int32))), .val (.int v435d10_s0), .val (.int v456d10_s0), .val (.int v546d10_s0), .val (.long (f5_0 (f5_0 (f5_0 (f5_0 ((((gg84 oo.toNatClampNeg) &&& (255 : Int32)) &&& v435d10_s0).toInt64) oo le84 (1 : Int32) gg84) oo le84 (2 : Int32) gg84) oo le84 (3 : Int32) gg84) oo le84 (4 : Int32) gg84)), .second] [(.long (f5_0 (f5_0 (f5_0 (f5_0 ((((gg84 oo.toNatClampNeg) &&& (255 : Int32)) &&& v435d10_s0).toInt64) oo le84 (1 : Int32) gg84) oo le84 (2 : Int32) gg84) oo le84 (3 : Int32) gg84) oo le84 (4 : Int32) gg84))])) (fun _ k => XS.lload X105.here hx rfl (hb hby at_619) rfl  k) ?_
                                  refine Go.step (g' := (mkF m 623 #[.val (.int p0), .val (.int p1), .val (.int p2), .val (.int (0 : Int32)), .val (.int xx), .val (.int oo), .val (.int ss), .val (.ref b54), .val (.ref w_UNICODE), .val (.int le84), .val (.long v209d10_s0), .second, .val (.long v231d10_s0), .second, .val (.int v396d10_s0), .val (.int ((gg84 oo.toNatClampNeg) &&& (255 : Int32))), .val (.int v435d10_s0), .val (.int v456d10_s0), .val (.int v546d10_s0), .val (.long (f5_0 (f5_0 (f5_0 (f5_0 ((((gg84 oo.toNatClampNeg) &&& (255 : Int32)) &&& v435d10_s0).toInt64) oo le84 (1 : Int32) gg84) oo le84 (2 : Int32) gg84) oo le84 (3 : Int32) gg84) oo le84 (4 : Int32) gg84)), .second] [(.ref b54), (.long (f5_0 (f5_0 (f5_0 (f5_0 ((((gg84 oo.toNatClampNeg) &&& (255 : Int32)) &&& v435d10_s0).toInt64) oo le84 (1 : Int32) gg84) oo le84 (2 : Int32) gg84) oo le84 (3 : Int32) gg84) oo le84 (4 : Int32) gg84))])) (fun _ k => XS.aload X105.here hx rfl (hb hby at_621) rfl rfl  k) ?_
                                  refine Go.step (g' := (mkF m 625 #[.val (.int p0), .val (.int p1), .val (.int p2), .val (.int (0 : Int32)), .val (.int xx), .val (.int oo), .val (.int ss), .val (.ref b54), .val (.ref w_UNICODE), .val (.int le84), .val (.long v209d10_s0), .second, .val (.long v231d10_s0), .second, .val (.int v396d10_s0), .val (.int ((gg84 oo.toNatClampNeg) &&& (255 : Int32))), .val (.int v435d10_s0), .val (.int v456d10_s0), .val (.int v546d10_s0), .val (.long (f5_0 (f5_0 (f5_0 (f5_0 ((((gg84 oo.toNatClampNeg) &&& (255 : Int32)) &&& v435d10_s0).toInt64) oo le84 (1 : Int32) gg84) oo le84 (2 : Int32) gg84) oo le84 (3 : Int32) gg84) oo le84 (4 : Int32) gg84)), .second] [(.int oo), (.ref b54), (.long (f5_0 (f5_0 (f5_0 (f5_0 ((((gg84 oo.toNatClampNeg) &&& (255 : Int32)) &&& v435d10_s0).toInt64) oo le84 (1 : Int32) gg84) oo le84 (2 : Int32) gg84) oo le84 (3 : Int32) gg84) oo le84 (4 : Int32) gg84))])) (fun _ k => XS.iload X105.here hx rfl (hb hby at_623) rfl  k) ?_
                                  refine Go.step (g' := (mkF m 627 #[.val (.int p0), .val (.int p1), .val (.int p2), .val (.int (0 : Int32)), .val (.int xx), .val (.int oo), .val (.int ss), .val (.ref b54), .val (.ref w_UNICODE), .val (.int le84), .val (.long v209d10_s0), .second, .val (.long v231d10_s0), .second, .val (.int v396d10_s0), .val (.int ((gg84 oo.toNatClampNeg) &&& (255 : Int32))), .val (.int v435d10_s0), .val (.int v456d10_s0), .val (.int v546d10_s0), .val (.long (f5_0 (f5_0 (f5_0 (f5_0 ((((gg84 oo.toNatClampNeg) &&& (255 : Int32)) &&& v435d10_s0).toInt64) oo le84 (1 : Int32) gg84) oo le84 (2 : Int32) gg84) oo le84 (3 : Int32) gg84) oo le84 (4 : Int32) gg84)), .second] [(.int le84), (.int oo), (.ref b54), (.long (f5_0 (f5_0 (f5_0 (f5_0 ((((gg84 oo.toNatClampNeg) &&& (255 : Int32)) &&& v435d10_s0).toInt64) oo le84 (1 : Int32) gg84) oo le84 (2 : Int32) gg84) oo le84 (3 : Int32) gg84) oo le84 (4 : Int32) gg84))])) (fun _ k => XS.iload X105.here hx rfl (hb hby at_625) rfl  k) ?_
                                  refine Go.step (g' := (mkF m 628 #[.val (.int p0), .val (.int p1), .val (.int p2), .val (.int (0 : Int32)), .val (.int xx), .val (.int oo), .val (.int ss), .val (.ref b54), .val (.ref w_UNICODE), .val (.int le84), .val (.long v209d10_s0), .second, .val (.long v231d10_s0), .second, .val (.int v396d10_s0), .val (.int ((gg84 oo.toNatClampNeg) &&& (255 : Int32))), .val (.int v435d10_s0), .val (.int v456d10_s0), .val (.int v546d10_s0), .val (.long (f5_0 (f5_0 (f5_0 (f5_0 ((((gg84 oo.toNatClampNeg) &&& (255 : Int32)) &&& v435d10_s0).toInt64) oo le84 (1 : Int32) gg84) oo le84 (2 : Int32) gg84) oo le84 (3 : Int32) gg84) oo le84 (4 : Int32) gg84)), .second] [(.int (5 : Int32)), (.int le84), (.int oo), (.ref b54), (.long (f5_0 (f5_0 (f5_0 (f5_0 ((((gg84 oo.toNatClampNeg) &&& (255 : Int32)) &&& v435d10_s0).toInt64) oo le84 (1 : Int32) gg84) oo le84 (2 : Int32) gg84) oo le84 (3 : Int32) gg84) oo le84 (4 : Int32) gg84))])) (fun _ k => XS.iconst X105.here hx rfl (hb hby at_627) k) ?_
                                  obtain ⟨_, _, ⟨T106, L106, k106, n106⟩, -, X106, ⟨Lc106, hQ106, l106, y106, z106⟩, st106⟩ := Jvm.LawKit.callS X105 hx (y := (⟨"com/example/ucs_to_octets/ucstooctets/Utf8EncodePinLaw", "add", "(J[BIII)J"⟩ : MethodName)) hown (mvT hZ (hw _ (List.mem_of_getElem? (i := 26) rfl))) (mvT hZ (hw _ (List.mem_of_getElem? (i := 27) rfl))) (mvT hZ (hw _ (List.mem_of_getElem? (i := 21) rfl))) (mvT hZ (hw _ (List.mem_of_getElem? (i := 28) rfl))) (by decide) (backOf (W := 0) (rm5 l Z a0 hw [] (f5_0 (f5_0 (f5_0 (f5_0 ((((gg84 oo.toNatClampNeg) &&& (255 : Int32)) &&& v435d10_s0).toInt64) oo le84 (1 : Int32) gg84) oo le84 (2 : Int32) gg84) oo le84 (3 : Int32) gg84) oo le84 (4 : Int32) gg84) b54 oo le84 (5 : Int32) gg84 T84.heap Ac84 (own_ix ho 5)) hZ (hw _ (List.mem_of_getElem? (i := 28) rfl)) (hw _ (List.mem_of_getElem? (i := 21) rfl)) (by decide) (by decide)) (g := (mkF m 628 #[.val (.int p0), .val (.int p1), .val (.int p2), .val (.int (0 : Int32)), .val (.int xx), .val (.int oo), .val (.int ss), .val (.ref b54), .val (.ref w_UNICODE), .val (.int le84), .val (.long v209d10_s0), .second, .val (.long v231d10_s0), .second, .val (.int v396d10_s0), .val (.int ((gg84 oo.toNatClampNeg) &&& (255 : Int32))), .val (.int v435d10_s0), .val (.int v456d10_s0), .val (.int v546d10_s0), .val (.long (f5_0 (f5_0 (f5_0 (f5_0 ((((gg84 oo.toNatClampNeg) &&& (255 : Int32)) &&& v435d10_s0).toInt64) oo le84 (1 : Int32) gg84) oo le84 (2 : Int32) gg84) oo le84 (3 : Int32) gg84) oo le84 (4 : Int32) gg84)), .second] [(.int (5 : Int32)), (.int le84), (.int oo), (.ref b54), (.long (f5_0 (f5_0 (f5_0 (f5_0 ((((gg84 oo.toNatClampNeg) &&& (255 : Int32)) &&& v435d10_s0).toInt64) oo le84 (1 : Int32) gg84) oo le84 (2 : Int32) gg84) oo le84 (3 : Int32) gg84) oo le84 (4 : Int32) gg84))])) rfl (by rw [hml]; rfl) (argsL := [(.long (f5_0 (f5_0 (f5_0 (f5_0 ((((gg84 oo.toNatClampNeg) &&& (255 : Int32)) &&& v435d10_s0).toInt64) oo le84 (1 : Int32) gg84) oo le84 (2 : Int32) gg84) oo le84 (3 : Int32) gg84) oo le84 (4 : Int32) gg84)), (.ref b54), (.int oo), (.int le84), (.int (5 : Int32))]) (rest := []) (lenOf pd_5 rfl) rfl (by show 2 * 0 + _ ≤ _; exact Nat.le_of_eq rfl) (hb hby at_628) (fun _ _ => ⟨rfl, e105, (by decide : ((0 + 1) + 0) + 0 ≤ _), (by decide : ((0 + 9) + 0) + 0 ≤ _)⟩)
                                  dsimp only [Pt.U, Pt.locs, Pt.cells, Pt.slots] at X106 l106 y106 z106 st106 hQ106
                                  subst l106 y106 z106
                                  obtain ⟨rfl, rfl, e106⟩ := hQ106
                                  try rw [List.append_nil] at X106
                                  refine Go.step (g' := (mkF m 631 #[.val (.int p0), .val (.int p1), .val (.int p2), .val (.int (0 : Int32)), .val (.int xx), .val (.int oo), .val (.int ss), .val (.ref b54), .val (.ref w_UNICODE), .val (.int le84), .val (.long v209d10_s0), .second, .val (.long v231d10_s0), .second, .val (.int v396d10_s0), .val (.int ((gg84 oo.toNatClampNeg) &&& (255 : Int32))), .val (.int v435d10_s0), .val (.int v456d10_s0), .val (.int v546d10_s0), .val (.long (f5_0 (f5_0 (f5_0 (f5_0 ((((gg84 oo.toNatClampNeg) &&& (255 : Int32)) &&& v435d10_s0).toInt64) oo le84 (1 : Int32) gg84) oo le84 (2 : Int32) gg84) oo le84 (3 : Int32) gg84) oo le84 (4 : Int32) gg84)), .second] [(.long (f5_0 (f5_0 (f5_0 (f5_0 (f5_0 ((((gg84 oo.toNatClampNeg) &&& (255 : Int32)) &&& v435d10_s0).toInt64) oo le84 (1 : Int32) gg84) oo le84 (2 : Int32) gg84) oo le84 (3 : Int32) gg84) oo le84 (4 : Int32) gg84) oo le84 (5 : Int32) gg84))])) st106 ?_
                                  refine Go.step (g' := (mkF m 633 #[.val (.int p0), .val (.int p1), .val (.int p2), .val (.int (0 : Int32)), .val (.int xx), .val (.int oo), .val (.int ss), .val (.ref b54), .val (.ref w_UNICODE), .val (.int le84), .val (.long v209d10_s0), .second, .val (.long v231d10_s0), .second, .val (.int v396d10_s0), .val (.int ((gg84 oo.toNatClampNeg) &&& (255 : Int32))), .val (.int v435d10_s0), .val (.int v456d10_s0), .val (.int v546d10_s0), .val (.long (f5_0 (f5_0 (f5_0 (f5_0 (f5_0 ((((gg84 oo.toNatClampNeg) &&& (255 : Int32)) &&& v435d10_s0).toInt64) oo le84 (1 : Int32) gg84) oo le84 (2 : Int32) gg84) oo le84 (3 : Int32) gg84) oo le84 (4 : Int32) gg84) oo le84 (5 : Int32) gg84)), .second] [])) (fun _ k => XS.lstore X106.here hx rfl (hb hby at_631) rfl (l' := #[.val (.int p0), .val (.int p1), .val (.int p2), .val (.int (0 : Int32)), .val (.int xx), .val (.int oo), .val (.int ss), .val (.ref b54), .val (.ref w_UNICODE), .val (.int le84), .val (.long v209d10_s0), .second, .val (.long v231d10_s0), .second, .val (.int v396d10_s0), .val (.int ((gg84 oo.toNatClampNeg) &&& (255 : Int32))), .val (.int v435d10_s0), .val (.int v456d10_s0), .val (.int v546d10_s0), .val (.long (f5_0 (f5_0 (f5_0 (f5_0 (f5_0 ((((gg84 oo.toNatClampNeg) &&& (255 : Int32)) &&& v435d10_s0).toInt64) oo le84 (1 : Int32) gg84) oo le84 (2 : Int32) gg84) oo le84 (3 : Int32) gg84) oo le84 (4 : Int32) gg84) oo le84 (5 : Int32) gg84)), .second]) rfl k) ?_
                                  refine Go.step (g' := (mkF m 635 #[.val (.int p0), .val (.int p1), .val (.int p2), .val (.int (0 : Int32)), .val (.int xx), .val (.int oo), .val (.int ss), .val (.ref b54), .val (.ref w_UNICODE), .val (.int le84), .val (.long v209d10_s0), .second, .val (.long v231d10_s0), .second, .val (.int v396d10_s0), .val (.int ((gg84 oo.toNatClampNeg) &&& (255 : Int32))), .val (.int v435d10_s0), .val (.int v456d10_s0), .val (.int v546d10_s0), .val (.long (f5_0 (f5_0 (f5_0 (f5_0 (f5_0 ((((gg84 oo.toNatClampNeg) &&& (255 : Int32)) &&& v435d10_s0).toInt64) oo le84 (1 : Int32) gg84) oo le84 (2 : Int32) gg84) oo le84 (3 : Int32) gg84) oo le84 (4 : Int32) gg84) oo le84 (5 : Int32) gg84)), .second] [(.long (f5_0 (f5_0 (f5_0 (f5_0 (f5_0 ((((gg84 oo.toNatClampNeg) &&& (255 : Int32)) &&& v435d10_s0).toInt64) oo le84 (1 : Int32) gg84) oo le84 (2 : Int32) gg84) oo le84 (3 : Int32) gg84) oo le84 (4 : Int32) gg84) oo le84 (5 : Int32) gg84))])) (fun _ k => XS.lload X106.here hx rfl (hb hby at_633) rfl  k) ?_
                                  refine Go.step (g' := (mkF m 637 #[.val (.int p0), .val (.int p1), .val (.int p2), .val (.int (0 : Int32)), .val (.int xx), .val (.int oo), .val (.int ss), .val (.ref b54), .val (.ref w_UNICODE), .val (.int le84), .val (.long v209d10_s0), .second, .val (.long v231d10_s0), .second, .val (.int v396d10_s0), .val (.int ((gg84 oo.toNatClampNeg) &&& (255 : Int32))), .val (.int v435d10_s0), .val (.int v456d10_s0), .val (.int v546d10_s0), .val (.long (f5_0 (f5_0 (f5_0 (f5_0 (f5_0 ((((gg84 oo.toNatClampNeg) &&& (255 : Int32)) &&& v435d10_s0).toInt64) oo le84 (1 : Int32) gg84) oo le84 (2 : Int32) gg84) oo le84 (3 : Int32) gg84) oo le84 (4 : Int32) gg84) oo le84 (5 : Int32) gg84)), .second] [(.int xx), (.long (f5_0 (f5_0 (f5_0 (f5_0 (f5_0 ((((gg84 oo.toNatClampNeg) &&& (255 : Int32)) &&& v435d10_s0).toInt64) oo le84 (1 : Int32) gg84) oo le84 (2 : Int32) gg84) oo le84 (3 : Int32) gg84) oo le84 (4 : Int32) gg84) oo le84 (5 : Int32) gg84))])) (fun _ k => XS.iload X106.here hx rfl (hb hby at_635) rfl  k) ?_
                                  refine Go.step (g' := (mkF m 638 #[.val (.int p0), .val (.int p1), .val (.int p2), .val (.int (0 : Int32)), .val (.int xx), .val (.int oo), .val (.int ss), .val (.ref b54), .val (.ref w_UNICODE), .val (.int le84), .val (.long v209d10_s0), .second, .val (.long v231d10_s0), .second, .val (.int v396d10_s0), .val (.int ((gg84 oo.toNatClampNeg) &&& (255 : Int32))), .val (.int v435d10_s0), .val (.int v456d10_s0), .val (.int v546d10_s0), .val (.long (f5_0 (f5_0 (f5_0 (f5_0 (f5_0 ((((gg84 oo.toNatClampNeg) &&& (255 : Int32)) &&& v435d10_s0).toInt64) oo le84 (1 : Int32) gg84) oo le84 (2 : Int32) gg84) oo le84 (3 : Int32) gg84) oo le84 (4 : Int32) gg84) oo le84 (5 : Int32) gg84)), .second] [(.long (xx.toInt64)), (.long (f5_0 (f5_0 (f5_0 (f5_0 (f5_0 ((((gg84 oo.toNatClampNeg) &&& (255 : Int32)) &&& v435d10_s0).toInt64) oo le84 (1 : Int32) gg84) oo le84 (2 : Int32) gg84) oo le84 (3 : Int32) gg84) oo le84 (4 : Int32) gg84) oo le84 (5 : Int32) gg84))])) (fun _ k => XS.i2l X106.here hx rfl (hb hby at_637) rfl k) ?_
                                  refine Go.step (g' := (mkF m 639 #[.val (.int p0), .val (.int p1), .val (.int p2), .val (.int (0 : Int32)), .val (.int xx), .val (.int oo), .val (.int ss), .val (.ref b54), .val (.ref w_UNICODE), .val (.int le84), .val (.long v209d10_s0), .second, .val (.long v231d10_s0), .second, .val (.int v396d10_s0), .val (.int ((gg84 oo.toNatClampNeg) &&& (255 : Int32))), .val (.int v435d10_s0), .val (.int v456d10_s0), .val (.int v546d10_s0), .val (.long (f5_0 (f5_0 (f5_0 (f5_0 (f5_0 ((((gg84 oo.toNatClampNeg) &&& (255 : Int32)) &&& v435d10_s0).toInt64) oo le84 (1 : Int32) gg84) oo le84 (2 : Int32) gg84) oo le84 (3 : Int32) gg84) oo le84 (4 : Int32) gg84) oo le84 (5 : Int32) gg84)), .second] [(.int (lcmpW (f5_0 (f5_0 (f5_0 (f5_0 (f5_0 ((((gg84 oo.toNatClampNeg) &&& (255 : Int32)) &&& v435d10_s0).toInt64) oo le84 (1 : Int32) gg84) oo le84 (2 : Int32) gg84) oo le84 (3 : Int32) gg84) oo le84 (4 : Int32) gg84) oo le84 (5 : Int32) gg84) (xx.toInt64)))])) (fun _ k => XS.lcmp X106.here hx rfl (hb hby at_638) rfl k) ?_
                                  have t647d10 : ∀ (v647d10_s0 : Int32), Go p e below s room_1.cells room_1.slots (LawQ (some (.int (f0_647d10 v647d10_s0))) n0) T106 (mkF m 647 #[.val (.int p0), .val (.int p1), .val (.int p2), .val (.int (0 : Int32)), .val (.int xx), .val (.int oo), .val (.int ss), .val (.ref b54), .val (.ref w_UNICODE), .val (.int le84), .val (.long v209d10_s0), .second, .val (.long v231d10_s0), .second, .val (.int v396d10_s0), .val (.int ((gg84 oo.toNatClampNeg) &&& (255 : Int32))), .val (.int v435d10_s0), .val (.int v456d10_s0), .val (.int v546d10_s0), .val (.long (f5_0 (f5_0 (f5_0 (f5_0 (f5_0 ((((gg84 oo.toNatClampNeg) &&& (255 : Int32)) &&& v435d10_s0).toInt64) oo le84 (1 : Int32) gg84) oo le84 (2 : Int32) gg84) oo le84 (3 : Int32) gg84) oo le84 (4 : Int32) gg84) oo le84 (5 : Int32) gg84)), .second] [(.int v647d10_s0)]) := by
                                    intro v647d10_s0
                                    exact Go.retN X106 hx hlk (t := .boolean) Bd.returns (by simp) (hb hby at_647) (by decide) (by decide) ⟨rfl, N84⟩
                                  by_cases hc639d10 : (lcmpW (f5_0 (f5_0 (f5_0 (f5_0 (f5_0 ((((gg84 oo.toNatClampNeg) &&& (255 : Int32)) &&& v435d10_s0).toInt64) oo le84 (1 : Int32) gg84) oo le84 (2 : Int32) gg84) oo le84 (3 : Int32) gg84) oo le84 (4 : Int32) gg84) oo le84 (5 : Int32) gg84) (xx.toInt64)) = (0 : Int32)
                                  · rw [show (f0_555d10 xx oo le84 gg84 v435d10_s0) = f0_642d10 from if_pos hc639d10]
                                    refine Go.step (g' := (mkF m 642 #[.val (.int p0), .val (.int p1), .val (.int p2), .val (.int (0 : Int32)), .val (.int xx), .val (.int oo), .val (.int ss), .val (.ref b54), .val (.ref w_UNICODE), .val (.int le84), .val (.long v209d10_s0), .second, .val (.long v231d10_s0), .second, .val (.int v396d10_s0), .val (.int ((gg84 oo.toNatClampNeg) &&& (255 : Int32))), .val (.int v435d10_s0), .val (.int v456d10_s0), .val (.int v546d10_s0), .val (.long (f5_0 (f5_0 (f5_0 (f5_0 (f5_0 ((((gg84 oo.toNatClampNeg) &&& (255 : Int32)) &&& v435d10_s0).toInt64) oo le84 (1 : Int32) gg84) oo le84 (2 : Int32) gg84) oo le84 (3 : Int32) gg84) oo le84 (4 : Int32) gg84) oo le84 (5 : Int32) gg84)), .second] [])) (fun _ k => XS.ifNo X106.here hx rfl (hb hby at_639) rfl ((if0 _ _).trans (teq hc639d10).2) k) ?_
                                    refine Go.step (g' := (mkF m 643 #[.val (.int p0), .val (.int p1), .val (.int p2), .val (.int (0 : Int32)), .val (.int xx), .val (.int oo), .val (.int ss), .val (.ref b54), .val (.ref w_UNICODE), .val (.int le84), .val (.long v209d10_s0), .second, .val (.long v231d10_s0), .second, .val (.int v396d10_s0), .val (.int ((gg84 oo.toNatClampNeg) &&& (255 : Int32))), .val (.int v435d10_s0), .val (.int v456d10_s0), .val (.int v546d10_s0), .val (.long (f5_0 (f5_0 (f5_0 (f5_0 (f5_0 ((((gg84 oo.toNatClampNeg) &&& (255 : Int32)) &&& v435d10_s0).toInt64) oo le84 (1 : Int32) gg84) oo le84 (2 : Int32) gg84) oo le84 (3 : Int32) gg84) oo le84 (4 : Int32) gg84) oo le84 (5 : Int32) gg84)), .second] [(.int (1 : Int32))])) (fun _ k => XS.iconst X106.here hx rfl (hb hby at_642) k) ?_
                                    refine Go.step (g' := (mkF m 647 #[.val (.int p0), .val (.int p1), .val (.int p2), .val (.int (0 : Int32)), .val (.int xx), .val (.int oo), .val (.int ss), .val (.ref b54), .val (.ref w_UNICODE), .val (.int le84), .val (.long v209d10_s0), .second, .val (.long v231d10_s0), .second, .val (.int v396d10_s0), .val (.int ((gg84 oo.toNatClampNeg) &&& (255 : Int32))), .val (.int v435d10_s0), .val (.int v456d10_s0), .val (.int v546d10_s0), .val (.long (f5_0 (f5_0 (f5_0 (f5_0 (f5_0 ((((gg84 oo.toNatClampNeg) &&& (255 : Int32)) &&& v435d10_s0).toInt64) oo le84 (1 : Int32) gg84) oo le84 (2 : Int32) gg84) oo le84 (3 : Int32) gg84) oo le84 (4 : Int32) gg84) oo le84 (5 : Int32) gg84)), .second] [(.int (1 : Int32))])) (fun _ k => XS.goto X106.here hx rfl (pc0 := 643) (pc' := 647) rfl (hb hby at_643) (by decide) (by decide) k) ?_
                                    rw [show f0_642d10 = (f0_647d10 (1 : Int32)) from rfl]
                                    exact t647d10 (1 : Int32)
                                  · rw [show (f0_555d10 xx oo le84 gg84 v435d10_s0) = f0_646d10 from if_neg hc639d10]
                                    refine Go.step (g' := (mkF m 646 #[.val (.int p0), .val (.int p1), .val (.int p2), .val (.int (0 : Int32)), .val (.int xx), .val (.int oo), .val (.int ss), .val (.ref b54), .val (.ref w_UNICODE), .val (.int le84), .val (.long v209d10_s0), .second, .val (.long v231d10_s0), .second, .val (.int v396d10_s0), .val (.int ((gg84 oo.toNatClampNeg) &&& (255 : Int32))), .val (.int v435d10_s0), .val (.int v456d10_s0), .val (.int v546d10_s0), .val (.long (f5_0 (f5_0 (f5_0 (f5_0 (f5_0 ((((gg84 oo.toNatClampNeg) &&& (255 : Int32)) &&& v435d10_s0).toInt64) oo le84 (1 : Int32) gg84) oo le84 (2 : Int32) gg84) oo le84 (3 : Int32) gg84) oo le84 (4 : Int32) gg84) oo le84 (5 : Int32) gg84)), .second] [])) (fun _ k => XS.ifYes X106.here hx rfl (pc0 := 639) (pc' := 646) rfl (hb hby at_639) rfl ((if0 _ _).trans (feq hc639d10).2) (by decide) (by decide) k) ?_
                                    refine Go.step (g' := (mkF m 647 #[.val (.int p0), .val (.int p1), .val (.int p2), .val (.int (0 : Int32)), .val (.int xx), .val (.int oo), .val (.int ss), .val (.ref b54), .val (.ref w_UNICODE), .val (.int le84), .val (.long v209d10_s0), .second, .val (.long v231d10_s0), .second, .val (.int v396d10_s0), .val (.int ((gg84 oo.toNatClampNeg) &&& (255 : Int32))), .val (.int v435d10_s0), .val (.int v456d10_s0), .val (.int v546d10_s0), .val (.long (f5_0 (f5_0 (f5_0 (f5_0 (f5_0 ((((gg84 oo.toNatClampNeg) &&& (255 : Int32)) &&& v435d10_s0).toInt64) oo le84 (1 : Int32) gg84) oo le84 (2 : Int32) gg84) oo le84 (3 : Int32) gg84) oo le84 (4 : Int32) gg84) oo le84 (5 : Int32) gg84)), .second] [(.int (0 : Int32))])) (fun _ k => XS.iconst X106.here hx rfl (hb hby at_646) k) ?_
                                    rw [show f0_646d10 = (f0_647d10 (0 : Int32)) from rfl]
                                    exact t647d10 (0 : Int32)
                              have t545d10 : ∀ (T_545d10 : State) (X_545d10 : Stand p l e room_1 s m #[(.int p0), (.int p1), (.int p2)] below meth c T_545d10 lc84 ((0 + 1) + 0) ((0 + 9) + 0)) (e_545d10 : T_545d10.heap = T84.heap), Go p e below s room_1.cells room_1.slots (LawQ (some (.int (f0_545d10 xx oo le84 gg84 v435d10_s0))) n0) T_545d10 (mkF m 545 #[.val (.int p0), .val (.int p1), .val (.int p2), .val (.int (0 : Int32)), .val (.int xx), .val (.int oo), .val (.int ss), .val (.ref b54), .val (.ref w_UNICODE), .val (.int le84), .val (.long v209d10_s0), .second, .val (.long v231d10_s0), .second, .val (.int v396d10_s0), .val (.int ((gg84 oo.toNatClampNeg) &&& (255 : Int32))), .val (.int v435d10_s0), .val (.int v456d10_s0), .unset, .unset, .unset] []) := by
                                intro T_545d10 X_545d10 e_545d10
                                refine Go.step (g' := (mkF m 546 #[.val (.int p0), .val (.int p1), .val (.int p2), .val (.int (0 : Int32)), .val (.int xx), .val (.int oo), .val (.int ss), .val (.ref b54), .val (.ref w_UNICODE), .val (.int le84), .val (.long v209d10_s0), .second, .val (.long v231d10_s0), .second, .val (.int v396d10_s0), .val (.int ((gg84 oo.toNatClampNeg) &&& (255 : Int32))), .val (.int v435d10_s0), .val (.int v456d10_s0), .unset, .unset, .unset] [(.int (0 : Int32))])) (fun _ k => XS.iconst X_545d10.here hx rfl (hb hby at_545) k) ?_
                                rw [show (f0_545d10 xx oo le84 gg84 v435d10_s0) = (f0_546d10 xx oo le84 gg84 v435d10_s0 (0 : Int32)) from rfl]
                                exact t546d10 T_545d10 X_545d10 e_545d10 (0 : Int32)
                              by_cases hc486d10 : (f4_0 oo le84 (1 : Int32) gg84) = (0 : Int32)
                              · rw [show (f0_476d10 xx oo le84 gg84 v435d10_s0) = (f0_545d10 xx oo le84 gg84 v435d10_s0) from if_pos hc486d10]
                                refine Go.step (g' := (mkF m 545 #[.val (.int p0), .val (.int p1), .val (.int p2), .val (.int (0 : Int32)), .val (.int xx), .val (.int oo), .val (.int ss), .val (.ref b54), .val (.ref w_UNICODE), .val (.int le84), .val (.long v209d10_s0), .second, .val (.long v231d10_s0), .second, .val (.int v396d10_s0), .val (.int ((gg84 oo.toNatClampNeg) &&& (255 : Int32))), .val (.int v435d10_s0), .val (.int v456d10_s0), .unset, .unset, .unset] [])) (fun _ k => XS.ifYes X97.here hx rfl (pc0 := 486) (pc' := 545) rfl (hb hby at_486) rfl ((if0 _ _).trans (teq hc486d10).1) (by decide) (by decide) k) ?_
                                exact t545d10 T97 X97 e97
                              · rw [show (f0_476d10 xx oo le84 gg84 v435d10_s0) = (f0_489d10 xx oo le84 gg84 v435d10_s0) from if_neg hc486d10]
                                refine Go.step (g' := (mkF m 489 #[.val (.int p0), .val (.int p1), .val (.int p2), .val (.int (0 : Int32)), .val (.int xx), .val (.int oo), .val (.int ss), .val (.ref b54), .val (.ref w_UNICODE), .val (.int le84), .val (.long v209d10_s0), .second, .val (.long v231d10_s0), .second, .val (.int v396d10_s0), .val (.int ((gg84 oo.toNatClampNeg) &&& (255 : Int32))), .val (.int v435d10_s0), .val (.int v456d10_s0), .unset, .unset, .unset] [])) (fun _ k => XS.ifNo X97.here hx rfl (hb hby at_486) rfl ((if0 _ _).trans (feq hc486d10).1) k) ?_
                                refine Go.step (g' := (mkF m 491 #[.val (.int p0), .val (.int p1), .val (.int p2), .val (.int (0 : Int32)), .val (.int xx), .val (.int oo), .val (.int ss), .val (.ref b54), .val (.ref w_UNICODE), .val (.int le84), .val (.long v209d10_s0), .second, .val (.long v231d10_s0), .second, .val (.int v396d10_s0), .val (.int ((gg84 oo.toNatClampNeg) &&& (255 : Int32))), .val (.int v435d10_s0), .val (.int v456d10_s0), .unset, .unset, .unset] [(.ref b54)])) (fun _ k => XS.aload X97.here hx rfl (hb hby at_489) rfl rfl  k) ?_
                                refine Go.step (g' := (mkF m 493 #[.val (.int p0), .val (.int p1), .val (.int p2), .val (.int (0 : Int32)), .val (.int xx), .val (.int oo), .val (.int ss), .val (.ref b54), .val (.ref w_UNICODE), .val (.int le84), .val (.long v209d10_s0), .second, .val (.long v231d10_s0), .second, .val (.int v396d10_s0), .val (.int ((gg84 oo.toNatClampNeg) &&& (255 : Int32))), .val (.int v435d10_s0), .val (.int v456d10_s0), .unset, .unset, .unset] [(.int oo), (.ref b54)])) (fun _ k => XS.iload X97.here hx rfl (hb hby at_491) rfl  k) ?_
                                refine Go.step (g' := (mkF m 495 #[.val (.int p0), .val (.int p1), .val (.int p2), .val (.int (0 : Int32)), .val (.int xx), .val (.int oo), .val (.int ss), .val (.ref b54), .val (.ref w_UNICODE), .val (.int le84), .val (.long v209d10_s0), .second, .val (.long v231d10_s0), .second, .val (.int v396d10_s0), .val (.int ((gg84 oo.toNatClampNeg) &&& (255 : Int32))), .val (.int v435d10_s0), .val (.int v456d10_s0), .unset, .unset, .unset] [(.int le84), (.int oo), (.ref b54)])) (fun _ k => XS.iload X97.here hx rfl (hb hby at_493) rfl  k) ?_
                                refine Go.step (g' := (mkF m 496 #[.val (.int p0), .val (.int p1), .val (.int p2), .val (.int (0 : Int32)), .val (.int xx), .val (.int oo), .val (.int ss), .val (.ref b54), .val (.ref w_UNICODE), .val (.int le84), .val (.long v209d10_s0), .second, .val (.long v231d10_s0), .second, .val (.int v396d10_s0), .val (.int ((gg84 oo.toNatClampNeg) &&& (255 : Int32))), .val (.int v435d10_s0), .val (.int v456d10_s0), .unset, .unset, .unset] [(.int (2 : Int32)), (.int le84), (.int oo), (.ref b54)])) (fun _ k => XS.iconst X97.here hx rfl (hb hby at_495) k) ?_
                                obtain ⟨_, _, ⟨T98, L98, k98, n98⟩, -, X98, ⟨Lc98, hQ98, l98, y98, z98⟩, st98⟩ := Jvm.LawKit.callS X97 hx (y := (⟨"com/example/ucs_to_octets/ucstooctets/Utf8EncodePinLaw", "tailOk", "([BIII)Z"⟩ : MethodName)) hown (mvT hZ (hw _ (List.mem_of_getElem? (i := 23) rfl))) (mvT hZ (hw _ (List.mem_of_getElem? (i := 24) rfl))) (mvT hZ (hw _ (List.mem_of_getElem? (i := 21) rfl))) (mvT hZ (hw _ (List.mem_of_getElem? (i := 25) rfl))) (by decide) (backOf (W := 0) (rm4 l Z a0 hw [] b54 oo le84 (2 : Int32) gg84 T84.heap Ac84 (own_ix ho 2)) hZ (hw _ (List.mem_of_getElem? (i := 25) rfl)) (hw _ (List.mem_of_getElem? (i := 21) rfl)) (by decide) (by decide)) (g := (mkF m 496 #[.val (.int p0), .val (.int p1), .val (.int p2), .val (.int (0 : Int32)), .val (.int xx), .val (.int oo), .val (.int ss), .val (.ref b54), .val (.ref w_UNICODE), .val (.int le84), .val (.long v209d10_s0), .second, .val (.long v231d10_s0), .second, .val (.int v396d10_s0), .val (.int ((gg84 oo.toNatClampNeg) &&& (255 : Int32))), .val (.int v435d10_s0), .val (.int v456d10_s0), .unset, .unset, .unset] [(.int (2 : Int32)), (.int le84), (.int oo), (.ref b54)])) rfl (by rw [hml]; rfl) (argsL := [(.ref b54), (.int oo), (.int le84), (.int (2 : Int32))]) (rest := []) (lenOf pd_4 rfl) rfl (by show 2 * 0 + _ ≤ _; exact Nat.le_of_eq rfl) (hb hby at_496) (fun _ _ => ⟨rfl, e97, (by decide : ((0 + 1) + 0) + 0 ≤ _), (by decide : ((0 + 9) + 0) + 0 ≤ _)⟩)
                                dsimp only [Pt.U, Pt.locs, Pt.cells, Pt.slots] at X98 l98 y98 z98 st98 hQ98
                                subst l98 y98 z98
                                obtain ⟨rfl, rfl, e98⟩ := hQ98
                                try rw [List.append_nil] at X98
                                refine Go.step (g' := (mkF m 499 #[.val (.int p0), .val (.int p1), .val (.int p2), .val (.int (0 : Int32)), .val (.int xx), .val (.int oo), .val (.int ss), .val (.ref b54), .val (.ref w_UNICODE), .val (.int le84), .val (.long v209d10_s0), .second, .val (.long v231d10_s0), .second, .val (.int v396d10_s0), .val (.int ((gg84 oo.toNatClampNeg) &&& (255 : Int32))), .val (.int v435d10_s0), .val (.int v456d10_s0), .unset, .unset, .unset] [(.int (f4_0 oo le84 (2 : Int32) gg84))])) st98 ?_
                                by_cases hc499d10 : (f4_0 oo le84 (2 : Int32) gg84) = (0 : Int32)
                                · rw [show (f0_489d10 xx oo le84 gg84 v435d10_s0) = (f0_545d10 xx oo le84 gg84 v435d10_s0) from if_pos hc499d10]
                                  refine Go.step (g' := (mkF m 545 #[.val (.int p0), .val (.int p1), .val (.int p2), .val (.int (0 : Int32)), .val (.int xx), .val (.int oo), .val (.int ss), .val (.ref b54), .val (.ref w_UNICODE), .val (.int le84), .val (.long v209d10_s0), .second, .val (.long v231d10_s0), .second, .val (.int v396d10_s0), .val (.int ((gg84 oo.toNatClampNeg) &&& (255 : Int32))), .val (.int v435d10_s0), .val (.int v456d10_s0), .unset, .unset, .unset] [])) (fun _ k => XS.ifYes X98.here hx rfl (pc0 := 499) (pc' := 545) rfl (hb hby at_499) rfl ((if0 _ _).trans (teq hc499d10).1) (by decide) (by decide) k) ?_
                                  exact t545d10 T98 X98 e98
                                · rw [show (f0_489d10 xx oo le84 gg84 v435d10_s0) = (f0_502d10 xx oo le84 gg84 v435d10_s0) from if_neg hc499d10]
                                  refine Go.step (g' := (mkF m 502 #[.val (.int p0), .val (.int p1), .val (.int p2), .val (.int (0 : Int32)), .val (.int xx), .val (.int oo), .val (.int ss), .val (.ref b54), .val (.ref w_UNICODE), .val (.int le84), .val (.long v209d10_s0), .second, .val (.long v231d10_s0), .second, .val (.int v396d10_s0), .val (.int ((gg84 oo.toNatClampNeg) &&& (255 : Int32))), .val (.int v435d10_s0), .val (.int v456d10_s0), .unset, .unset, .unset] [])) (fun _ k => XS.ifNo X98.here hx rfl (hb hby at_499) rfl ((if0 _ _).trans (feq hc499d10).1) k) ?_
                                  refine Go.step (g' := (mkF m 504 #[.val (.int p0), .val (.int p1), .val (.int p2), .val (.int (0 : Int32)), .val (.int xx), .val (.int oo), .val (.int ss), .val (.ref b54), .val (.ref w_UNICODE), .val (.int le84), .val (.long v209d10_s0), .second, .val (.long v231d10_s0), .second, .val (.int v396d10_s0), .val (.int ((gg84 oo.toNatClampNeg) &&& (255 : Int32))), .val (.int v435d10_s0), .val (.int v456d10_s0), .unset, .unset, .unset] [(.ref b54)])) (fun _ k => XS.aload X98.here hx rfl (hb hby at_502) rfl rfl  k) ?_
                                  refine Go.step (g' := (mkF m 506 #[.val (.int p0), .val (.int p1), .val (.int p2), .val (.int (0 : Int32)), .val (.int xx), .val (.int oo), .val (.int ss), .val (.ref b54), .val (.ref w_UNICODE), .val (.int le84), .val (.long v209d10_s0), .second, .val (.long v231d10_s0), .second, .val (.int v396d10_s0), .val (.int ((gg84 oo.toNatClampNeg) &&& (255 : Int32))), .val (.int v435d10_s0), .val (.int v456d10_s0), .unset, .unset, .unset] [(.int oo), (.ref b54)])) (fun _ k => XS.iload X98.here hx rfl (hb hby at_504) rfl  k) ?_
                                  refine Go.step (g' := (mkF m 508 #[.val (.int p0), .val (.int p1), .val (.int p2), .val (.int (0 : Int32)), .val (.int xx), .val (.int oo), .val (.int ss), .val (.ref b54), .val (.ref w_UNICODE), .val (.int le84), .val (.long v209d10_s0), .second, .val (.long v231d10_s0), .second, .val (.int v396d10_s0), .val (.int ((gg84 oo.toNatClampNeg) &&& (255 : Int32))), .val (.int v435d10_s0), .val (.int v456d10_s0), .unset, .unset, .unset] [(.int le84), (.int oo), (.ref b54)])) (fun _ k => XS.iload X98.here hx rfl (hb hby at_506) rfl  k) ?_
                                  refine Go.step (g' := (mkF m 509 #[.val (.int p0), .val (.int p1), .val (.int p2), .val (.int (0 : Int32)), .val (.int xx), .val (.int oo), .val (.int ss), .val (.ref b54), .val (.ref w_UNICODE), .val (.int le84), .val (.long v209d10_s0), .second, .val (.long v231d10_s0), .second, .val (.int v396d10_s0), .val (.int ((gg84 oo.toNatClampNeg) &&& (255 : Int32))), .val (.int v435d10_s0), .val (.int v456d10_s0), .unset, .unset, .unset] [(.int (3 : Int32)), (.int le84), (.int oo), (.ref b54)])) (fun _ k => XS.iconst X98.here hx rfl (hb hby at_508) k) ?_
                                  obtain ⟨_, _, ⟨T99, L99, k99, n99⟩, -, X99, ⟨Lc99, hQ99, l99, y99, z99⟩, st99⟩ := Jvm.LawKit.callS X98 hx (y := (⟨"com/example/ucs_to_octets/ucstooctets/Utf8EncodePinLaw", "tailOk", "([BIII)Z"⟩ : MethodName)) hown (mvT hZ (hw _ (List.mem_of_getElem? (i := 23) rfl))) (mvT hZ (hw _ (List.mem_of_getElem? (i := 24) rfl))) (mvT hZ (hw _ (List.mem_of_getElem? (i := 21) rfl))) (mvT hZ (hw _ (List.mem_of_getElem? (i := 25) rfl))) (by decide) (backOf (W := 0) (rm4 l Z a0 hw [] b54 oo le84 (3 : Int32) gg84 T84.heap Ac84 (own_ix ho 3)) hZ (hw _ (List.mem_of_getElem? (i := 25) rfl)) (hw _ (List.mem_of_getElem? (i := 21) rfl)) (by decide) (by decide)) (g := (mkF m 509 #[.val (.int p0), .val (.int p1), .val (.int p2), .val (.int (0 : Int32)), .val (.int xx), .val (.int oo), .val (.int ss), .val (.ref b54), .val (.ref w_UNICODE), .val (.int le84), .val (.long v209d10_s0), .second, .val (.long v231d10_s0), .second, .val (.int v396d10_s0), .val (.int ((gg84 oo.toNatClampNeg) &&& (255 : Int32))), .val (.int v435d10_s0), .val (.int v456d10_s0), .unset, .unset, .unset] [(.int (3 : Int32)), (.int le84), (.int oo), (.ref b54)])) rfl (by rw [hml]; rfl) (argsL := [(.ref b54), (.int oo), (.int le84), (.int (3 : Int32))]) (rest := []) (lenOf pd_4 rfl) rfl (by show 2 * 0 + _ ≤ _; exact Nat.le_of_eq rfl) (hb hby at_509) (fun _ _ => ⟨rfl, e98, (by decide : ((0 + 1) + 0) + 0 ≤ _), (by decide : ((0 + 9) + 0) + 0 ≤ _)⟩)
                                  dsimp only [Pt.U, Pt.locs, Pt.cells, Pt.slots] at X99 l99 y99 z99 st99 hQ99
                                  subst l99 y99 z99
                                  obtain ⟨rfl, rfl, e99⟩ := hQ99
                                  try rw [List.append_nil] at X99
                                  refine Go.step (g' := (mkF m 512 #[.val (.int p0), .val (.int p1), .val (.int p2), .val (.int (0 : Int32)), .val (.int xx), .val (.int oo), .val (.int ss), .val (.ref b54), .val (.ref w_UNICODE), .val (.int le84), .val (.long v209d10_s0), .second, .val (.long v231d10_s0), .second, .val (.int v396d10_s0), .val (.int ((gg84 oo.toNatClampNeg) &&& (255 : Int32))), .val (.int v435d10_s0), .val (.int v456d10_s0), .unset, .unset, .unset] [(.int (f4_0 oo le84 (3 : Int32) gg84))])) st99 ?_
                                  by_cases hc512d10 : (f4_0 oo le84 (3 : Int32) gg84) = (0 : Int32)
                                  · rw [show (f0_502d10 xx oo le84 gg84 v435d10_s0) = (f0_545d10 xx oo le84 gg84 v435d10_s0) from if_pos hc512d10]
                                    refine Go.step (g' := (mkF m 545 #[.val (.int p0), .val (.int p1), .val (.int p2), .val (.int (0 : Int32)), .val (.int xx), .val (.int oo), .val (.int ss), .val (.ref b54), .val (.ref w_UNICODE), .val (.int le84), .val (.long v209d10_s0), .second, .val (.long v231d10_s0), .second, .val (.int v396d10_s0), .val (.int ((gg84 oo.toNatClampNeg) &&& (255 : Int32))), .val (.int v435d10_s0), .val (.int v456d10_s0), .unset, .unset, .unset] [])) (fun _ k => XS.ifYes X99.here hx rfl (pc0 := 512) (pc' := 545) rfl (hb hby at_512) rfl ((if0 _ _).trans (teq hc512d10).1) (by decide) (by decide) k) ?_
                                    exact t545d10 T99 X99 e99
                                  · rw [show (f0_502d10 xx oo le84 gg84 v435d10_s0) = (f0_515d10 xx oo le84 gg84 v435d10_s0) from if_neg hc512d10]
                                    refine Go.step (g' := (mkF m 515 #[.val (.int p0), .val (.int p1), .val (.int p2), .val (.int (0 : Int32)), .val (.int xx), .val (.int oo), .val (.int ss), .val (.ref b54), .val (.ref w_UNICODE), .val (.int le84), .val (.long v209d10_s0), .second, .val (.long v231d10_s0), .second, .val (.int v396d10_s0), .val (.int ((gg84 oo.toNatClampNeg) &&& (255 : Int32))), .val (.int v435d10_s0), .val (.int v456d10_s0), .unset, .unset, .unset] [])) (fun _ k => XS.ifNo X99.here hx rfl (hb hby at_512) rfl ((if0 _ _).trans (feq hc512d10).1) k) ?_
                                    refine Go.step (g' := (mkF m 517 #[.val (.int p0), .val (.int p1), .val (.int p2), .val (.int (0 : Int32)), .val (.int xx), .val (.int oo), .val (.int ss), .val (.ref b54), .val (.ref w_UNICODE), .val (.int le84), .val (.long v209d10_s0), .second, .val (.long v231d10_s0), .second, .val (.int v396d10_s0), .val (.int ((gg84 oo.toNatClampNeg) &&& (255 : Int32))), .val (.int v435d10_s0), .val (.int v456d10_s0), .unset, .unset, .unset] [(.ref b54)])) (fun _ k => XS.aload X99.here hx rfl (hb hby at_515) rfl rfl  k) ?_
                                    refine Go.step (g' := (mkF m 519 #[.val (.int p0), .val (.int p1), .val (.int p2), .val (.int (0 : Int32)), .val (.int xx), .val (.int oo), .val (.int ss), .val (.ref b54), .val (.ref w_UNICODE), .val (.int le84), .val (.long v209d10_s0), .second, .val (.long v231d10_s0), .second, .val (.int v396d10_s0), .val (.int ((gg84 oo.toNatClampNeg) &&& (255 : Int32))), .val (.int v435d10_s0), .val (.int v456d10_s0), .unset, .unset, .unset] [(.int oo), (.ref b54)])) (fun _ k => XS.iload X99.here hx rfl (hb hby at_517) rfl  k) ?_
                                    refine Go.step (g' := (mkF m 521 #[.val (.int p0), .val (.int p1), .val (.int p2), .val (.int (0 : Int32)), .val (.int xx), .val (.int oo), .val (.int ss), .val (.ref b54), .val (.ref w_UNICODE), .val (.int le84), .val (.long v209d10_s0), .second, .val (.long v231d10_s0), .second, .val (.int v396d10_s0), .val (.int ((gg84 oo.toNatClampNeg) &&& (255 : Int32))), .val (.int v435d10_s0), .val (.int v456d10_s0), .unset, .unset, .unset] [(.int le84), (.int oo), (.ref b54)])) (fun _ k => XS.iload X99.here hx rfl (hb hby at_519) rfl  k) ?_
                                    refine Go.step (g' := (mkF m 522 #[.val (.int p0), .val (.int p1), .val (.int p2), .val (.int (0 : Int32)), .val (.int xx), .val (.int oo), .val (.int ss), .val (.ref b54), .val (.ref w_UNICODE), .val (.int le84), .val (.long v209d10_s0), .second, .val (.long v231d10_s0), .second, .val (.int v396d10_s0), .val (.int ((gg84 oo.toNatClampNeg) &&& (255 : Int32))), .val (.int v435d10_s0), .val (.int v456d10_s0), .unset, .unset, .unset] [(.int (4 : Int32)), (.int le84), (.int oo), (.ref b54)])) (fun _ k => XS.iconst X99.here hx rfl (hb hby at_521) k) ?_
                                    obtain ⟨_, _, ⟨T100, L100, k100, n100⟩, -, X100, ⟨Lc100, hQ100, l100, y100, z100⟩, st100⟩ := Jvm.LawKit.callS X99 hx (y := (⟨"com/example/ucs_to_octets/ucstooctets/Utf8EncodePinLaw", "tailOk", "([BIII)Z"⟩ : MethodName)) hown (mvT hZ (hw _ (List.mem_of_getElem? (i := 23) rfl))) (mvT hZ (hw _ (List.mem_of_getElem? (i := 24) rfl))) (mvT hZ (hw _ (List.mem_of_getElem? (i := 21) rfl))) (mvT hZ (hw _ (List.mem_of_getElem? (i := 25) rfl))) (by decide) (backOf (W := 0) (rm4 l Z a0 hw [] b54 oo le84 (4 : Int32) gg84 T84.heap Ac84 (own_ix ho 4)) hZ (hw _ (List.mem_of_getElem? (i := 25) rfl)) (hw _ (List.mem_of_getElem? (i := 21) rfl)) (by decide) (by decide)) (g := (mkF m 522 #[.val (.int p0), .val (.int p1), .val (.int p2), .val (.int (0 : Int32)), .val (.int xx), .val (.int oo), .val (.int ss), .val (.ref b54), .val (.ref w_UNICODE), .val (.int le84), .val (.long v209d10_s0), .second, .val (.long v231d10_s0), .second, .val (.int v396d10_s0), .val (.int ((gg84 oo.toNatClampNeg) &&& (255 : Int32))), .val (.int v435d10_s0), .val (.int v456d10_s0), .unset, .unset, .unset] [(.int (4 : Int32)), (.int le84), (.int oo), (.ref b54)])) rfl (by rw [hml]; rfl) (argsL := [(.ref b54), (.int oo), (.int le84), (.int (4 : Int32))]) (rest := []) (lenOf pd_4 rfl) rfl (by show 2 * 0 + _ ≤ _; exact Nat.le_of_eq rfl) (hb hby at_522) (fun _ _ => ⟨rfl, e99, (by decide : ((0 + 1) + 0) + 0 ≤ _), (by decide : ((0 + 9) + 0) + 0 ≤ _)⟩)
                                    dsimp only [Pt.U, Pt.locs, Pt.cells, Pt.slots] at X100 l100 y100 z100 st100 hQ100
                                    subst l100 y100 z100
                                    obtain ⟨rfl, rfl, e100⟩ := hQ100
                                    try rw [List.append_nil] at X100
                                    refine Go.step (g' := (mkF m 525 #[.val (.int p0), .val (.int p1), .val (.int p2), .val (.int (0 : Int32)), .val (.int xx), .val (.int oo), .val (.int ss), .val (.ref b54), .val (.ref w_UNICODE), .val (.int le84), .val (.long v209d10_s0), .second, .val (.long v231d10_s0), .second, .val (.int v396d10_s0), .val (.int ((gg84 oo.toNatClampNeg) &&& (255 : Int32))), .val (.int v435d10_s0), .val (.int v456d10_s0), .unset, .unset, .unset] [(.int (f4_0 oo le84 (4 : Int32) gg84))])) st100 ?_
                                    by_cases hc525d10 : (f4_0 oo le84 (4 : Int32) gg84) = (0 : Int32)
                                    · rw [show (f0_515d10 xx oo le84 gg84 v435d10_s0) = (f0_545d10 xx oo le84 gg84 v435d10_s0) from if_pos hc525d10]
                                      refine Go.step (g' := (mkF m 545 #[.val (.int p0), .val (.int p1), .val (.int p2), .val (.int (0 : Int32)), .val (.int xx), .val (.int oo), .val (.int ss), .val (.ref b54), .val (.ref w_UNICODE), .val (.int le84), .val (.long v209d10_s0), .second, .val (.long v231d10_s0), .second, .val (.int v396d10_s0), .val (.int ((gg84 oo.toNatClampNeg) &&& (255 : Int32))), .val (.int v435d10_s0), .val (.int v456d10_s0), .unset, .unset, .unset] [])) (fun _ k => XS.ifYes X100.here hx rfl (pc0 := 525) (pc' := 545) rfl (hb hby at_525) rfl ((if0 _ _).trans (teq hc525d10).1) (by decide) (by decide) k) ?_
                                      exact t545d10 T100 X100 e100
                                    · rw [show (f0_515d10 xx oo le84 gg84 v435d10_s0) = (f0_528d10 xx oo le84 gg84 v435d10_s0) from if_neg hc525d10]
                                      refine Go.step (g' := (mkF m 528 #[.val (.int p0), .val (.int p1), .val (.int p2), .val (.int (0 : Int32)), .val (.int xx), .val (.int oo), .val (.int ss), .val (.ref b54), .val (.ref w_UNICODE), .val (.int le84), .val (.long v209d10_s0), .second, .val (.long v231d10_s0), .second, .val (.int v396d10_s0), .val (.int ((gg84 oo.toNatClampNeg) &&& (255 : Int32))), .val (.int v435d10_s0), .val (.int v456d10_s0), .unset, .unset, .unset] [])) (fun _ k => XS.ifNo X100.here hx rfl (hb hby at_525) rfl ((if0 _ _).trans (feq hc525d10).1) k) ?_
                                      refine Go.step (g' := (mkF m 530 #[.val (.int p0), .val (.int p1), .val (.int p2), .val (.int (0 : Int32)), .val (.int xx), .val (.int oo), .val (.int ss), .val (.ref b54), .val (.ref w_UNICODE), .val (.int le84), .val (.long v209d10_s0), .second, .val (.long v231d10_s0), .second, .val (.int v396d10_s0), .val (.int ((gg84 oo.toNatClampNeg) &&& (255 : Int32))), .val (.int v435d10_s0), .val (.int v456d10_s0), .unset, .unset, .unset] [(.ref b54)])) (fun _ k => XS.aload X100.here hx rfl (hb hby at_528) rfl rfl  k) ?_
                                      refine Go.step (g' := (mkF m 532 #[.val (.int p0), .val (.int p1), .val (.int p2), .val (.int (0 : Int32)), .val (.int xx), .val (.int oo), .val (.int ss), .val (.ref b54), .val (.ref w_UNICODE), .val (.int le84), .val (.long v209d10_s0), .second, .val (.long v231d10_s0), .second, .val (.int v396d10_s0), .val (.int ((gg84 oo.toNatClampNeg) &&& (255 : Int32))), .val (.int v435d10_s0), .val (.int v456d10_s0), .unset, .unset, .unset] [(.int oo), (.ref b54)])) (fun _ k => XS.iload X100.here hx rfl (hb hby at_530) rfl  k) ?_
                                      refine Go.step (g' := (mkF m 534 #[.val (.int p0), .val (.int p1), .val (.int p2), .val (.int (0 : Int32)), .val (.int xx), .val (.int oo), .val (.int ss), .val (.ref b54), .val (.ref w_UNICODE), .val (.int le84), .val (.long v209d10_s0), .second, .val (.long v231d10_s0), .second, .val (.int v396d10_s0), .val (.int ((gg84 oo.toNatClampNeg) &&& (255 : Int32))), .val (.int v435d10_s0), .val (.int v456d10_s0), .unset, .unset, .unset] [(.int le84), (.int oo), (.ref b54)])) (fun _ k => XS.iload X100.here hx rfl (hb hby at_532) rfl  k) ?_
                                      refine Go.step (g' := (mkF m 535 #[.val (.int p0), .val (.int p1), .val (.int p2), .val (.int (0 : Int32)), .val (.int xx), .val (.int oo), .val (.int ss), .val (.ref b54), .val (.ref w_UNICODE), .val (.int le84), .val (.long v209d10_s0), .second, .val (.long v231d10_s0), .second, .val (.int v396d10_s0), .val (.int ((gg84 oo.toNatClampNeg) &&& (255 : Int32))), .val (.int v435d10_s0), .val (.int v456d10_s0), .unset, .unset, .unset] [(.int (5 : Int32)), (.int le84), (.int oo), (.ref b54)])) (fun _ k => XS.iconst X100.here hx rfl (hb hby at_534) k) ?_
                                      obtain ⟨_, _, ⟨T101, L101, k101, n101⟩, -, X101, ⟨Lc101, hQ101, l101, y101, z101⟩, st101⟩ := Jvm.LawKit.callS X100 hx (y := (⟨"com/example/ucs_to_octets/ucstooctets/Utf8EncodePinLaw", "tailOk", "([BIII)Z"⟩ : MethodName)) hown (mvT hZ (hw _ (List.mem_of_getElem? (i := 23) rfl))) (mvT hZ (hw _ (List.mem_of_getElem? (i := 24) rfl))) (mvT hZ (hw _ (List.mem_of_getElem? (i := 21) rfl))) (mvT hZ (hw _ (List.mem_of_getElem? (i := 25) rfl))) (by decide) (backOf (W := 0) (rm4 l Z a0 hw [] b54 oo le84 (5 : Int32) gg84 T84.heap Ac84 (own_ix ho 5)) hZ (hw _ (List.mem_of_getElem? (i := 25) rfl)) (hw _ (List.mem_of_getElem? (i := 21) rfl)) (by decide) (by decide)) (g := (mkF m 535 #[.val (.int p0), .val (.int p1), .val (.int p2), .val (.int (0 : Int32)), .val (.int xx), .val (.int oo), .val (.int ss), .val (.ref b54), .val (.ref w_UNICODE), .val (.int le84), .val (.long v209d10_s0), .second, .val (.long v231d10_s0), .second, .val (.int v396d10_s0), .val (.int ((gg84 oo.toNatClampNeg) &&& (255 : Int32))), .val (.int v435d10_s0), .val (.int v456d10_s0), .unset, .unset, .unset] [(.int (5 : Int32)), (.int le84), (.int oo), (.ref b54)])) rfl (by rw [hml]; rfl) (argsL := [(.ref b54), (.int oo), (.int le84), (.int (5 : Int32))]) (rest := []) (lenOf pd_4 rfl) rfl (by show 2 * 0 + _ ≤ _; exact Nat.le_of_eq rfl) (hb hby at_535) (fun _ _ => ⟨rfl, e100, (by decide : ((0 + 1) + 0) + 0 ≤ _), (by decide : ((0 + 9) + 0) + 0 ≤ _)⟩)
                                      dsimp only [Pt.U, Pt.locs, Pt.cells, Pt.slots] at X101 l101 y101 z101 st101 hQ101
                                      subst l101 y101 z101
                                      obtain ⟨rfl, rfl, e101⟩ := hQ101
                                      try rw [List.append_nil] at X101
                                      refine Go.step (g' := (mkF m 538 #[.val (.int p0), .val (.int p1), .val (.int p2), .val (.int (0 : Int32)), .val (.int xx), .val (.int oo), .val (.int ss), .val (.ref b54), .val (.ref w_UNICODE), .val (.int le84), .val (.long v209d10_s0), .second, .val (.long v231d10_s0), .second, .val (.int v396d10_s0), .val (.int ((gg84 oo.toNatClampNeg) &&& (255 : Int32))), .val (.int v435d10_s0), .val (.int v456d10_s0), .unset, .unset, .unset] [(.int (f4_0 oo le84 (5 : Int32) gg84))])) st101 ?_
                                      by_cases hc538d10 : (f4_0 oo le84 (5 : Int32) gg84) = (0 : Int32)
                                      · rw [show (f0_528d10 xx oo le84 gg84 v435d10_s0) = (f0_545d10 xx oo le84 gg84 v435d10_s0) from if_pos hc538d10]
                                        refine Go.step (g' := (mkF m 545 #[.val (.int p0), .val (.int p1), .val (.int p2), .val (.int (0 : Int32)), .val (.int xx), .val (.int oo), .val (.int ss), .val (.ref b54), .val (.ref w_UNICODE), .val (.int le84), .val (.long v209d10_s0), .second, .val (.long v231d10_s0), .second, .val (.int v396d10_s0), .val (.int ((gg84 oo.toNatClampNeg) &&& (255 : Int32))), .val (.int v435d10_s0), .val (.int v456d10_s0), .unset, .unset, .unset] [])) (fun _ k => XS.ifYes X101.here hx rfl (pc0 := 538) (pc' := 545) rfl (hb hby at_538) rfl ((if0 _ _).trans (teq hc538d10).1) (by decide) (by decide) k) ?_
                                        exact t545d10 T101 X101 e101
                                      · rw [show (f0_528d10 xx oo le84 gg84 v435d10_s0) = (f0_541d10 xx oo le84 gg84 v435d10_s0) from if_neg hc538d10]
                                        refine Go.step (g' := (mkF m 541 #[.val (.int p0), .val (.int p1), .val (.int p2), .val (.int (0 : Int32)), .val (.int xx), .val (.int oo), .val (.int ss), .val (.ref b54), .val (.ref w_UNICODE), .val (.int le84), .val (.long v209d10_s0), .second, .val (.long v231d10_s0), .second, .val (.int v396d10_s0), .val (.int ((gg84 oo.toNatClampNeg) &&& (255 : Int32))), .val (.int v435d10_s0), .val (.int v456d10_s0), .unset, .unset, .unset] [])) (fun _ k => XS.ifNo X101.here hx rfl (hb hby at_538) rfl ((if0 _ _).trans (feq hc538d10).1) k) ?_
                                        refine Go.step (g' := (mkF m 542 #[.val (.int p0), .val (.int p1), .val (.int p2), .val (.int (0 : Int32)), .val (.int xx), .val (.int oo), .val (.int ss), .val (.ref b54), .val (.ref w_UNICODE), .val (.int le84), .val (.long v209d10_s0), .second, .val (.long v231d10_s0), .second, .val (.int v396d10_s0), .val (.int ((gg84 oo.toNatClampNeg) &&& (255 : Int32))), .val (.int v435d10_s0), .val (.int v456d10_s0), .unset, .unset, .unset] [(.int (1 : Int32))])) (fun _ k => XS.iconst X101.here hx rfl (hb hby at_541) k) ?_
                                        refine Go.step (g' := (mkF m 546 #[.val (.int p0), .val (.int p1), .val (.int p2), .val (.int (0 : Int32)), .val (.int xx), .val (.int oo), .val (.int ss), .val (.ref b54), .val (.ref w_UNICODE), .val (.int le84), .val (.long v209d10_s0), .second, .val (.long v231d10_s0), .second, .val (.int v396d10_s0), .val (.int ((gg84 oo.toNatClampNeg) &&& (255 : Int32))), .val (.int v435d10_s0), .val (.int v456d10_s0), .unset, .unset, .unset] [(.int (1 : Int32))])) (fun _ k => XS.goto X101.here hx rfl (pc0 := 542) (pc' := 546) rfl (hb hby at_542) (by decide) (by decide) k) ?_
                                        rw [show (f0_541d10 xx oo le84 gg84 v435d10_s0) = (f0_546d10 xx oo le84 gg84 v435d10_s0 (1 : Int32)) from rfl]
                                        exact t546d10 T101 X101 e101 (1 : Int32)
                            · rw [show (f0_456d10 xx oo le84 gg84 v435d10_s0 v456d10_s0) = f0_474d10 from if_neg hc471d10]
                              refine Go.step (g' := (mkF m 474 #[.val (.int p0), .val (.int p1), .val (.int p2), .val (.int (0 : Int32)), .val (.int xx), .val (.int oo), .val (.int ss), .val (.ref b54), .val (.ref w_UNICODE), .val (.int le84), .val (.long v209d10_s0), .second, .val (.long v231d10_s0), .second, .val (.int v396d10_s0), .val (.int ((gg84 oo.toNatClampNeg) &&& (255 : Int32))), .val (.int v435d10_s0), .val (.int v456d10_s0), .unset, .unset, .unset] [])) (fun _ k => XS.icmpNo X_396d10.here hx rfl (hb hby at_471) rfl (feq hc471d10).1 k) ?_
                              refine Go.step (g' := (mkF m 475 #[.val (.int p0), .val (.int p1), .val (.int p2), .val (.int (0 : Int32)), .val (.int xx), .val (.int oo), .val (.int ss), .val (.ref b54), .val (.ref w_UNICODE), .val (.int le84), .val (.long v209d10_s0), .second, .val (.long v231d10_s0), .second, .val (.int v396d10_s0), .val (.int ((gg84 oo.toNatClampNeg) &&& (255 : Int32))), .val (.int v435d10_s0), .val (.int v456d10_s0), .unset, .unset, .unset] [(.int (0 : Int32))])) (fun _ k => XS.iconst X_396d10.here hx rfl (hb hby at_474) k) ?_
                              exact Go.retN X_396d10 hx hlk (t := .boolean) Bd.returns (by simp) (hb hby at_475) (by decide) (by decide) ⟨rfl, N84⟩
                          by_cases hc440d10 : le84 = (1 : Int32)
                          · rw [show (f0_435d10 xx oo le84 gg84 v435d10_s0) = (f0_443d10 xx oo le84 gg84 v435d10_s0) from if_pos hc440d10]
                            refine Go.step (g' := (mkF m 443 #[.val (.int p0), .val (.int p1), .val (.int p2), .val (.int (0 : Int32)), .val (.int xx), .val (.int oo), .val (.int ss), .val (.ref b54), .val (.ref w_UNICODE), .val (.int le84), .val (.long v209d10_s0), .second, .val (.long v231d10_s0), .second, .val (.int v396d10_s0), .val (.int ((gg84 oo.toNatClampNeg) &&& (255 : Int32))), .val (.int v435d10_s0), .unset, .unset, .unset, .unset] [])) (fun _ k => XS.icmpNo X_396d10.here hx rfl (hb hby at_440) rfl (teq hc440d10).2 k) ?_
                            refine Go.step (g' := (mkF m 444 #[.val (.int p0), .val (.int p1), .val (.int p2), .val (.int (0 : Int32)), .val (.int xx), .val (.int oo), .val (.int ss), .val (.ref b54), .val (.ref w_UNICODE), .val (.int le84), .val (.long v209d10_s0), .second, .val (.long v231d10_s0), .second, .val (.int v396d10_s0), .val (.int ((gg84 oo.toNatClampNeg) &&& (255 : Int32))), .val (.int v435d10_s0), .unset, .unset, .unset, .unset] [(.int (0 : Int32))])) (fun _ k => XS.iconst X_396d10.here hx rfl (hb hby at_443) k) ?_
                            refine Go.step (g' := (mkF m 456 #[.val (.int p0), .val (.int p1), .val (.int p2), .val (.int (0 : Int32)), .val (.int xx), .val (.int oo), .val (.int ss), .val (.ref b54), .val (.ref w_UNICODE), .val (.int le84), .val (.long v209d10_s0), .second, .val (.long v231d10_s0), .second, .val (.int v396d10_s0), .val (.int ((gg84 oo.toNatClampNeg) &&& (255 : Int32))), .val (.int v435d10_s0), .unset, .unset, .unset, .unset] [(.int (0 : Int32))])) (fun _ k => XS.goto X_396d10.here hx rfl (pc0 := 444) (pc' := 456) rfl (hb hby at_444) (by decide) (by decide) k) ?_
                            rw [show (f0_443d10 xx oo le84 gg84 v435d10_s0) = (f0_456d10 xx oo le84 gg84 v435d10_s0 (0 : Int32)) from rfl]
                            exact t456d10 (0 : Int32)
                          · rw [show (f0_435d10 xx oo le84 gg84 v435d10_s0) = (f0_447d10 xx oo le84 gg84 v435d10_s0) from if_neg hc440d10]
                            refine Go.step (g' := (mkF m 447 #[.val (.int p0), .val (.int p1), .val (.int p2), .val (.int (0 : Int32)), .val (.int xx), .val (.int oo), .val (.int ss), .val (.ref b54), .val (.ref w_UNICODE), .val (.int le84), .val (.long v209d10_s0), .second, .val (.long v231d10_s0), .second, .val (.int v396d10_s0), .val (.int ((gg84 oo.toNatClampNeg) &&& (255 : Int32))), .val (.int v435d10_s0), .unset, .unset, .unset, .unset] [])) (fun _ k => XS.icmpYes X_396d10.here hx rfl (pc0 := 440) (pc' := 447) rfl (hb hby at_440) rfl (feq hc440d10).2 (by decide) (by decide) k) ?_
                            refine Go.step (g' := (mkF m 449 #[.val (.int p0), .val (.int p1), .val (.int p2), .val (.int (0 : Int32)), .val (.int xx), .val (.int oo), .val (.int ss), .val (.ref b54), .val (.ref w_UNICODE), .val (.int le84), .val (.long v209d10_s0), .second, .val (.long v231d10_s0), .second, .val (.int v396d10_s0), .val (.int ((gg84 oo.toNatClampNeg) &&& (255 : Int32))), .val (.int v435d10_s0), .unset, .unset, .unset, .unset] [(.int (65280 : Int32))])) (fun _ k => X_396d10.ldcI hx hown (mvT hZ (hw _ (List.mem_of_getElem? (i := 32) rfl))) rfl (hb hby at_447) k) ?_
                            refine Go.step (g' := (mkF m 451 #[.val (.int p0), .val (.int p1), .val (.int p2), .val (.int (0 : Int32)), .val (.int xx), .val (.int oo), .val (.int ss), .val (.ref b54), .val (.ref w_UNICODE), .val (.int le84), .val (.long v209d10_s0), .second, .val (.long v231d10_s0), .second, .val (.int v396d10_s0), .val (.int ((gg84 oo.toNatClampNeg) &&& (255 : Int32))), .val (.int v435d10_s0), .unset, .unset, .unset, .unset] [(.int le84), (.int (65280 : Int32))])) (fun _ k => XS.iload X_396d10.here hx rfl (hb hby at_449) rfl  k) ?_
                            refine Go.step (g' := (mkF m 452 #[.val (.int p0), .val (.int p1), .val (.int p2), .val (.int (0 : Int32)), .val (.int xx), .val (.int oo), .val (.int ss), .val (.ref b54), .val (.ref w_UNICODE), .val (.int le84), .val (.long v209d10_s0), .second, .val (.long v231d10_s0), .second, .val (.int v396d10_s0), .val (.int ((gg84 oo.toNatClampNeg) &&& (255 : Int32))), .val (.int v435d10_s0), .unset, .unset, .unset, .unset] [(.int ((65280 : Int32) >>> (le84 &&& 31)))])) (fun _ k => XS.ishr X_396d10.here hx rfl (hb hby at_451) rfl k) ?_
                            refine Go.step (g' := (mkF m 455 #[.val (.int p0), .val (.int p1), .val (.int p2), .val (.int (0 : Int32)), .val (.int xx), .val (.int oo), .val (.int ss), .val (.ref b54), .val (.ref w_UNICODE), .val (.int le84), .val (.long v209d10_s0), .second, .val (.long v231d10_s0), .second, .val (.int v396d10_s0), .val (.int ((gg84 oo.toNatClampNeg) &&& (255 : Int32))), .val (.int v435d10_s0), .unset, .unset, .unset, .unset] [(.int (255 : Int32)), (.int ((65280 : Int32) >>> (le84 &&& 31)))])) (fun _ k => XS.sipush X_396d10.here hx rfl (hb hby at_452) k) ?_
                            refine Go.step (g' := (mkF m 456 #[.val (.int p0), .val (.int p1), .val (.int p2), .val (.int (0 : Int32)), .val (.int xx), .val (.int oo), .val (.int ss), .val (.ref b54), .val (.ref w_UNICODE), .val (.int le84), .val (.long v209d10_s0), .second, .val (.long v231d10_s0), .second, .val (.int v396d10_s0), .val (.int ((gg84 oo.toNatClampNeg) &&& (255 : Int32))), .val (.int v435d10_s0), .unset, .unset, .unset, .unset] [(.int (((65280 : Int32) >>> (le84 &&& 31)) &&& (255 : Int32)))])) (fun _ k => XS.iand X_396d10.here hx rfl (hb hby at_455) rfl k) ?_
                            rw [show (f0_447d10 xx oo le84 gg84 v435d10_s0) = (f0_456d10 xx oo le84 gg84 v435d10_s0 (((65280 : Int32) >>> (le84 &&& 31)) &&& (255 : Int32))) from rfl]
                            exact t456d10 (((65280 : Int32) >>> (le84 &&& 31)) &&& (255 : Int32))
                        by_cases hc419d10 : le84 = (1 : Int32)
                        · rw [show (f0_405d10 xx oo le84 gg84) = (f0_422d10 xx oo le84 gg84) from if_pos hc419d10]
                          refine Go.step (g' := (mkF m 422 #[.val (.int p0), .val (.int p1), .val (.int p2), .val (.int (0 : Int32)), .val (.int xx), .val (.int oo), .val (.int ss), .val (.ref b54), .val (.ref w_UNICODE), .val (.int le84), .val (.long v209d10_s0), .second, .val (.long v231d10_s0), .second, .val (.int v396d10_s0), .val (.int ((gg84 oo.toNatClampNeg) &&& (255 : Int32))), .unset, .unset, .unset, .unset, .unset] [])) (fun _ k => XS.icmpNo X_396d10.here hx rfl (hb hby at_419) rfl (teq hc419d10).2 k) ?_
                          refine Go.step (g' := (mkF m 424 #[.val (.int p0), .val (.int p1), .val (.int p2), .val (.int (0 : Int32)), .val (.int xx), .val (.int oo), .val (.int ss), .val (.ref b54), .val (.ref w_UNICODE), .val (.int le84), .val (.long v209d10_s0), .second, .val (.long v231d10_s0), .second, .val (.int v396d10_s0), .val (.int ((gg84 oo.toNatClampNeg) &&& (255 : Int32))), .unset, .unset, .unset, .unset, .unset] [(.int (127 : Int32))])) (fun _ k => XS.bipush X_396d10.here hx rfl (hb hby at_422) k) ?_
                          refine Go.step (g' := (mkF m 435 #[.val (.int p0), .val (.int p1), .val (.int p2), .val (.int (0 : Int32)), .val (.int xx), .val (.int oo), .val (.int ss), .val (.ref b54), .val (.ref w_UNICODE), .val (.int le84), .val (.long v209d10_s0), .second, .val (.long v231d10_s0), .second, .val (.int v396d10_s0), .val (.int ((gg84 oo.toNatClampNeg) &&& (255 : Int32))), .unset, .unset, .unset, .unset, .unset] [(.int (127 : Int32))])) (fun _ k => XS.goto X_396d10.here hx rfl (pc0 := 424) (pc' := 435) rfl (hb hby at_424) (by decide) (by decide) k) ?_
                          rw [show (f0_422d10 xx oo le84 gg84) = (f0_435d10 xx oo le84 gg84 (127 : Int32)) from rfl]
                          exact t435d10 (127 : Int32)
                        · rw [show (f0_405d10 xx oo le84 gg84) = (f0_427d10 xx oo le84 gg84) from if_neg hc419d10]
                          refine Go.step (g' := (mkF m 427 #[.val (.int p0), .val (.int p1), .val (.int p2), .val (.int (0 : Int32)), .val (.int xx), .val (.int oo), .val (.int ss), .val (.ref b54), .val (.ref w_UNICODE), .val (.int le84), .val (.long v209d10_s0), .second, .val (.long v231d10_s0), .second, .val (.int v396d10_s0), .val (.int ((gg84 oo.toNatClampNeg) &&& (255 : Int32))), .unset, .unset, .unset, .unset, .unset] [])) (fun _ k => XS.icmpYes X_396d10.here hx rfl (pc0 := 419) (pc' := 427) rfl (hb hby at_419) rfl (feq hc419d10).2 (by decide) (by decide) k) ?_
                          refine Go.step (g' := (mkF m 430 #[.val (.int p0), .val (.int p1), .val (.int p2), .val (.int (0 : Int32)), .val (.int xx), .val (.int oo), .val (.int ss), .val (.ref b54), .val (.ref w_UNICODE), .val (.int le84), .val (.long v209d10_s0), .second, .val (.long v231d10_s0), .second, .val (.int v396d10_s0), .val (.int ((gg84 oo.toNatClampNeg) &&& (255 : Int32))), .unset, .unset, .unset, .unset, .unset] [(.int (255 : Int32))])) (fun _ k => XS.sipush X_396d10.here hx rfl (hb hby at_427) k) ?_
                          refine Go.step (g' := (mkF m 432 #[.val (.int p0), .val (.int p1), .val (.int p2), .val (.int (0 : Int32)), .val (.int xx), .val (.int oo), .val (.int ss), .val (.ref b54), .val (.ref w_UNICODE), .val (.int le84), .val (.long v209d10_s0), .second, .val (.long v231d10_s0), .second, .val (.int v396d10_s0), .val (.int ((gg84 oo.toNatClampNeg) &&& (255 : Int32))), .unset, .unset, .unset, .unset, .unset] [(.int le84), (.int (255 : Int32))])) (fun _ k => XS.iload X_396d10.here hx rfl (hb hby at_430) rfl  k) ?_
                          refine Go.step (g' := (mkF m 433 #[.val (.int p0), .val (.int p1), .val (.int p2), .val (.int (0 : Int32)), .val (.int xx), .val (.int oo), .val (.int ss), .val (.ref b54), .val (.ref w_UNICODE), .val (.int le84), .val (.long v209d10_s0), .second, .val (.long v231d10_s0), .second, .val (.int v396d10_s0), .val (.int ((gg84 oo.toNatClampNeg) &&& (255 : Int32))), .unset, .unset, .unset, .unset, .unset] [(.int (1 : Int32)), (.int le84), (.int (255 : Int32))])) (fun _ k => XS.iconst X_396d10.here hx rfl (hb hby at_432) k) ?_
                          refine Go.step (g' := (mkF m 434 #[.val (.int p0), .val (.int p1), .val (.int p2), .val (.int (0 : Int32)), .val (.int xx), .val (.int oo), .val (.int ss), .val (.ref b54), .val (.ref w_UNICODE), .val (.int le84), .val (.long v209d10_s0), .second, .val (.long v231d10_s0), .second, .val (.int v396d10_s0), .val (.int ((gg84 oo.toNatClampNeg) &&& (255 : Int32))), .unset, .unset, .unset, .unset, .unset] [(.int (le84 + (1 : Int32))), (.int (255 : Int32))])) (fun _ k => XS.iadd X_396d10.here hx rfl (hb hby at_433) rfl k) ?_
                          refine Go.step (g' := (mkF m 435 #[.val (.int p0), .val (.int p1), .val (.int p2), .val (.int (0 : Int32)), .val (.int xx), .val (.int oo), .val (.int ss), .val (.ref b54), .val (.ref w_UNICODE), .val (.int le84), .val (.long v209d10_s0), .second, .val (.long v231d10_s0), .second, .val (.int v396d10_s0), .val (.int ((gg84 oo.toNatClampNeg) &&& (255 : Int32))), .unset, .unset, .unset, .unset, .unset] [(.int ((255 : Int32) >>> ((le84 + (1 : Int32)) &&& 31)))])) (fun _ k => XS.ishr X_396d10.here hx rfl (hb hby at_434) rfl k) ?_
                          rw [show (f0_427d10 xx oo le84 gg84) = (f0_435d10 xx oo le84 gg84 ((255 : Int32) >>> ((le84 + (1 : Int32)) &&& 31))) from rfl]
                          exact t435d10 ((255 : Int32) >>> ((le84 + (1 : Int32)) &&& 31))
                    have t395d10 : ∀ (T_395d10 : State) (X_395d10 : Stand p l e room_1 s m #[(.int p0), (.int p1), (.int p2)] below meth c T_395d10 lc84 ((0 + 1) + 0) ((0 + 9) + 0)) (e_395d10 : T_395d10.heap = T84.heap), Go p e below s room_1.cells room_1.slots (LawQ (some (.int (f0_395d10 xx oo le84 gg84))) n0) T_395d10 (mkF m 395 #[.val (.int p0), .val (.int p1), .val (.int p2), .val (.int (0 : Int32)), .val (.int xx), .val (.int oo), .val (.int ss), .val (.ref b54), .val (.ref w_UNICODE), .val (.int le84), .val (.long v209d10_s0), .second, .val (.long v231d10_s0), .second, .unset, .unset, .unset, .unset, .unset, .unset, .unset] []) := by
                      intro T_395d10 X_395d10 e_395d10
                      refine Go.step (g' := (mkF m 396 #[.val (.int p0), .val (.int p1), .val (.int p2), .val (.int (0 : Int32)), .val (.int xx), .val (.int oo), .val (.int ss), .val (.ref b54), .val (.ref w_UNICODE), .val (.int le84), .val (.long v209d10_s0), .second, .val (.long v231d10_s0), .second, .unset, .unset, .unset, .unset, .unset, .unset, .unset] [(.int (0 : Int32))])) (fun _ k => XS.iconst X_395d10.here hx rfl (hb hby at_395) k) ?_
                      rw [show (f0_395d10 xx oo le84 gg84) = (f0_396d10 xx oo le84 gg84 (0 : Int32)) from rfl]
                      exact t396d10 T_395d10 X_395d10 e_395d10 (0 : Int32)
                    by_cases hc265d10 : (f3_0 (0 : Int32) oo le84 ss gg84) = (0 : Int32)
                    · rw [show (f0_253d10 xx oo ss le84 gg84) = (f0_395d10 xx oo le84 gg84) from if_pos hc265d10]
                      refine Go.step (g' := (mkF m 395 #[.val (.int p0), .val (.int p1), .val (.int p2), .val (.int (0 : Int32)), .val (.int xx), .val (.int oo), .val (.int ss), .val (.ref b54), .val (.ref w_UNICODE), .val (.int le84), .val (.long v209d10_s0), .second, .val (.long v231d10_s0), .second, .unset, .unset, .unset, .unset, .unset, .unset, .unset] [])) (fun _ k => XS.ifYes X88.here hx rfl (pc0 := 265) (pc' := 395) rfl (hb hby at_265) rfl ((if0 _ _).trans (teq hc265d10).1) (by decide) (by decide) k) ?_
                      exact t395d10 T88 X88 e88
                    · rw [show (f0_253d10 xx oo ss le84 gg84) = (f0_268d10 xx oo ss le84 gg84) from if_neg hc265d10]
                      refine Go.step (g' := (mkF m 268 #[.val (.int p0), .val (.int p1), .val (.int p2), .val (.int (0 : Int32)), .val (.int xx), .val (.int oo), .val (.int ss), .val (.ref b54), .val (.ref w_UNICODE), .val (.int le84), .val (.long v209d10_s0), .second, .val (.long v231d10_s0), .second, .unset, .unset, .unset, .unset, .unset, .unset, .unset] [])) (fun _ k => XS.ifNo X88.here hx rfl (hb hby at_265) rfl ((if0 _ _).trans (feq hc265d10).1) k) ?_
                      refine Go.step (g' := (mkF m 270 #[.val (.int p0), .val (.int p1), .val (.int p2), .val (.int (0 : Int32)), .val (.int xx), .val (.int oo), .val (.int ss), .val (.ref b54), .val (.ref w_UNICODE), .val (.int le84), .val (.long v209d10_s0), .second, .val (.long v231d10_s0), .second, .unset, .unset, .unset, .unset, .unset, .unset, .unset] [(.ref b54)])) (fun _ k => XS.aload X88.here hx rfl (hb hby at_268) rfl rfl  k) ?_
                      refine Go.step (g' := (mkF m 271 #[.val (.int p0), .val (.int p1), .val (.int p2), .val (.int (0 : Int32)), .val (.int xx), .val (.int oo), .val (.int ss), .val (.ref b54), .val (.ref w_UNICODE), .val (.int le84), .val (.long v209d10_s0), .second, .val (.long v231d10_s0), .second, .unset, .unset, .unset, .unset, .unset, .unset, .unset] [(.int (1 : Int32)), (.ref b54)])) (fun _ k => XS.iconst X88.here hx rfl (hb hby at_270) k) ?_
                      refine Go.step (g' := (mkF m 273 #[.val (.int p0), .val (.int p1), .val (.int p2), .val (.int (0 : Int32)), .val (.int xx), .val (.int oo), .val (.int ss), .val (.ref b54), .val (.ref w_UNICODE), .val (.int le84), .val (.long v209d10_s0), .second, .val (.long v231d10_s0), .second, .unset, .unset, .unset, .unset, .unset, .unset, .unset] [(.int oo), (.int (1 : Int32)), (.ref b54)])) (fun _ k => XS.iload X88.here hx rfl (hb hby at_271) rfl  k) ?_
                      refine Go.step (g' := (mkF m 275 #[.val (.int p0), .val (.int p1), .val (.int p2), .val (.int (0 : Int32)), .val (.int xx), .val (.int oo), .val (.int ss), .val (.ref b54), .val (.ref w_UNICODE), .val (.int le84), .val (.long v209d10_s0), .second, .val (.long v231d10_s0), .second, .unset, .unset, .unset, .unset, .unset, .unset, .unset] [(.int le84), (.int oo), (.int (1 : Int32)), (.ref b54)])) (fun _ k => XS.iload X88.here hx rfl (hb hby at_273) rfl  k) ?_
                      refine Go.step (g' := (mkF m 277 #[.val (.int p0), .val (.int p1), .val (.int p2), .val (.int (0 : Int32)), .val (.int xx), .val (.int oo), .val (.int ss), .val (.ref b54), .val (.ref w_UNICODE), .val (.int le84), .val (.long v209d10_s0), .second, .val (.long v231d10_s0), .second, .unset, .unset, .unset, .unset, .unset, .unset, .unset] [(.int ss), (.int le84), (.int oo), (.int (1 : Int32)), (.ref b54)])) (fun _ k => XS.iload X88.here hx rfl (hb hby at_275) rfl  k) ?_
                      obtain ⟨_, _, ⟨T89, L89, k89, n89⟩, -, X89, ⟨Lc89, hQ89, l89, y89, z89⟩, st89⟩ := Jvm.LawKit.callS X88 hx (y := (⟨"com/example/ucs_to_octets/ucstooctets/Utf8EncodePinLaw", "untouched", "([BIIIB)Z"⟩ : MethodName)) hown (mvT hZ (hw _ (List.mem_of_getElem? (i := 19) rfl))) (mvT hZ (hw _ (List.mem_of_getElem? (i := 20) rfl))) (mvT hZ (hw _ (List.mem_of_getElem? (i := 21) rfl))) (mvT hZ (hw _ (List.mem_of_getElem? (i := 22) rfl))) (by decide) (backOf (W := 0) (rm3 l Z a0 hw [] b54 (1 : Int32) oo le84 ss gg84 T84.heap Ac84 (by decide)) hZ (hw _ (List.mem_of_getElem? (i := 22) rfl)) (hw _ (List.mem_of_getElem? (i := 21) rfl)) (by decide) (by decide)) (g := (mkF m 277 #[.val (.int p0), .val (.int p1), .val (.int p2), .val (.int (0 : Int32)), .val (.int xx), .val (.int oo), .val (.int ss), .val (.ref b54), .val (.ref w_UNICODE), .val (.int le84), .val (.long v209d10_s0), .second, .val (.long v231d10_s0), .second, .unset, .unset, .unset, .unset, .unset, .unset, .unset] [(.int ss), (.int le84), (.int oo), (.int (1 : Int32)), (.ref b54)])) rfl (by rw [hml]; rfl) (argsL := [(.ref b54), (.int (1 : Int32)), (.int oo), (.int le84), (.int ss)]) (rest := []) (lenOf pd_3 rfl) rfl (by show 2 * 0 + _ ≤ _; exact Nat.le_of_eq rfl) (hb hby at_277) (fun _ _ => ⟨rfl, e88, (by decide : ((0 + 1) + 0) + 0 ≤ _), (by decide : ((0 + 9) + 0) + 0 ≤ _)⟩)
                      dsimp only [Pt.U, Pt.locs, Pt.cells, Pt.slots] at X89 l89 y89 z89 st89 hQ89
                      subst l89 y89 z89
                      obtain ⟨rfl, rfl, e89⟩ := hQ89
                      try rw [List.append_nil] at X89
                      refine Go.step (g' := (mkF m 280 #[.val (.int p0), .val (.int p1), .val (.int p2), .val (.int (0 : Int32)), .val (.int xx), .val (.int oo), .val (.int ss), .val (.ref b54), .val (.ref w_UNICODE), .val (.int le84), .val (.long v209d10_s0), .second, .val (.long v231d10_s0), .second, .unset, .unset, .unset, .unset, .unset, .unset, .unset] [(.int (f3_0 (1 : Int32) oo le84 ss gg84))])) st89 ?_
                      by_cases hc280d10 : (f3_0 (1 : Int32) oo le84 ss gg84) = (0 : Int32)
                      · rw [show (f0_268d10 xx oo ss le84 gg84) = (f0_395d10 xx oo le84 gg84) from if_pos hc280d10]
                        refine Go.step (g' := (mkF m 395 #[.val (.int p0), .val (.int p1), .val (.int p2), .val (.int (0 : Int32)), .val (.int xx), .val (.int oo), .val (.int ss), .val (.ref b54), .val (.ref w_UNICODE), .val (.int le84), .val (.long v209d10_s0), .second, .val (.long v231d10_s0), .second, .unset, .unset, .unset, .unset, .unset, .unset, .unset] [])) (fun _ k => XS.ifYes X89.here hx rfl (pc0 := 280) (pc' := 395) rfl (hb hby at_280) rfl ((if0 _ _).trans (teq hc280d10).1) (by decide) (by decide) k) ?_
                        exact t395d10 T89 X89 e89
                      · rw [show (f0_268d10 xx oo ss le84 gg84) = (f0_283d10 xx oo ss le84 gg84) from if_neg hc280d10]
                        refine Go.step (g' := (mkF m 283 #[.val (.int p0), .val (.int p1), .val (.int p2), .val (.int (0 : Int32)), .val (.int xx), .val (.int oo), .val (.int ss), .val (.ref b54), .val (.ref w_UNICODE), .val (.int le84), .val (.long v209d10_s0), .second, .val (.long v231d10_s0), .second, .unset, .unset, .unset, .unset, .unset, .unset, .unset] [])) (fun _ k => XS.ifNo X89.here hx rfl (hb hby at_280) rfl ((if0 _ _).trans (feq hc280d10).1) k) ?_
                        refine Go.step (g' := (mkF m 285 #[.val (.int p0), .val (.int p1), .val (.int p2), .val (.int (0 : Int32)), .val (.int xx), .val (.int oo), .val (.int ss), .val (.ref b54), .val (.ref w_UNICODE), .val (.int le84), .val (.long v209d10_s0), .second, .val (.long v231d10_s0), .second, .unset, .unset, .unset, .unset, .unset, .unset, .unset] [(.ref b54)])) (fun _ k => XS.aload X89.here hx rfl (hb hby at_283) rfl rfl  k) ?_
                        refine Go.step (g' := (mkF m 286 #[.val (.int p0), .val (.int p1), .val (.int p2), .val (.int (0 : Int32)), .val (.int xx), .val (.int oo), .val (.int ss), .val (.ref b54), .val (.ref w_UNICODE), .val (.int le84), .val (.long v209d10_s0), .second, .val (.long v231d10_s0), .second, .unset, .unset, .unset, .unset, .unset, .unset, .unset] [(.int (2 : Int32)), (.ref b54)])) (fun _ k => XS.iconst X89.here hx rfl (hb hby at_285) k) ?_
                        refine Go.step (g' := (mkF m 288 #[.val (.int p0), .val (.int p1), .val (.int p2), .val (.int (0 : Int32)), .val (.int xx), .val (.int oo), .val (.int ss), .val (.ref b54), .val (.ref w_UNICODE), .val (.int le84), .val (.long v209d10_s0), .second, .val (.long v231d10_s0), .second, .unset, .unset, .unset, .unset, .unset, .unset, .unset] [(.int oo), (.int (2 : Int32)), (.ref b54)])) (fun _ k => XS.iload X89.here hx rfl (hb hby at_286) rfl  k) ?_
                        refine Go.step (g' := (mkF m 290 #[.val (.int p0), .val (.int p1), .val (.int p2), .val (.int (0 : Int32)), .val (.int xx), .val (.int oo), .val (.int ss), .val (.ref b54), .val (.ref w_UNICODE), .val (.int le84), .val (.long v209d10_s0), .second, .val (.long v231d10_s0), .second, .unset, .unset, .unset, .unset, .unset, .unset, .unset] [(.int le84), (.int oo), (.int (2 : Int32)), (.ref b54)])) (fun _ k => XS.iload X89.here hx rfl (hb hby at_288) rfl  k) ?_
                        refine Go.step (g' := (mkF m 292 #[.val (.int p0), .val (.int p1), .val (.int p2), .val (.int (0 : Int32)), .val (.int xx), .val (.int oo), .val (.int ss), .val (.ref b54), .val (.ref w_UNICODE), .val (.int le84), .val (.long v209d10_s0), .second, .val (.long v231d10_s0), .second, .unset, .unset, .unset, .unset, .unset, .unset, .unset] [(.int ss), (.int le84), (.int oo), (.int (2 : Int32)), (.ref b54)])) (fun _ k => XS.iload X89.here hx rfl (hb hby at_290) rfl  k) ?_
                        obtain ⟨_, _, ⟨T90, L90, k90, n90⟩, -, X90, ⟨Lc90, hQ90, l90, y90, z90⟩, st90⟩ := Jvm.LawKit.callS X89 hx (y := (⟨"com/example/ucs_to_octets/ucstooctets/Utf8EncodePinLaw", "untouched", "([BIIIB)Z"⟩ : MethodName)) hown (mvT hZ (hw _ (List.mem_of_getElem? (i := 19) rfl))) (mvT hZ (hw _ (List.mem_of_getElem? (i := 20) rfl))) (mvT hZ (hw _ (List.mem_of_getElem? (i := 21) rfl))) (mvT hZ (hw _ (List.mem_of_getElem? (i := 22) rfl))) (by decide) (backOf (W := 0) (rm3 l Z a0 hw [] b54 (2 : Int32) oo le84 ss gg84 T84.heap Ac84 (by decide)) hZ (hw _ (List.mem_of_getElem? (i := 22) rfl)) (hw _ (List.mem_of_getElem? (i := 21) rfl)) (by decide) (by decide)) (g := (mkF m 292 #[.val (.int p0), .val (.int p1), .val (.int p2), .val (.int (0 : Int32)), .val (.int xx), .val (.int oo), .val (.int ss), .val (.ref b54), .val (.ref w_UNICODE), .val (.int le84), .val (.long v209d10_s0), .second, .val (.long v231d10_s0), .second, .unset, .unset, .unset, .unset, .unset, .unset, .unset] [(.int ss), (.int le84), (.int oo), (.int (2 : Int32)), (.ref b54)])) rfl (by rw [hml]; rfl) (argsL := [(.ref b54), (.int (2 : Int32)), (.int oo), (.int le84), (.int ss)]) (rest := []) (lenOf pd_3 rfl) rfl (by show 2 * 0 + _ ≤ _; exact Nat.le_of_eq rfl) (hb hby at_292) (fun _ _ => ⟨rfl, e89, (by decide : ((0 + 1) + 0) + 0 ≤ _), (by decide : ((0 + 9) + 0) + 0 ≤ _)⟩)
                        dsimp only [Pt.U, Pt.locs, Pt.cells, Pt.slots] at X90 l90 y90 z90 st90 hQ90
                        subst l90 y90 z90
                        obtain ⟨rfl, rfl, e90⟩ := hQ90
                        try rw [List.append_nil] at X90
                        refine Go.step (g' := (mkF m 295 #[.val (.int p0), .val (.int p1), .val (.int p2), .val (.int (0 : Int32)), .val (.int xx), .val (.int oo), .val (.int ss), .val (.ref b54), .val (.ref w_UNICODE), .val (.int le84), .val (.long v209d10_s0), .second, .val (.long v231d10_s0), .second, .unset, .unset, .unset, .unset, .unset, .unset, .unset] [(.int (f3_0 (2 : Int32) oo le84 ss gg84))])) st90 ?_
                        by_cases hc295d10 : (f3_0 (2 : Int32) oo le84 ss gg84) = (0 : Int32)
                        · rw [show (f0_283d10 xx oo ss le84 gg84) = (f0_395d10 xx oo le84 gg84) from if_pos hc295d10]
                          refine Go.step (g' := (mkF m 395 #[.val (.int p0), .val (.int p1), .val (.int p2), .val (.int (0 : Int32)), .val (.int xx), .val (.int oo), .val (.int ss), .val (.ref b54), .val (.ref w_UNICODE), .val (.int le84), .val (.long v209d10_s0), .second, .val (.long v231d10_s0), .second, .unset, .unset, .unset, .unset, .unset, .unset, .unset] [])) (fun _ k => XS.ifYes X90.here hx rfl (pc0 := 295) (pc' := 395) rfl (hb hby at_295) rfl ((if0 _ _).trans (teq hc295d10).1) (by decide) (by decide) k) ?_
                          exact t395d10 T90 X90 e90
                        · rw [show (f0_283d10 xx oo ss le84 gg84) = (f0_298d10 xx oo ss le84 gg84) from if_neg hc295d10]
                          refine Go.step (g' := (mkF m 298 #[.val (.int p0), .val (.int p1), .val (.int p2), .val (.int (0 : Int32)), .val (.int xx), .val (.int oo), .val (.int ss), .val (.ref b54), .val (.ref w_UNICODE), .val (.int le84), .val (.long v209d10_s0), .second, .val (.long v231d10_s0), .second, .unset, .unset, .unset, .unset, .unset, .unset, .unset] [])) (fun _ k => XS.ifNo X90.here hx rfl (hb hby at_295) rfl ((if0 _ _).trans (feq hc295d10).1) k) ?_
                          refine Go.step (g' := (mkF m 300 #[.val (.int p0), .val (.int p1), .val (.int p2), .val (.int (0 : Int32)), .val (.int xx), .val (.int oo), .val (.int ss), .val (.ref b54), .val (.ref w_UNICODE), .val (.int le84), .val (.long v209d10_s0), .second, .val (.long v231d10_s0), .second, .unset, .unset, .unset, .unset, .unset, .unset, .unset] [(.ref b54)])) (fun _ k => XS.aload X90.here hx rfl (hb hby at_298) rfl rfl  k) ?_
                          refine Go.step (g' := (mkF m 301 #[.val (.int p0), .val (.int p1), .val (.int p2), .val (.int (0 : Int32)), .val (.int xx), .val (.int oo), .val (.int ss), .val (.ref b54), .val (.ref w_UNICODE), .val (.int le84), .val (.long v209d10_s0), .second, .val (.long v231d10_s0), .second, .unset, .unset, .unset, .unset, .unset, .unset, .unset] [(.int (3 : Int32)), (.ref b54)])) (fun _ k => XS.iconst X90.here hx rfl (hb hby at_300) k) ?_
                          refine Go.step (g' := (mkF m 303 #[.val (.int p0), .val (.int p1), .val (.int p2), .val (.int (0 : Int32)), .val (.int xx), .val (.int oo), .val (.int ss), .val (.ref b54), .val (.ref w_UNICODE), .val (.int le84), .val (.long v209d10_s0), .second, .val (.long v231d10_s0), .second, .unset, .unset, .unset, .unset, .unset, .unset, .unset] [(.int oo), (.int (3 : Int32)), (.ref b54)])) (fun _ k => XS.iload X90.here hx rfl (hb hby at_301) rfl  k) ?_
                          refine Go.step (g' := (mkF m 305 #[.val (.int p0), .val (.int p1), .val (.int p2), .val (.int (0 : Int32)), .val (.int xx), .val (.int oo), .val (.int ss), .val (.ref b54), .val (.ref w_UNICODE), .val (.int le84), .val (.long v209d10_s0), .second, .val (.long v231d10_s0), .second, .unset, .unset, .unset, .unset, .unset, .unset, .unset] [(.int le84), (.int oo), (.int (3 : Int32)), (.ref b54)])) (fun _ k => XS.iload X90.here hx rfl (hb hby at_303) rfl  k) ?_
                          refine Go.step (g' := (mkF m 307 #[.val (.int p0), .val (.int p1), .val (.int p2), .val (.int (0 : Int32)), .val (.int xx), .val (.int oo), .val (.int ss), .val (.ref b54), .val (.ref w_UNICODE), .val (.int le84), .val (.long v209d10_s0), .second, .val (.long v231d10_s0), .second, .unset, .unset, .unset, .unset, .unset, .unset, .unset] [(.int ss), (.int le84), (.int oo), (.int (3 : Int32)), (.ref b54)])) (fun _ k => XS.iload X90.here hx rfl (hb hby at_305) rfl  k) ?_
                          obtain ⟨_, _, ⟨T91, L91, k91, n91⟩, -, X91, ⟨Lc91, hQ91, l91, y91, z91⟩, st91⟩ := Jvm.LawKit.callS X90 hx (y := (⟨"com/example/ucs_to_octets/ucstooctets/Utf8EncodePinLaw", "untouched", "([BIIIB)Z"⟩ : MethodName)) hown (mvT hZ (hw _ (List.mem_of_getElem? (i := 19) rfl))) (mvT hZ (hw _ (List.mem_of_getElem? (i := 20) rfl))) (mvT hZ (hw _ (List.mem_of_getElem? (i := 21) rfl))) (mvT hZ (hw _ (List.mem_of_getElem? (i := 22) rfl))) (by decide) (backOf (W := 0) (rm3 l Z a0 hw [] b54 (3 : Int32) oo le84 ss gg84 T84.heap Ac84 (by decide)) hZ (hw _ (List.mem_of_getElem? (i := 22) rfl)) (hw _ (List.mem_of_getElem? (i := 21) rfl)) (by decide) (by decide)) (g := (mkF m 307 #[.val (.int p0), .val (.int p1), .val (.int p2), .val (.int (0 : Int32)), .val (.int xx), .val (.int oo), .val (.int ss), .val (.ref b54), .val (.ref w_UNICODE), .val (.int le84), .val (.long v209d10_s0), .second, .val (.long v231d10_s0), .second, .unset, .unset, .unset, .unset, .unset, .unset, .unset] [(.int ss), (.int le84), (.int oo), (.int (3 : Int32)), (.ref b54)])) rfl (by rw [hml]; rfl) (argsL := [(.ref b54), (.int (3 : Int32)), (.int oo), (.int le84), (.int ss)]) (rest := []) (lenOf pd_3 rfl) rfl (by show 2 * 0 + _ ≤ _; exact Nat.le_of_eq rfl) (hb hby at_307) (fun _ _ => ⟨rfl, e90, (by decide : ((0 + 1) + 0) + 0 ≤ _), (by decide : ((0 + 9) + 0) + 0 ≤ _)⟩)
                          dsimp only [Pt.U, Pt.locs, Pt.cells, Pt.slots] at X91 l91 y91 z91 st91 hQ91
                          subst l91 y91 z91
                          obtain ⟨rfl, rfl, e91⟩ := hQ91
                          try rw [List.append_nil] at X91
                          refine Go.step (g' := (mkF m 310 #[.val (.int p0), .val (.int p1), .val (.int p2), .val (.int (0 : Int32)), .val (.int xx), .val (.int oo), .val (.int ss), .val (.ref b54), .val (.ref w_UNICODE), .val (.int le84), .val (.long v209d10_s0), .second, .val (.long v231d10_s0), .second, .unset, .unset, .unset, .unset, .unset, .unset, .unset] [(.int (f3_0 (3 : Int32) oo le84 ss gg84))])) st91 ?_
                          by_cases hc310d10 : (f3_0 (3 : Int32) oo le84 ss gg84) = (0 : Int32)
                          · rw [show (f0_298d10 xx oo ss le84 gg84) = (f0_395d10 xx oo le84 gg84) from if_pos hc310d10]
                            refine Go.step (g' := (mkF m 395 #[.val (.int p0), .val (.int p1), .val (.int p2), .val (.int (0 : Int32)), .val (.int xx), .val (.int oo), .val (.int ss), .val (.ref b54), .val (.ref w_UNICODE), .val (.int le84), .val (.long v209d10_s0), .second, .val (.long v231d10_s0), .second, .unset, .unset, .unset, .unset, .unset, .unset, .unset] [])) (fun _ k => XS.ifYes X91.here hx rfl (pc0 := 310) (pc' := 395) rfl (hb hby at_310) rfl ((if0 _ _).trans (teq hc310d10).1) (by decide) (by decide) k) ?_
                            exact t395d10 T91 X91 e91
                          · rw [show (f0_298d10 xx oo ss le84 gg84) = (f0_313d10 xx oo ss le84 gg84) from if_neg hc310d10]
                            refine Go.step (g' := (mkF m 313 #[.val (.int p0), .val (.int p1), .val (.int p2), .val (.int (0 : Int32)), .val (.int xx), .val (.int oo), .val (.int ss), .val (.ref b54), .val (.ref w_UNICODE), .val (.int le84), .val (.long v209d10_s0), .second, .val (.long v231d10_s0), .second, .unset, .unset, .unset, .unset, .unset, .unset, .unset] [])) (fun _ k => XS.ifNo X91.here hx rfl (hb hby at_310) rfl ((if0 _ _).trans (feq hc310d10).1) k) ?_
                            refine Go.step (g' := (mkF m 315 #[.val (.int p0), .val (.int p1), .val (.int p2), .val (.int (0 : Int32)), .val (.int xx), .val (.int oo), .val (.int ss), .val (.ref b54), .val (.ref w_UNICODE), .val (.int le84), .val (.long v209d10_s0), .second, .val (.long v231d10_s0), .second, .unset, .unset, .unset, .unset, .unset, .unset, .unset] [(.ref b54)])) (fun _ k => XS.aload X91.here hx rfl (hb hby at_313) rfl rfl  k) ?_
                            refine Go.step (g' := (mkF m 316 #[.val (.int p0), .val (.int p1), .val (.int p2), .val (.int (0 : Int32)), .val (.int xx), .val (.int oo), .val (.int ss), .val (.ref b54), .val (.ref w_UNICODE), .val (.int le84), .val (.long v209d10_s0), .second, .val (.long v231d10_s0), .second, .unset, .unset, .unset, .unset, .unset, .unset, .unset] [(.int (4 : Int32)), (.ref b54)])) (fun _ k => XS.iconst X91.here hx rfl (hb hby at_315) k) ?_
                            refine Go.step (g' := (mkF m 318 #[.val (.int p0), .val (.int p1), .val (.int p2), .val (.int (0 : Int32)), .val (.int xx), .val (.int oo), .val (.int ss), .val (.ref b54), .val (.ref w_UNICODE), .val (.int le84), .val (.long v209d10_s0), .second, .val (.long v231d10_s0), .second, .unset, .unset, .unset, .unset, .unset, .unset, .unset] [(.int oo), (.int (4 : Int32)), (.ref b54)])) (fun _ k => XS.iload X91.here hx rfl (hb hby at_316) rfl  k) ?_
                            refine Go.step (g' := (mkF m 320 #[.val (.int p0), .val (.int p1), .val (.int p2), .val (.int (0 : Int32)), .val (.int xx), .val (.int oo), .val (.int ss), .val (.ref b54), .val (.ref w_UNICODE), .val (.int le84), .val (.long v209d10_s0), .second, .val (.long v231d10_s0), .second, .unset, .unset, .unset, .unset, .unset, .unset, .unset] [(.int le84), (.int oo), (.int (4 : Int32)), (.ref b54)])) (fun _ k => XS.iload X91.here hx rfl (hb hby at_318) rfl  k) ?_
                            refine Go.step (g' := (mkF m 322 #[.val (.int p0), .val (.int p1), .val (.int p2), .val (.int (0 : Int32)), .val (.int xx), .val (.int oo), .val (.int ss), .val (.ref b54), .val (.ref w_UNICODE), .val (.int le84), .val (.long v209d10_s0), .second, .val (.long v231d10_s0), .second, .unset, .unset, .unset, .unset, .unset, .unset, .unset] [(.int ss), (.int le84), (.int oo), (.int (4 : Int32)), (.ref b54)])) (fun _ k => XS.iload X91.here hx rfl (hb hby at_320) rfl  k) ?_
                            obtain ⟨_, _, ⟨T92, L92, k92, n92⟩, -, X92, ⟨Lc92, hQ92, l92, y92, z92⟩, st92⟩ := Jvm.LawKit.callS X91 hx (y := (⟨"com/example/ucs_to_octets/ucstooctets/Utf8EncodePinLaw", "untouched", "([BIIIB)Z"⟩ : MethodName)) hown (mvT hZ (hw _ (List.mem_of_getElem? (i := 19) rfl))) (mvT hZ (hw _ (List.mem_of_getElem? (i := 20) rfl))) (mvT hZ (hw _ (List.mem_of_getElem? (i := 21) rfl))) (mvT hZ (hw _ (List.mem_of_getElem? (i := 22) rfl))) (by decide) (backOf (W := 0) (rm3 l Z a0 hw [] b54 (4 : Int32) oo le84 ss gg84 T84.heap Ac84 (by decide)) hZ (hw _ (List.mem_of_getElem? (i := 22) rfl)) (hw _ (List.mem_of_getElem? (i := 21) rfl)) (by decide) (by decide)) (g := (mkF m 322 #[.val (.int p0), .val (.int p1), .val (.int p2), .val (.int (0 : Int32)), .val (.int xx), .val (.int oo), .val (.int ss), .val (.ref b54), .val (.ref w_UNICODE), .val (.int le84), .val (.long v209d10_s0), .second, .val (.long v231d10_s0), .second, .unset, .unset, .unset, .unset, .unset, .unset, .unset] [(.int ss), (.int le84), (.int oo), (.int (4 : Int32)), (.ref b54)])) rfl (by rw [hml]; rfl) (argsL := [(.ref b54), (.int (4 : Int32)), (.int oo), (.int le84), (.int ss)]) (rest := []) (lenOf pd_3 rfl) rfl (by show 2 * 0 + _ ≤ _; exact Nat.le_of_eq rfl) (hb hby at_322) (fun _ _ => ⟨rfl, e91, (by decide : ((0 + 1) + 0) + 0 ≤ _), (by decide : ((0 + 9) + 0) + 0 ≤ _)⟩)
                            dsimp only [Pt.U, Pt.locs, Pt.cells, Pt.slots] at X92 l92 y92 z92 st92 hQ92
                            subst l92 y92 z92
                            obtain ⟨rfl, rfl, e92⟩ := hQ92
                            try rw [List.append_nil] at X92
                            refine Go.step (g' := (mkF m 325 #[.val (.int p0), .val (.int p1), .val (.int p2), .val (.int (0 : Int32)), .val (.int xx), .val (.int oo), .val (.int ss), .val (.ref b54), .val (.ref w_UNICODE), .val (.int le84), .val (.long v209d10_s0), .second, .val (.long v231d10_s0), .second, .unset, .unset, .unset, .unset, .unset, .unset, .unset] [(.int (f3_0 (4 : Int32) oo le84 ss gg84))])) st92 ?_
                            by_cases hc325d10 : (f3_0 (4 : Int32) oo le84 ss gg84) = (0 : Int32)
                            · rw [show (f0_313d10 xx oo ss le84 gg84) = (f0_395d10 xx oo le84 gg84) from if_pos hc325d10]
                              refine Go.step (g' := (mkF m 395 #[.val (.int p0), .val (.int p1), .val (.int p2), .val (.int (0 : Int32)), .val (.int xx), .val (.int oo), .val (.int ss), .val (.ref b54), .val (.ref w_UNICODE), .val (.int le84), .val (.long v209d10_s0), .second, .val (.long v231d10_s0), .second, .unset, .unset, .unset, .unset, .unset, .unset, .unset] [])) (fun _ k => XS.ifYes X92.here hx rfl (pc0 := 325) (pc' := 395) rfl (hb hby at_325) rfl ((if0 _ _).trans (teq hc325d10).1) (by decide) (by decide) k) ?_
                              exact t395d10 T92 X92 e92
                            · rw [show (f0_313d10 xx oo ss le84 gg84) = (f0_328d10 xx oo ss le84 gg84) from if_neg hc325d10]
                              refine Go.step (g' := (mkF m 328 #[.val (.int p0), .val (.int p1), .val (.int p2), .val (.int (0 : Int32)), .val (.int xx), .val (.int oo), .val (.int ss), .val (.ref b54), .val (.ref w_UNICODE), .val (.int le84), .val (.long v209d10_s0), .second, .val (.long v231d10_s0), .second, .unset, .unset, .unset, .unset, .unset, .unset, .unset] [])) (fun _ k => XS.ifNo X92.here hx rfl (hb hby at_325) rfl ((if0 _ _).trans (feq hc325d10).1) k) ?_
                              refine Go.step (g' := (mkF m 330 #[.val (.int p0), .val (.int p1), .val (.int p2), .val (.int (0 : Int32)), .val (.int xx), .val (.int oo), .val (.int ss), .val (.ref b54), .val (.ref w_UNICODE), .val (.int le84), .val (.long v209d10_s0), .second, .val (.long v231d10_s0), .second, .unset, .unset, .unset, .unset, .unset, .unset, .unset] [(.ref b54)])) (fun _ k => XS.aload X92.here hx rfl (hb hby at_328) rfl rfl  k) ?_
                              refine Go.step (g' := (mkF m 331 #[.val (.int p0), .val (.int p1), .val (.int p2), .val (.int (0 : Int32)), .val (.int xx), .val (.int oo), .val (.int ss), .val (.ref b54), .val (.ref w_UNICODE), .val (.int le84), .val (.long v209d10_s0), .second, .val (.long v231d10_s0), .second, .unset, .unset, .unset, .unset, .unset, .unset, .unset] [(.int (5 : Int32)), (.ref b54)])) (fun _ k => XS.iconst X92.here hx rfl (hb hby at_330) k) ?_
                              refine Go.step (g' := (mkF m 333 #[.val (.int p0), .val (.int p1), .val (.int p2), .val (.int (0 : Int32)), .val (.int xx), .val (.int oo), .val (.int ss), .val (.ref b54), .val (.ref w_UNICODE), .val (.int le84), .val (.long v209d10_s0), .second, .val (.long v231d10_s0), .second, .unset, .unset, .unset, .unset, .unset, .unset, .unset] [(.int oo), (.int (5 : Int32)), (.ref b54)])) (fun _ k => XS.iload X92.here hx rfl (hb hby at_331) rfl  k) ?_
                              refine Go.step (g' := (mkF m 335 #[.val (.int p0), .val (.int p1), .val (.int p2), .val (.int (0 : Int32)), .val (.int xx), .val (.int oo), .val (.int ss), .val (.ref b54), .val (.ref w_UNICODE), .val (.int le84), .val (.long v209d10_s0), .second, .val (.long v231d10_s0), .second, .unset, .unset, .unset, .unset, .unset, .unset, .unset] [(.int le84), (.int oo), (.int (5 : Int32)), (.ref b54)])) (fun _ k => XS.iload X92.here hx rfl (hb hby at_333) rfl  k) ?_
                              refine Go.step (g' := (mkF m 337 #[.val (.int p0), .val (.int p1), .val (.int p2), .val (.int (0 : Int32)), .val (.int xx), .val (.int oo), .val (.int ss), .val (.ref b54), .val (.ref w_UNICODE), .val (.int le84), .val (.long v209d10_s0), .second, .val (.long v231d10_s0), .second, .unset, .unset, .unset, .unset, .unset, .unset, .unset] [(.int ss), (.int le84), (.int oo), (.int (5 : Int32)), (.ref b54)])) (fun _ k => XS.iload X92.here hx rfl (hb hby at_335) rfl  k) ?_
                              obtain ⟨_, _, ⟨T93, L93, k93, n93⟩, -, X93, ⟨Lc93, hQ93, l93, y93, z93⟩, st93⟩ := Jvm.LawKit.callS X92 hx (y := (⟨"com/example/ucs_to_octets/ucstooctets/Utf8EncodePinLaw", "untouched", "([BIIIB)Z"⟩ : MethodName)) hown (mvT hZ (hw _ (List.mem_of_getElem? (i := 19) rfl))) (mvT hZ (hw _ (List.mem_of_getElem? (i := 20) rfl))) (mvT hZ (hw _ (List.mem_of_getElem? (i := 21) rfl))) (mvT hZ (hw _ (List.mem_of_getElem? (i := 22) rfl))) (by decide) (backOf (W := 0) (rm3 l Z a0 hw [] b54 (5 : Int32) oo le84 ss gg84 T84.heap Ac84 (by decide)) hZ (hw _ (List.mem_of_getElem? (i := 22) rfl)) (hw _ (List.mem_of_getElem? (i := 21) rfl)) (by decide) (by decide)) (g := (mkF m 337 #[.val (.int p0), .val (.int p1), .val (.int p2), .val (.int (0 : Int32)), .val (.int xx), .val (.int oo), .val (.int ss), .val (.ref b54), .val (.ref w_UNICODE), .val (.int le84), .val (.long v209d10_s0), .second, .val (.long v231d10_s0), .second, .unset, .unset, .unset, .unset, .unset, .unset, .unset] [(.int ss), (.int le84), (.int oo), (.int (5 : Int32)), (.ref b54)])) rfl (by rw [hml]; rfl) (argsL := [(.ref b54), (.int (5 : Int32)), (.int oo), (.int le84), (.int ss)]) (rest := []) (lenOf pd_3 rfl) rfl (by show 2 * 0 + _ ≤ _; exact Nat.le_of_eq rfl) (hb hby at_337) (fun _ _ => ⟨rfl, e92, (by decide : ((0 + 1) + 0) + 0 ≤ _), (by decide : ((0 + 9) + 0) + 0 ≤ _)⟩)
                              dsimp only [Pt.U, Pt.locs, Pt.cells, Pt.slots] at X93 l93 y93 z93 st93 hQ93
                              subst l93 y93 z93
                              obtain ⟨rfl, rfl, e93⟩ := hQ93
                              try rw [List.append_nil] at X93
                              refine Go.step (g' := (mkF m 340 #[.val (.int p0), .val (.int p1), .val (.int p2), .val (.int (0 : Int32)), .val (.int xx), .val (.int oo), .val (.int ss), .val (.ref b54), .val (.ref w_UNICODE), .val (.int le84), .val (.long v209d10_s0), .second, .val (.long v231d10_s0), .second, .unset, .unset, .unset, .unset, .unset, .unset, .unset] [(.int (f3_0 (5 : Int32) oo le84 ss gg84))])) st93 ?_
                              by_cases hc340d10 : (f3_0 (5 : Int32) oo le84 ss gg84) = (0 : Int32)
                              · rw [show (f0_328d10 xx oo ss le84 gg84) = (f0_395d10 xx oo le84 gg84) from if_pos hc340d10]
                                refine Go.step (g' := (mkF m 395 #[.val (.int p0), .val (.int p1), .val (.int p2), .val (.int (0 : Int32)), .val (.int xx), .val (.int oo), .val (.int ss), .val (.ref b54), .val (.ref w_UNICODE), .val (.int le84), .val (.long v209d10_s0), .second, .val (.long v231d10_s0), .second, .unset, .unset, .unset, .unset, .unset, .unset, .unset] [])) (fun _ k => XS.ifYes X93.here hx rfl (pc0 := 340) (pc' := 395) rfl (hb hby at_340) rfl ((if0 _ _).trans (teq hc340d10).1) (by decide) (by decide) k) ?_
                                exact t395d10 T93 X93 e93
                              · rw [show (f0_328d10 xx oo ss le84 gg84) = (f0_343d10 xx oo ss le84 gg84) from if_neg hc340d10]
                                refine Go.step (g' := (mkF m 343 #[.val (.int p0), .val (.int p1), .val (.int p2), .val (.int (0 : Int32)), .val (.int xx), .val (.int oo), .val (.int ss), .val (.ref b54), .val (.ref w_UNICODE), .val (.int le84), .val (.long v209d10_s0), .second, .val (.long v231d10_s0), .second, .unset, .unset, .unset, .unset, .unset, .unset, .unset] [])) (fun _ k => XS.ifNo X93.here hx rfl (hb hby at_340) rfl ((if0 _ _).trans (feq hc340d10).1) k) ?_
                                refine Go.step (g' := (mkF m 345 #[.val (.int p0), .val (.int p1), .val (.int p2), .val (.int (0 : Int32)), .val (.int xx), .val (.int oo), .val (.int ss), .val (.ref b54), .val (.ref w_UNICODE), .val (.int le84), .val (.long v209d10_s0), .second, .val (.long v231d10_s0), .second, .unset, .unset, .unset, .unset, .unset, .unset, .unset] [(.ref b54)])) (fun _ k => XS.aload X93.here hx rfl (hb hby at_343) rfl rfl  k) ?_
                                refine Go.step (g' := (mkF m 347 #[.val (.int p0), .val (.int p1), .val (.int p2), .val (.int (0 : Int32)), .val (.int xx), .val (.int oo), .val (.int ss), .val (.ref b54), .val (.ref w_UNICODE), .val (.int le84), .val (.long v209d10_s0), .second, .val (.long v231d10_s0), .second, .unset, .unset, .unset, .unset, .unset, .unset, .unset] [(.int (6 : Int32)), (.ref b54)])) (fun _ k => XS.bipush X93.here hx rfl (hb hby at_345) k) ?_
                                refine Go.step (g' := (mkF m 349 #[.val (.int p0), .val (.int p1), .val (.int p2), .val (.int (0 : Int32)), .val (.int xx), .val (.int oo), .val (.int ss), .val (.ref b54), .val (.ref w_UNICODE), .val (.int le84), .val (.long v209d10_s0), .second, .val (.long v231d10_s0), .second, .unset, .unset, .unset, .unset, .unset, .unset, .unset] [(.int oo), (.int (6 : Int32)), (.ref b54)])) (fun _ k => XS.iload X93.here hx rfl (hb hby at_347) rfl  k) ?_
                                refine Go.step (g' := (mkF m 351 #[.val (.int p0), .val (.int p1), .val (.int p2), .val (.int (0 : Int32)), .val (.int xx), .val (.int oo), .val (.int ss), .val (.ref b54), .val (.ref w_UNICODE), .val (.int le84), .val (.long v209d10_s0), .second, .val (.long v231d10_s0), .second, .unset, .unset, .unset, .unset, .unset, .unset, .unset] [(.int le84), (.int oo), (.int (6 : Int32)), (.ref b54)])) (fun _ k => XS.iload X93.here hx rfl (hb hby at_349) rfl  k) ?_
                                refine Go.step (g' := (mkF m 353 #[.val (.int p0), .val (.int p1), .val (.int p2), .val (.int (0 : Int32)), .val (.int xx), .val (.int oo), .val (.int ss), .val (.ref b54), .val (.ref w_UNICODE), .val (.int le84), .val (.long v209d10_s0), .second, .val (.long v231d10_s0), .second, .unset, .unset, .unset, .unset, .unset, .unset, .unset] [(.int ss), (.int le84), (.int oo), (.int (6 : Int32)), (.ref b54)])) (fun _ k => XS.iload X93.here hx rfl (hb hby at_351) rfl  k) ?_
                                obtain ⟨_, _, ⟨T94, L94, k94, n94⟩, -, X94, ⟨Lc94, hQ94, l94, y94, z94⟩, st94⟩ := Jvm.LawKit.callS X93 hx (y := (⟨"com/example/ucs_to_octets/ucstooctets/Utf8EncodePinLaw", "untouched", "([BIIIB)Z"⟩ : MethodName)) hown (mvT hZ (hw _ (List.mem_of_getElem? (i := 19) rfl))) (mvT hZ (hw _ (List.mem_of_getElem? (i := 20) rfl))) (mvT hZ (hw _ (List.mem_of_getElem? (i := 21) rfl))) (mvT hZ (hw _ (List.mem_of_getElem? (i := 22) rfl))) (by decide) (backOf (W := 0) (rm3 l Z a0 hw [] b54 (6 : Int32) oo le84 ss gg84 T84.heap Ac84 (by decide)) hZ (hw _ (List.mem_of_getElem? (i := 22) rfl)) (hw _ (List.mem_of_getElem? (i := 21) rfl)) (by decide) (by decide)) (g := (mkF m 353 #[.val (.int p0), .val (.int p1), .val (.int p2), .val (.int (0 : Int32)), .val (.int xx), .val (.int oo), .val (.int ss), .val (.ref b54), .val (.ref w_UNICODE), .val (.int le84), .val (.long v209d10_s0), .second, .val (.long v231d10_s0), .second, .unset, .unset, .unset, .unset, .unset, .unset, .unset] [(.int ss), (.int le84), (.int oo), (.int (6 : Int32)), (.ref b54)])) rfl (by rw [hml]; rfl) (argsL := [(.ref b54), (.int (6 : Int32)), (.int oo), (.int le84), (.int ss)]) (rest := []) (lenOf pd_3 rfl) rfl (by show 2 * 0 + _ ≤ _; exact Nat.le_of_eq rfl) (hb hby at_353) (fun _ _ => ⟨rfl, e93, (by decide : ((0 + 1) + 0) + 0 ≤ _), (by decide : ((0 + 9) + 0) + 0 ≤ _)⟩)
                                dsimp only [Pt.U, Pt.locs, Pt.cells, Pt.slots] at X94 l94 y94 z94 st94 hQ94
                                subst l94 y94 z94
                                obtain ⟨rfl, rfl, e94⟩ := hQ94
                                try rw [List.append_nil] at X94
                                refine Go.step (g' := (mkF m 356 #[.val (.int p0), .val (.int p1), .val (.int p2), .val (.int (0 : Int32)), .val (.int xx), .val (.int oo), .val (.int ss), .val (.ref b54), .val (.ref w_UNICODE), .val (.int le84), .val (.long v209d10_s0), .second, .val (.long v231d10_s0), .second, .unset, .unset, .unset, .unset, .unset, .unset, .unset] [(.int (f3_0 (6 : Int32) oo le84 ss gg84))])) st94 ?_
                                by_cases hc356d10 : (f3_0 (6 : Int32) oo le84 ss gg84) = (0 : Int32)
                                · rw [show (f0_343d10 xx oo ss le84 gg84) = (f0_395d10 xx oo le84 gg84) from if_pos hc356d10]
                                  refine Go.step (g' := (mkF m 395 #[.val (.int p0), .val (.int p1), .val (.int p2), .val (.int (0 : Int32)), .val (.int xx), .val (.int oo), .val (.int ss), .val (.ref b54), .val (.ref w_UNICODE), .val (.int le84), .val (.long v209d10_s0), .second, .val (.long v231d10_s0), .second, .unset, .unset, .unset, .unset, .unset, .unset, .unset] [])) (fun _ k => XS.ifYes X94.here hx rfl (pc0 := 356) (pc' := 395) rfl (hb hby at_356) rfl ((if0 _ _).trans (teq hc356d10).1) (by decide) (by decide) k) ?_
                                  exact t395d10 T94 X94 e94
                                · rw [show (f0_343d10 xx oo ss le84 gg84) = (f0_359d10 xx oo ss le84 gg84) from if_neg hc356d10]
                                  refine Go.step (g' := (mkF m 359 #[.val (.int p0), .val (.int p1), .val (.int p2), .val (.int (0 : Int32)), .val (.int xx), .val (.int oo), .val (.int ss), .val (.ref b54), .val (.ref w_UNICODE), .val (.int le84), .val (.long v209d10_s0), .second, .val (.long v231d10_s0), .second, .unset, .unset, .unset, .unset, .unset, .unset, .unset] [])) (fun _ k => XS.ifNo X94.here hx rfl (hb hby at_356) rfl ((if0 _ _).trans (feq hc356d10).1) k) ?_
                                  refine Go.step (g' := (mkF m 361 #[.val (.int p0), .val (.int p1), .val (.int p2), .val (.int (0 : Int32)), .val (.int xx), .val (.int oo), .val (.int ss), .val (.ref b54), .val (.ref w_UNICODE), .val (.int le84), .val (.long v209d10_s0), .second, .val (.long v231d10_s0), .second, .unset, .unset, .unset, .unset, .unset, .unset, .unset] [(.ref b54)])) (fun _ k => XS.aload X94.here hx rfl (hb hby at_359) rfl rfl  k) ?_
                                  refine Go.step (g' := (mkF m 363 #[.val (.int p0), .val (.int p1), .val (.int p2), .val (.int (0 : Int32)), .val (.int xx), .val (.int oo), .val (.int ss), .val (.ref b54), .val (.ref w_UNICODE), .val (.int le84), .val (.long v209d10_s0), .second, .val (.long v231d10_s0), .second, .unset, .unset, .unset, .unset, .unset, .unset, .unset] [(.int (7 : Int32)), (.ref b54)])) (fun _ k => XS.bipush X94.here hx rfl (hb hby at_361) k) ?_
                                  refine Go.step (g' := (mkF m 365 #[.val (.int p0), .val (.int p1), .val (.int p2), .val (.int (0 : Int32)), .val (.int xx), .val (.int oo), .val (.int ss), .val (.ref b54), .val (.ref w_UNICODE), .val (.int le84), .val (.long v209d10_s0), .second, .val (.long v231d10_s0), .second, .unset, .unset, .unset, .unset, .unset, .unset, .unset] [(.int oo), (.int (7 : Int32)), (.ref b54)])) (fun _ k => XS.iload X94.here hx rfl (hb hby at_363) rfl  k) ?_
                                  refine Go.step (g' := (mkF m 367 #[.val (.int p0), .val (.int p1), .val (.int p2), .val (.int (0 : Int32)), .val (.int xx), .val (.int oo), .val (.int ss), .val (.ref b54), .val (.ref w_UNICODE), .val (.int le84), .val (.long v209d10_s0), .second, .val (.long v231d10_s0), .second, .unset, .unset, .unset, .unset, .unset, .unset, .unset] [(.int le84), (.int oo), (.int (7 : Int32)), (.ref b54)])) (fun _ k => XS.iload X94.here hx rfl (hb hby at_365) rfl  k) ?_
                                  refine Go.step (g' := (mkF m 369 #[.val (.int p0), .val (.int p1), .val (.int p2), .val (.int (0 : Int32)), .val (.int xx), .val (.int oo), .val (.int ss), .val (.ref b54), .val (.ref w_UNICODE), .val (.int le84), .val (.long v209d10_s0), .second, .val (.long v231d10_s0), .second, .unset, .unset, .unset, .unset, .unset, .unset, .unset] [(.int ss), (.int le84), (.int oo), (.int (7 : Int32)), (.ref b54)])) (fun _ k => XS.iload X94.here hx rfl (hb hby at_367) rfl  k) ?_
                                  obtain ⟨_, _, ⟨T95, L95, k95, n95⟩, -, X95, ⟨Lc95, hQ95, l95, y95, z95⟩, st95⟩ := Jvm.LawKit.callS X94 hx (y := (⟨"com/example/ucs_to_octets/ucstooctets/Utf8EncodePinLaw", "untouched", "([BIIIB)Z"⟩ : MethodName)) hown (mvT hZ (hw _ (List.mem_of_getElem? (i := 19) rfl))) (mvT hZ (hw _ (List.mem_of_getElem? (i := 20) rfl))) (mvT hZ (hw _ (List.mem_of_getElem? (i := 21) rfl))) (mvT hZ (hw _ (List.mem_of_getElem? (i := 22) rfl))) (by decide) (backOf (W := 0) (rm3 l Z a0 hw [] b54 (7 : Int32) oo le84 ss gg84 T84.heap Ac84 (by decide)) hZ (hw _ (List.mem_of_getElem? (i := 22) rfl)) (hw _ (List.mem_of_getElem? (i := 21) rfl)) (by decide) (by decide)) (g := (mkF m 369 #[.val (.int p0), .val (.int p1), .val (.int p2), .val (.int (0 : Int32)), .val (.int xx), .val (.int oo), .val (.int ss), .val (.ref b54), .val (.ref w_UNICODE), .val (.int le84), .val (.long v209d10_s0), .second, .val (.long v231d10_s0), .second, .unset, .unset, .unset, .unset, .unset, .unset, .unset] [(.int ss), (.int le84), (.int oo), (.int (7 : Int32)), (.ref b54)])) rfl (by rw [hml]; rfl) (argsL := [(.ref b54), (.int (7 : Int32)), (.int oo), (.int le84), (.int ss)]) (rest := []) (lenOf pd_3 rfl) rfl (by show 2 * 0 + _ ≤ _; exact Nat.le_of_eq rfl) (hb hby at_369) (fun _ _ => ⟨rfl, e94, (by decide : ((0 + 1) + 0) + 0 ≤ _), (by decide : ((0 + 9) + 0) + 0 ≤ _)⟩)
                                  dsimp only [Pt.U, Pt.locs, Pt.cells, Pt.slots] at X95 l95 y95 z95 st95 hQ95
                                  subst l95 y95 z95
                                  obtain ⟨rfl, rfl, e95⟩ := hQ95
                                  try rw [List.append_nil] at X95
                                  refine Go.step (g' := (mkF m 372 #[.val (.int p0), .val (.int p1), .val (.int p2), .val (.int (0 : Int32)), .val (.int xx), .val (.int oo), .val (.int ss), .val (.ref b54), .val (.ref w_UNICODE), .val (.int le84), .val (.long v209d10_s0), .second, .val (.long v231d10_s0), .second, .unset, .unset, .unset, .unset, .unset, .unset, .unset] [(.int (f3_0 (7 : Int32) oo le84 ss gg84))])) st95 ?_
                                  by_cases hc372d10 : (f3_0 (7 : Int32) oo le84 ss gg84) = (0 : Int32)
                                  · rw [show (f0_359d10 xx oo ss le84 gg84) = (f0_395d10 xx oo le84 gg84) from if_pos hc372d10]
                                    refine Go.step (g' := (mkF m 395 #[.val (.int p0), .val (.int p1), .val (.int p2), .val (.int (0 : Int32)), .val (.int xx), .val (.int oo), .val (.int ss), .val (.ref b54), .val (.ref w_UNICODE), .val (.int le84), .val (.long v209d10_s0), .second, .val (.long v231d10_s0), .second, .unset, .unset, .unset, .unset, .unset, .unset, .unset] [])) (fun _ k => XS.ifYes X95.here hx rfl (pc0 := 372) (pc' := 395) rfl (hb hby at_372) rfl ((if0 _ _).trans (teq hc372d10).1) (by decide) (by decide) k) ?_
                                    exact t395d10 T95 X95 e95
                                  · rw [show (f0_359d10 xx oo ss le84 gg84) = (f0_375d10 xx oo ss le84 gg84) from if_neg hc372d10]
                                    refine Go.step (g' := (mkF m 375 #[.val (.int p0), .val (.int p1), .val (.int p2), .val (.int (0 : Int32)), .val (.int xx), .val (.int oo), .val (.int ss), .val (.ref b54), .val (.ref w_UNICODE), .val (.int le84), .val (.long v209d10_s0), .second, .val (.long v231d10_s0), .second, .unset, .unset, .unset, .unset, .unset, .unset, .unset] [])) (fun _ k => XS.ifNo X95.here hx rfl (hb hby at_372) rfl ((if0 _ _).trans (feq hc372d10).1) k) ?_
                                    refine Go.step (g' := (mkF m 377 #[.val (.int p0), .val (.int p1), .val (.int p2), .val (.int (0 : Int32)), .val (.int xx), .val (.int oo), .val (.int ss), .val (.ref b54), .val (.ref w_UNICODE), .val (.int le84), .val (.long v209d10_s0), .second, .val (.long v231d10_s0), .second, .unset, .unset, .unset, .unset, .unset, .unset, .unset] [(.ref b54)])) (fun _ k => XS.aload X95.here hx rfl (hb hby at_375) rfl rfl  k) ?_
                                    refine Go.step (g' := (mkF m 379 #[.val (.int p0), .val (.int p1), .val (.int p2), .val (.int (0 : Int32)), .val (.int xx), .val (.int oo), .val (.int ss), .val (.ref b54), .val (.ref w_UNICODE), .val (.int le84), .val (.long v209d10_s0), .second, .val (.long v231d10_s0), .second, .unset, .unset, .unset, .unset, .unset, .unset, .unset] [(.int (8 : Int32)), (.ref b54)])) (fun _ k => XS.bipush X95.here hx rfl (hb hby at_377) k) ?_
                                    refine Go.step (g' := (mkF m 381 #[.val (.int p0), .val (.int p1), .val (.int p2), .val (.int (0 : Int32)), .val (.int xx), .val (.int oo), .val (.int ss), .val (.ref b54), .val (.ref w_UNICODE), .val (.int le84), .val (.long v209d10_s0), .second, .val (.long v231d10_s0), .second, .unset, .unset, .unset, .unset, .unset, .unset, .unset] [(.int oo), (.int (8 : Int32)), (.ref b54)])) (fun _ k => XS.iload X95.here hx rfl (hb hby at_379) rfl  k) ?_
                                    refine Go.step (g' := (mkF m 383 #[.val (.int p0), .val (.int p1), .val (.int p2), .val (.int (0 : Int32)), .val (.int xx), .val (.int oo), .val (.int ss), .val (.ref b54), .val (.ref w_UNICODE), .val (.int le84), .val (.long v209d10_s0), .second, .val (.long v231d10_s0), .second, .unset, .unset, .unset, .unset, .unset, .unset, .unset] [(.int le84), (.int oo), (.int (8 : Int32)), (.ref b54)])) (fun _ k => XS.iload X95.here hx rfl (hb hby at_381) rfl  k) ?_
                                    refine Go.step (g' := (mkF m 385 #[.val (.int p0), .val (.int p1), .val (.int p2), .val (.int (0 : Int32)), .val (.int xx), .val (.int oo), .val (.int ss), .val (.ref b54), .val (.ref w_UNICODE), .val (.int le84), .val (.long v209d10_s0), .second, .val (.long v231d10_s0), .second, .unset, .unset, .unset, .unset, .unset, .unset, .unset] [(.int ss), (.int le84), (.int oo), (.int (8 : Int32)), (.ref b54)])) (fun _ k => XS.iload X95.here hx rfl (hb hby at_383) rfl  k) ?_
                                    obtain ⟨_, _, ⟨T96, L96, k96, n96⟩, -, X96, ⟨Lc96, hQ96, l96, y96, z96⟩, st96⟩ := Jvm.LawKit.callS X95 hx (y := (⟨"com/example/ucs_to_octets/ucstooctets/Utf8EncodePinLaw", "untouched", "([BIIIB)Z"⟩ : MethodName)) hown (mvT hZ (hw _ (List.mem_of_getElem? (i := 19) rfl))) (mvT hZ (hw _ (List.mem_of_getElem? (i := 20) rfl))) (mvT hZ (hw _ (List.mem_of_getElem? (i := 21) rfl))) (mvT hZ (hw _ (List.mem_of_getElem? (i := 22) rfl))) (by decide) (backOf (W := 0) (rm3 l Z a0 hw [] b54 (8 : Int32) oo le84 ss gg84 T84.heap Ac84 (by decide)) hZ (hw _ (List.mem_of_getElem? (i := 22) rfl)) (hw _ (List.mem_of_getElem? (i := 21) rfl)) (by decide) (by decide)) (g := (mkF m 385 #[.val (.int p0), .val (.int p1), .val (.int p2), .val (.int (0 : Int32)), .val (.int xx), .val (.int oo), .val (.int ss), .val (.ref b54), .val (.ref w_UNICODE), .val (.int le84), .val (.long v209d10_s0), .second, .val (.long v231d10_s0), .second, .unset, .unset, .unset, .unset, .unset, .unset, .unset] [(.int ss), (.int le84), (.int oo), (.int (8 : Int32)), (.ref b54)])) rfl (by rw [hml]; rfl) (argsL := [(.ref b54), (.int (8 : Int32)), (.int oo), (.int le84), (.int ss)]) (rest := []) (lenOf pd_3 rfl) rfl (by show 2 * 0 + _ ≤ _; exact Nat.le_of_eq rfl) (hb hby at_385) (fun _ _ => ⟨rfl, e95, (by decide : ((0 + 1) + 0) + 0 ≤ _), (by decide : ((0 + 9) + 0) + 0 ≤ _)⟩)
                                    dsimp only [Pt.U, Pt.locs, Pt.cells, Pt.slots] at X96 l96 y96 z96 st96 hQ96
                                    subst l96 y96 z96
                                    obtain ⟨rfl, rfl, e96⟩ := hQ96
                                    try rw [List.append_nil] at X96
                                    refine Go.step (g' := (mkF m 388 #[.val (.int p0), .val (.int p1), .val (.int p2), .val (.int (0 : Int32)), .val (.int xx), .val (.int oo), .val (.int ss), .val (.ref b54), .val (.ref w_UNICODE), .val (.int le84), .val (.long v209d10_s0), .second, .val (.long v231d10_s0), .second, .unset, .unset, .unset, .unset, .unset, .unset, .unset] [(.int (f3_0 (8 : Int32) oo le84 ss gg84))])) st96 ?_
                                    by_cases hc388d10 : (f3_0 (8 : Int32) oo le84 ss gg84) = (0 : Int32)
                                    · rw [show (f0_375d10 xx oo ss le84 gg84) = (f0_395d10 xx oo le84 gg84) from if_pos hc388d10]
                                      refine Go.step (g' := (mkF m 395 #[.val (.int p0), .val (.int p1), .val (.int p2), .val (.int (0 : Int32)), .val (.int xx), .val (.int oo), .val (.int ss), .val (.ref b54), .val (.ref w_UNICODE), .val (.int le84), .val (.long v209d10_s0), .second, .val (.long v231d10_s0), .second, .unset, .unset, .unset, .unset, .unset, .unset, .unset] [])) (fun _ k => XS.ifYes X96.here hx rfl (pc0 := 388) (pc' := 395) rfl (hb hby at_388) rfl ((if0 _ _).trans (teq hc388d10).1) (by decide) (by decide) k) ?_
                                      exact t395d10 T96 X96 e96
                                    · rw [show (f0_375d10 xx oo ss le84 gg84) = (f0_391d10 xx oo le84 gg84) from if_neg hc388d10]
                                      refine Go.step (g' := (mkF m 391 #[.val (.int p0), .val (.int p1), .val (.int p2), .val (.int (0 : Int32)), .val (.int xx), .val (.int oo), .val (.int ss), .val (.ref b54), .val (.ref w_UNICODE), .val (.int le84), .val (.long v209d10_s0), .second, .val (.long v231d10_s0), .second, .unset, .unset, .unset, .unset, .unset, .unset, .unset] [])) (fun _ k => XS.ifNo X96.here hx rfl (hb hby at_388) rfl ((if0 _ _).trans (feq hc388d10).1) k) ?_
                                      refine Go.step (g' := (mkF m 392 #[.val (.int p0), .val (.int p1), .val (.int p2), .val (.int (0 : Int32)), .val (.int xx), .val (.int oo), .val (.int ss), .val (.ref b54), .val (.ref w_UNICODE), .val (.int le84), .val (.long v209d10_s0), .second, .val (.long v231d10_s0), .second, .unset, .unset, .unset, .unset, .unset, .unset, .unset] [(.int (1 : Int32))])) (fun _ k => XS.iconst X96.here hx rfl (hb hby at_391) k) ?_
                                      refine Go.step (g' := (mkF m 396 #[.val (.int p0), .val (.int p1), .val (.int p2), .val (.int (0 : Int32)), .val (.int xx), .val (.int oo), .val (.int ss), .val (.ref b54), .val (.ref w_UNICODE), .val (.int le84), .val (.long v209d10_s0), .second, .val (.long v231d10_s0), .second, .unset, .unset, .unset, .unset, .unset, .unset, .unset] [(.int (1 : Int32))])) (fun _ k => XS.goto X96.here hx rfl (pc0 := 392) (pc' := 396) rfl (hb hby at_392) (by decide) (by decide) k) ?_
                                      rw [show (f0_391d10 xx oo le84 gg84) = (f0_396d10 xx oo le84 gg84 (1 : Int32)) from rfl]
                                      exact t396d10 T96 X96 e96 (1 : Int32)
                  · rw [show (f0_242d10 xx oo ss le84 gg84 v231d10_s0) = f0_251d10 from if_neg hc248d10]
                    refine Go.step (g' := (mkF m 251 #[.val (.int p0), .val (.int p1), .val (.int p2), .val (.int (0 : Int32)), .val (.int xx), .val (.int oo), .val (.int ss), .val (.ref b54), .val (.ref w_UNICODE), .val (.int le84), .val (.long v209d10_s0), .second, .val (.long v231d10_s0), .second, .unset, .unset, .unset, .unset, .unset, .unset, .unset] [])) (fun _ k => XS.ifNo X84.here hx rfl (hb hby at_248) rfl ((if0 _ _).trans (flt hc248d10).1) k) ?_
                    exact t251d10 
              by_cases hc214d10 : le84 = (1 : Int32)
              · rw [show (f0_209d10 xx oo ss le84 gg84 v209d10_s0) = (f0_217d10 xx oo ss le84 gg84 v209d10_s0) from if_pos hc214d10]
                refine Go.step (g' := (mkF m 217 #[.val (.int p0), .val (.int p1), .val (.int p2), .val (.int (0 : Int32)), .val (.int xx), .val (.int oo), .val (.int ss), .val (.ref b54), .val (.ref w_UNICODE), .val (.int le84), .val (.long v209d10_s0), .second, .unset, .unset, .unset, .unset, .unset, .unset, .unset, .unset, .unset] [])) (fun _ k => XS.icmpNo X84.here hx rfl (hb hby at_214) rfl (teq hc214d10).2 k) ?_
                refine Go.step (g' := (mkF m 220 #[.val (.int p0), .val (.int p1), .val (.int p2), .val (.int (0 : Int32)), .val (.int xx), .val (.int oo), .val (.int ss), .val (.ref b54), .val (.ref w_UNICODE), .val (.int le84), .val (.long v209d10_s0), .second, .unset, .unset, .unset, .unset, .unset, .unset, .unset, .unset, .unset] [(.long (128 : Int64))])) (fun _ k => X84.ldc2J hx hown (mvT hZ (hw _ (List.mem_of_getElem? (i := 18) rfl))) rfl (hb hby at_217) k) ?_
                refine Go.step (g' := (mkF m 231 #[.val (.int p0), .val (.int p1), .val (.int p2), .val (.int (0 : Int32)), .val (.int xx), .val (.int oo), .val (.int ss), .val (.ref b54), .val (.ref w_UNICODE), .val (.int le84), .val (.long v209d10_s0), .second, .unset, .unset, .unset, .unset, .unset, .unset, .unset, .unset, .unset] [(.long (128 : Int64))])) (fun _ k => XS.goto X84.here hx rfl (pc0 := 220) (pc' := 231) rfl (hb hby at_220) (by decide) (by decide) k) ?_
                rw [show (f0_217d10 xx oo ss le84 gg84 v209d10_s0) = (f0_231d10 xx oo ss le84 gg84 v209d10_s0 (128 : Int64)) from rfl]
                exact t231d10 (128 : Int64)
              · rw [show (f0_209d10 xx oo ss le84 gg84 v209d10_s0) = (f0_223d10 xx oo ss le84 gg84 v209d10_s0) from if_neg hc214d10]
                refine Go.step (g' := (mkF m 223 #[.val (.int p0), .val (.int p1), .val (.int p2), .val (.int (0 : Int32)), .val (.int xx), .val (.int oo), .val (.int ss), .val (.ref b54), .val (.ref w_UNICODE), .val (.int le84), .val (.long v209d10_s0), .second, .unset, .unset, .unset, .unset, .unset, .unset, .unset, .unset, .unset] [])) (fun _ k => XS.icmpYes X84.here hx rfl (pc0 := 214) (pc' := 223) rfl (hb hby at_214) rfl (feq hc214d10).2 (by decide) (by decide) k) ?_
                refine Go.step (g' := (mkF m 224 #[.val (.int p0), .val (.int p1), .val (.int p2), .val (.int (0 : Int32)), .val (.int xx), .val (.int oo), .val (.int ss), .val (.ref b54), .val (.ref w_UNICODE), .val (.int le84), .val (.long v209d10_s0), .second, .unset, .unset, .unset, .unset, .unset, .unset, .unset, .unset, .unset] [(.long (1 : Int64))])) (fun _ k => XS.lconst X84.here hx rfl (hb hby at_223) k) ?_
                refine Go.step (g' := (mkF m 225 #[.val (.int p0), .val (.int p1), .val (.int p2), .val (.int (0 : Int32)), .val (.int xx), .val (.int oo), .val (.int ss), .val (.ref b54), .val (.ref w_UNICODE), .val (.int le84), .val (.long v209d10_s0), .second, .unset, .unset, .unset, .unset, .unset, .unset, .unset, .unset, .unset] [(.int (5 : Int32)), (.long (1 : Int64))])) (fun _ k => XS.iconst X84.here hx rfl (hb hby at_224) k) ?_
                refine Go.step (g' := (mkF m 227 #[.val (.int p0), .val (.int p1), .val (.int p2), .val (.int (0 : Int32)), .val (.int xx), .val (.int oo), .val (.int ss), .val (.ref b54), .val (.ref w_UNICODE), .val (.int le84), .val (.long v209d10_s0), .second, .unset, .unset, .unset, .unset, .unset, .unset, .unset, .unset, .unset] [(.int le84), (.int (5 : Int32)), (.long (1 : Int64))])) (fun _ k => XS.iload X84.here hx rfl (hb hby at_225) rfl  k) ?_
                refine Go.step (g' := (mkF m 228 #[.val (.int p0), .val (.int p1), .val (.int p2), .val (.int (0 : Int32)), .val (.int xx), .val (.int oo), .val (.int ss), .val (.ref b54), .val (.ref w_UNICODE), .val (.int le84), .val (.long v209d10_s0), .second, .unset, .unset, .unset, .unset, .unset, .unset, .unset, .unset, .unset] [(.int ((5 : Int32) * le84)), (.long (1 : Int64))])) (fun _ k => XS.imul X84.here hx rfl (hb hby at_227) rfl k) ?_
                refine Go.step (g' := (mkF m 229 #[.val (.int p0), .val (.int p1), .val (.int p2), .val (.int (0 : Int32)), .val (.int xx), .val (.int oo), .val (.int ss), .val (.ref b54), .val (.ref w_UNICODE), .val (.int le84), .val (.long v209d10_s0), .second, .unset, .unset, .unset, .unset, .unset, .unset, .unset, .unset, .unset] [(.int (1 : Int32)), (.int ((5 : Int32) * le84)), (.long (1 : Int64))])) (fun _ k => XS.iconst X84.here hx rfl (hb hby at_228) k) ?_
                refine Go.step (g' := (mkF m 230 #[.val (.int p0), .val (.int p1), .val (.int p2), .val (.int (0 : Int32)), .val (.int xx), .val (.int oo), .val (.int ss), .val (.ref b54), .val (.ref w_UNICODE), .val (.int le84), .val (.long v209d10_s0), .second, .unset, .unset, .unset, .unset, .unset, .unset, .unset, .unset, .unset] [(.int (((5 : Int32) * le84) + (1 : Int32))), (.long (1 : Int64))])) (fun _ k => XS.iadd X84.here hx rfl (hb hby at_229) rfl k) ?_
                refine Go.step (g' := (mkF m 231 #[.val (.int p0), .val (.int p1), .val (.int p2), .val (.int (0 : Int32)), .val (.int xx), .val (.int oo), .val (.int ss), .val (.ref b54), .val (.ref w_UNICODE), .val (.int le84), .val (.long v209d10_s0), .second, .unset, .unset, .unset, .unset, .unset, .unset, .unset, .unset, .unset] [(.long ((1 : Int64) <<< ((((5 : Int32) * le84) + (1 : Int32)) &&& 0x3f).toInt64))])) (fun _ k => XS.lshl X84.here hx rfl (hb hby at_230) rfl k) ?_
                rw [show (f0_223d10 xx oo ss le84 gg84 v209d10_s0) = (f0_231d10 xx oo ss le84 gg84 v209d10_s0 ((1 : Int64) <<< ((((5 : Int32) * le84) + (1 : Int32)) &&& 0x3f).toInt64)) from rfl]
                exact t231d10 ((1 : Int64) <<< ((((5 : Int32) * le84) + (1 : Int32)) &&& 0x3f).toInt64)
            by_cases hc180d10 : le84 = (1 : Int32)
            · rw [show (f0_177d10 xx oo ss le84 gg84) = (f0_183d10 xx oo ss le84 gg84) from if_pos hc180d10]
              refine Go.step (g' := (mkF m 183 #[.val (.int p0), .val (.int p1), .val (.int p2), .val (.int (0 : Int32)), .val (.int xx), .val (.int oo), .val (.int ss), .val (.ref b54), .val (.ref w_UNICODE), .val (.int le84), .unset, .unset, .unset, .unset, .unset, .unset, .unset, .unset, .unset, .unset, .unset] [])) (fun _ k => XS.icmpNo X84.here hx rfl (hb hby at_180) rfl (teq hc180d10).2 k) ?_
              refine Go.step (g' := (mkF m 184 #[.val (.int p0), .val (.int p1), .val (.int p2), .val (.int (0 : Int32)), .val (.int xx), .val (.int oo), .val (.int ss), .val (.ref b54), .val (.ref w_UNICODE), .val (.int le84), .unset, .unset, .unset, .unset, .unset, .unset, .unset, .unset, .unset, .unset, .unset] [(.long (0 : Int64))])) (fun _ k => XS.lconst X84.here hx rfl (hb hby at_183) k) ?_
              refine Go.step (g' := (mkF m 209 #[.val (.int p0), .val (.int p1), .val (.int p2), .val (.int (0 : Int32)), .val (.int xx), .val (.int oo), .val (.int ss), .val (.ref b54), .val (.ref w_UNICODE), .val (.int le84), .unset, .unset, .unset, .unset, .unset, .unset, .unset, .unset, .unset, .unset, .unset] [(.long (0 : Int64))])) (fun _ k => XS.goto X84.here hx rfl (pc0 := 184) (pc' := 209) rfl (hb hby at_184) (by decide) (by decide) k) ?_
              rw [show (f0_183d10 xx oo ss le84 gg84) = (f0_209d10 xx oo ss le84 gg84 (0 : Int64)) from rfl]
              exact t209d10 (0 : Int64)
            · rw [show (f0_177d10 xx oo ss le84 gg84) = (f0_187d10 xx oo ss le84 gg84) from if_neg hc180d10]
              refine Go.step (g' := (mkF m 187 #[.val (.int p0), .val (.int p1), .val (.int p2), .val (.int (0 : Int32)), .val (.int xx), .val (.int oo), .val (.int ss), .val (.ref b54), .val (.ref w_UNICODE), .val (.int le84), .unset, .unset, .unset, .unset, .unset, .unset, .unset, .unset, .unset, .unset, .unset] [])) (fun _ k => XS.icmpYes X84.here hx rfl (pc0 := 180) (pc' := 187) rfl (hb hby at_180) rfl (feq hc180d10).2 (by decide) (by decide) k) ?_
              refine Go.step (g' := (mkF m 189 #[.val (.int p0), .val (.int p1), .val (.int p2), .val (.int (0 : Int32)), .val (.int xx), .val (.int oo), .val (.int ss), .val (.ref b54), .val (.ref w_UNICODE), .val (.int le84), .unset, .unset, .unset, .unset, .unset, .unset, .unset, .unset, .unset, .unset, .unset] [(.int le84)])) (fun _ k => XS.iload X84.here hx rfl (hb hby at_187) rfl  k) ?_
              refine Go.step (g' := (mkF m 190 #[.val (.int p0), .val (.int p1), .val (.int p2), .val (.int (0 : Int32)), .val (.int xx), .val (.int oo), .val (.int ss), .val (.ref b54), .val (.ref w_UNICODE), .val (.int le84), .unset, .unset, .unset, .unset, .unset, .unset, .unset, .unset, .unset, .unset, .unset] [(.int (2 : Int32)), (.int le84)])) (fun _ k => XS.iconst X84.here hx rfl (hb hby at_189) k) ?_
              by_cases hc190d10 : le84 = (2 : Int32)
              · rw [show (f0_187d10 xx oo ss le84 gg84) = (f0_193d10 xx oo ss le84 gg84) from if_pos hc190d10]
                refine Go.step (g' := (mkF m 193 #[.val (.int p0), .val (.int p1), .val (.int p2), .val (.int (0 : Int32)), .val (.int xx), .val (.int oo), .val (.int ss), .val (.ref b54), .val (.ref w_UNICODE), .val (.int le84), .unset, .unset, .unset, .unset, .unset, .unset, .unset, .unset, .unset, .unset, .unset] [])) (fun _ k => XS.icmpNo X84.here hx rfl (hb hby at_190) rfl (teq hc190d10).2 k) ?_
                refine Go.step (g' := (mkF m 196 #[.val (.int p0), .val (.int p1), .val (.int p2), .val (.int (0 : Int32)), .val (.int xx), .val (.int oo), .val (.int ss), .val (.ref b54), .val (.ref w_UNICODE), .val (.int le84), .unset, .unset, .unset, .unset, .unset, .unset, .unset, .unset, .unset, .unset, .unset] [(.long (128 : Int64))])) (fun _ k => X84.ldc2J hx hown (mvT hZ (hw _ (List.mem_of_getElem? (i := 18) rfl))) rfl (hb hby at_193) k) ?_
                refine Go.step (g' := (mkF m 209 #[.val (.int p0), .val (.int p1), .val (.int p2), .val (.int (0 : Int32)), .val (.int xx), .val (.int oo), .val (.int ss), .val (.ref b54), .val (.ref w_UNICODE), .val (.int le84), .unset, .unset, .unset, .unset, .unset, .unset, .unset, .unset, .unset, .unset, .unset] [(.long (128 : Int64))])) (fun _ k => XS.goto X84.here hx rfl (pc0 := 196) (pc' := 209) rfl (hb hby at_196) (by decide) (by decide) k) ?_
                rw [show (f0_193d10 xx oo ss le84 gg84) = (f0_209d10 xx oo ss le84 gg84 (128 : Int64)) from rfl]
                exact t209d10 (128 : Int64)
              · rw [show (f0_187d10 xx oo ss le84 gg84) = (f0_199d10 xx oo ss le84 gg84) from if_neg hc190d10]
                refine Go.step (g' := (mkF m 199 #[.val (.int p0), .val (.int p1), .val (.int p2), .val (.int (0 : Int32)), .val (.int xx), .val (.int oo), .val (.int ss), .val (.ref b54), .val (.ref w_UNICODE), .val (.int le84), .unset, .unset, .unset, .unset, .unset, .unset, .unset, .unset, .unset, .unset, .unset] [])) (fun _ k => XS.icmpYes X84.here hx rfl (pc0 := 190) (pc' := 199) rfl (hb hby at_190) rfl (feq hc190d10).2 (by decide) (by decide) k) ?_
                refine Go.step (g' := (mkF m 200 #[.val (.int p0), .val (.int p1), .val (.int p2), .val (.int (0 : Int32)), .val (.int xx), .val (.int oo), .val (.int ss), .val (.ref b54), .val (.ref w_UNICODE), .val (.int le84), .unset, .unset, .unset, .unset, .unset, .unset, .unset, .unset, .unset, .unset, .unset] [(.long (1 : Int64))])) (fun _ k => XS.lconst X84.here hx rfl (hb hby at_199) k) ?_
                refine Go.step (g' := (mkF m 201 #[.val (.int p0), .val (.int p1), .val (.int p2), .val (.int (0 : Int32)), .val (.int xx), .val (.int oo), .val (.int ss), .val (.ref b54), .val (.ref w_UNICODE), .val (.int le84), .unset, .unset, .unset, .unset, .unset, .unset, .unset, .unset, .unset, .unset, .unset] [(.int (5 : Int32)), (.long (1 : Int64))])) (fun _ k => XS.iconst X84.here hx rfl (hb hby at_200) k) ?_
                refine Go.step (g' := (mkF m 203 #[.val (.int p0), .val (.int p1), .val (.int p2), .val (.int (0 : Int32)), .val (.int xx), .val (.int oo), .val (.int ss), .val (.ref b54), .val (.ref w_UNICODE), .val (.int le84), .unset, .unset, .unset, .unset, .unset, .unset, .unset, .unset, .unset, .unset, .unset] [(.int le84), (.int (5 : Int32)), (.long (1 : Int64))])) (fun _ k => XS.iload X84.here hx rfl (hb hby at_201) rfl  k) ?_
                refine Go.step (g' := (mkF m 204 #[.val (.int p0), .val (.int p1), .val (.int p2), .val (.int (0 : Int32)), .val (.int xx), .val (.int oo), .val (.int ss), .val (.ref b54), .val (.ref w_UNICODE), .val (.int le84), .unset, .unset, .unset, .unset, .unset, .unset, .unset, .unset, .unset, .unset, .unset] [(.int (1 : Int32)), (.int le84), (.int (5 : Int32)), (.long (1 : Int64))])) (fun _ k => XS.iconst X84.here hx rfl (hb hby at_203) k) ?_
                refine Go.step (g' := (mkF m 205 #[.val (.int p0), .val (.int p1), .val (.int p2), .val (.int (0 : Int32)), .val (.int xx), .val (.int oo), .val (.int ss), .val (.ref b54), .val (.ref w_UNICODE), .val (.int le84), .unset, .unset, .unset, .unset, .unset, .unset, .unset, .unset, .unset, .unset, .unset] [(.int (le84 - (1 : Int32))), (.int (5 : Int32)), (.long (1 : Int64))])) (fun _ k => XS.isub X84.here hx rfl (hb hby at_204) rfl k) ?_
                refine Go.step (g' := (mkF m 206 #[.val (.int p0), .val (.int p1), .val (.int p2), .val (.int (0 : Int32)), .val (.int xx), .val (.int oo), .val (.int ss), .val (.ref b54), .val (.ref w_UNICODE), .val (.int le84), .unset, .unset, .unset, .unset, .unset, .unset, .unset, .unset, .unset, .unset, .unset] [(.int ((5 : Int32) * (le84 - (1 : Int32)))), (.long (1 : Int64))])) (fun _ k => XS.imul X84.here hx rfl (hb hby at_205) rfl k) ?_
                refine Go.step (g' := (mkF m 207 #[.val (.int p0), .val (.int p1), .val (.int p2), .val (.int (0 : Int32)), .val (.int xx), .val (.int oo), .val (.int ss), .val (.ref b54), .val (.ref w_UNICODE), .val (.int le84), .unset, .unset, .unset, .unset, .unset, .unset, .unset, .unset, .unset, .unset, .unset] [(.int (1 : Int32)), (.int ((5 : Int32) * (le84 - (1 : Int32)))), (.long (1 : Int64))])) (fun _ k => XS.iconst X84.here hx rfl (hb hby at_206) k) ?_
                refine Go.step (g' := (mkF m 208 #[.val (.int p0), .val (.int p1), .val (.int p2), .val (.int (0 : Int32)), .val (.int xx), .val (.int oo), .val (.int ss), .val (.ref b54), .val (.ref w_UNICODE), .val (.int le84), .unset, .unset, .unset, .unset, .unset, .unset, .unset, .unset, .unset, .unset, .unset] [(.int (((5 : Int32) * (le84 - (1 : Int32))) + (1 : Int32))), (.long (1 : Int64))])) (fun _ k => XS.iadd X84.here hx rfl (hb hby at_207) rfl k) ?_
                refine Go.step (g' := (mkF m 209 #[.val (.int p0), .val (.int p1), .val (.int p2), .val (.int (0 : Int32)), .val (.int xx), .val (.int oo), .val (.int ss), .val (.ref b54), .val (.ref w_UNICODE), .val (.int le84), .unset, .unset, .unset, .unset, .unset, .unset, .unset, .unset, .unset, .unset, .unset] [(.long ((1 : Int64) <<< ((((5 : Int32) * (le84 - (1 : Int32))) + (1 : Int32)) &&& 0x3f).toInt64))])) (fun _ k => XS.lshl X84.here hx rfl (hb hby at_208) rfl k) ?_
                rw [show (f0_199d10 xx oo ss le84 gg84) = (f0_209d10 xx oo ss le84 gg84 ((1 : Int64) <<< ((((5 : Int32) * (le84 - (1 : Int32))) + (1 : Int32)) &&& 0x3f).toInt64)) from rfl]
                exact t209d10 ((1 : Int64) <<< ((((5 : Int32) * (le84 - (1 : Int32))) + (1 : Int32)) &&& 0x3f).toInt64)
    by_cases hc36d10 : xx < (55296 : Int32)
    · rw [show (f0_32d10 xx) = f0_48d10 from if_pos hc36d10]
      refine Go.step (g' := (mkF m 48 #[.val (.int p0), .val (.int p1), .val (.int p2), .val (.int (0 : Int32)), .val (.int xx), .unset, .unset, .unset, .unset, .unset, .unset, .unset, .unset, .unset, .unset, .unset, .unset, .unset, .unset, .unset, .unset] [])) (fun _ k => XS.icmpYes X0.here hx rfl (pc0 := 36) (pc' := 48) rfl (hb hby at_36) rfl (tlt hc36d10).1 (by decide) (by decide) k) ?_
      exact t48d10 (by first | exact Or.inl (by assumption) | exact Or.inr (by assumption))
    · rw [show (f0_32d10 xx) = (f0_39d10 xx) from if_neg hc36d10]
      refine Go.step (g' := (mkF m 39 #[.val (.int p0), .val (.int p1), .val (.int p2), .val (.int (0 : Int32)), .val (.int xx), .unset, .unset, .unset, .unset, .unset, .unset, .unset, .unset, .unset, .unset, .unset, .unset, .unset, .unset, .unset, .unset] [])) (fun _ k => XS.icmpNo X0.here hx rfl (hb hby at_36) rfl (flt hc36d10).1 k) ?_
      refine Go.step (g' := (mkF m 41 #[.val (.int p0), .val (.int p1), .val (.int p2), .val (.int (0 : Int32)), .val (.int xx), .unset, .unset, .unset, .unset, .unset, .unset, .unset, .unset, .unset, .unset, .unset, .unset, .unset, .unset, .unset, .unset] [(.int xx)])) (fun _ k => XS.iload X0.here hx rfl (hb hby at_39) rfl  k) ?_
      refine Go.step (g' := (mkF m 43 #[.val (.int p0), .val (.int p1), .val (.int p2), .val (.int (0 : Int32)), .val (.int xx), .unset, .unset, .unset, .unset, .unset, .unset, .unset, .unset, .unset, .unset, .unset, .unset, .unset, .unset, .unset, .unset] [(.int (57343 : Int32)), (.int xx)])) (fun _ k => X0.ldcI hx hown (mvT hZ (hw _ (List.mem_of_getElem? (i := 33) rfl))) rfl (hb hby at_41) k) ?_
      by_cases hc43d10 : (57343 : Int32) < xx
      · rw [show (f0_39d10 xx) = f0_48d10 from if_pos hc43d10]
        refine Go.step (g' := (mkF m 48 #[.val (.int p0), .val (.int p1), .val (.int p2), .val (.int (0 : Int32)), .val (.int xx), .unset, .unset, .unset, .unset, .unset, .unset, .unset, .unset, .unset, .unset, .unset, .unset, .unset, .unset, .unset, .unset] [])) (fun _ k => XS.icmpYes X0.here hx rfl (pc0 := 43) (pc' := 48) rfl (hb hby at_43) rfl (tlt hc43d10).2.2.1 (by decide) (by decide) k) ?_
        exact t48d10 (by first | exact Or.inl (by assumption) | exact Or.inr (by assumption))
      · rw [show (f0_39d10 xx) = f0_46d10 from if_neg hc43d10]
        refine Go.step (g' := (mkF m 46 #[.val (.int p0), .val (.int p1), .val (.int p2), .val (.int (0 : Int32)), .val (.int xx), .unset, .unset, .unset, .unset, .unset, .unset, .unset, .unset, .unset, .unset, .unset, .unset, .unset, .unset, .unset, .unset] [])) (fun _ k => XS.icmpNo X0.here hx rfl (hb hby at_43) rfl (flt hc43d10).2.2.1 k) ?_
        refine Go.step (g' := (mkF m 47 #[.val (.int p0), .val (.int p1), .val (.int p2), .val (.int (0 : Int32)), .val (.int xx), .unset, .unset, .unset, .unset, .unset, .unset, .unset, .unset, .unset, .unset, .unset, .unset, .unset, .unset, .unset, .unset] [(.int (1 : Int32))])) (fun _ k => XS.iconst X0.here hx rfl (hb hby at_46) k) ?_
        exact Go.retN X0 hx hlk (t := .boolean) Bd.returns (by simp) (hb hby at_47) (by decide) (by decide) ⟨rfl, N0⟩
  · rw [show (f0_0 p1) = f0_6 from if_neg hc3]
    refine Go.step (g' := (mkF m 6 #[.val (.int p0), .val (.int p1), .val (.int p2), .unset, .unset, .unset, .unset, .unset, .unset, .unset, .unset, .unset, .unset, .unset, .unset, .unset, .unset, .unset, .unset, .unset, .unset] [])) (fun _ k => XS.ifNo X0.here hx rfl (hb hby at_3) rfl ((if0 _ _).trans (feq hc3).1) k) ?_
    refine Go.step (g' := (mkF m 7 #[.val (.int p0), .val (.int p1), .val (.int p2), .unset, .unset, .unset, .unset, .unset, .unset, .unset, .unset, .unset, .unset, .unset, .unset, .unset, .unset, .unset, .unset, .unset, .unset] [(.int (1 : Int32))])) (fun _ k => XS.iconst X0.here hx rfl (hb hby at_6) k) ?_
    refine Go.step (g' := (mkF m 11 #[.val (.int p0), .val (.int p1), .val (.int p2), .unset, .unset, .unset, .unset, .unset, .unset, .unset, .unset, .unset, .unset, .unset, .unset, .unset, .unset, .unset, .unset, .unset, .unset] [(.int (1 : Int32))])) (fun _ k => XS.goto X0.here hx rfl (pc0 := 7) (pc' := 11) rfl (hb hby at_7) (by decide) (by decide) k) ?_
    rw [show f0_6 = f0_11d7 from rfl]
    refine Go.step (g' := (mkF m 12 #[.val (.int p0), .val (.int p1), .val (.int p2), .val (.int (1 : Int32)), .unset, .unset, .unset, .unset, .unset, .unset, .unset, .unset, .unset, .unset, .unset, .unset, .unset, .unset, .unset, .unset, .unset] [])) (fun _ k => XS.istoreN X0.here hx rfl (hb hby at_11) rfl (l' := #[.val (.int p0), .val (.int p1), .val (.int p2), .val (.int (1 : Int32)), .unset, .unset, .unset, .unset, .unset, .unset, .unset, .unset, .unset, .unset, .unset, .unset, .unset, .unset, .unset, .unset, .unset]) rfl k) ?_
    refine Go.step (g' := (mkF m 13 #[.val (.int p0), .val (.int p1), .val (.int p2), .val (.int (1 : Int32)), .unset, .unset, .unset, .unset, .unset, .unset, .unset, .unset, .unset, .unset, .unset, .unset, .unset, .unset, .unset, .unset, .unset] [(.int (1 : Int32))])) (fun _ k => XS.iloadN X0.here hx rfl (hb hby at_12) rfl  k) ?_
    refine Go.step (g' := (mkF m 16 #[.val (.int p0), .val (.int p1), .val (.int p2), .val (.int (1 : Int32)), .unset, .unset, .unset, .unset, .unset, .unset, .unset, .unset, .unset, .unset, .unset, .unset, .unset, .unset, .unset, .unset, .unset] [])) (fun _ k => XS.ifNo X0.here hx rfl (hb hby at_13) rfl ((if0 _ _).trans (feq (by decide : ¬ ((1 : Int32) = (0 : Int32)))).1) k) ?_
    rw [show f0_11d7 = f0_16d7 from rfl]
    refine Go.step (g' := (mkF m 17 #[.val (.int p0), .val (.int p1), .val (.int p2), .val (.int (1 : Int32)), .unset, .unset, .unset, .unset, .unset, .unset, .unset, .unset, .unset, .unset, .unset, .unset, .unset, .unset, .unset, .unset, .unset] [(.int p0)])) (fun _ k => XS.iloadN X0.here hx rfl (hb hby at_16) rfl  k) ?_
    refine Go.step (g' := (mkF m 19 #[.val (.int p0), .val (.int p1), .val (.int p2), .val (.int (1 : Int32)), .unset, .unset, .unset, .unset, .unset, .unset, .unset, .unset, .unset, .unset, .unset, .unset, .unset, .unset, .unset, .unset, .unset] [(.int (2147483647 : Int32)), (.int p0)])) (fun _ k => X0.ldcI hx hown (mvT hZ (hw _ (List.mem_of_getElem? (i := 0) rfl))) rfl (hb hby at_17) k) ?_
    refine Go.step (g' := (mkF m 20 #[.val (.int p0), .val (.int p1), .val (.int p2), .val (.int (1 : Int32)), .unset, .unset, .unset, .unset, .unset, .unset, .unset, .unset, .unset, .unset, .unset, .unset, .unset, .unset, .unset, .unset, .unset] [(.int (p0 &&& (2147483647 : Int32)))])) (fun _ k => XS.iand X0.here hx rfl (hb hby at_19) rfl k) ?_
    refine Go.step (g' := (mkF m 30 #[.val (.int p0), .val (.int p1), .val (.int p2), .val (.int (1 : Int32)), .unset, .unset, .unset, .unset, .unset, .unset, .unset, .unset, .unset, .unset, .unset, .unset, .unset, .unset, .unset, .unset, .unset] [(.int (p0 &&& (2147483647 : Int32)))])) (fun _ k => XS.goto X0.here hx rfl (pc0 := 20) (pc' := 30) rfl (hb hby at_20) (by decide) (by decide) k) ?_
    rw [show f0_16d7 = f0_30d7 from rfl]
    refine Go.step (g' := (mkF m 32 #[.val (.int p0), .val (.int p1), .val (.int p2), .val (.int (1 : Int32)), .val (.int (p0 &&& (2147483647 : Int32))), .unset, .unset, .unset, .unset, .unset, .unset, .unset, .unset, .unset, .unset, .unset, .unset, .unset, .unset, .unset, .unset] [])) (fun _ k => XS.istore X0.here hx rfl (hb hby at_30) rfl (l' := #[.val (.int p0), .val (.int p1), .val (.int p2), .val (.int (1 : Int32)), .val (.int (p0 &&& (2147483647 : Int32))), .unset, .unset, .unset, .unset, .unset, .unset, .unset, .unset, .unset, .unset, .unset, .unset, .unset, .unset, .unset, .unset]) rfl k) ?_
    generalize hxx : (p0 &&& (2147483647 : Int32)) = xx
    have hx0 : ¬ xx < 0 := by rw [← hxx]; simp only [own_x0, own_x1, not_false_eq_true]
    obtain ⟨N, hN⟩ := own_N hx0
    rw [show f0_30d7 = (f0_32d7 xx) from (law_32d7 _).symm]
    refine Go.step (g' := (mkF m 34 #[.val (.int p0), .val (.int p1), .val (.int p2), .val (.int (1 : Int32)), .val (.int xx), .unset, .unset, .unset, .unset, .unset, .unset, .unset, .unset, .unset, .unset, .unset, .unset, .unset, .unset, .unset, .unset] [(.int xx)])) (fun _ k => XS.iload X0.here hx rfl (hb hby at_32) rfl  k) ?_
    refine Go.step (g' := (mkF m 36 #[.val (.int p0), .val (.int p1), .val (.int p2), .val (.int (1 : Int32)), .val (.int xx), .unset, .unset, .unset, .unset, .unset, .unset, .unset, .unset, .unset, .unset, .unset, .unset, .unset, .unset, .unset, .unset] [(.int (55296 : Int32)), (.int xx)])) (fun _ k => X0.ldcI hx hown (mvT hZ (hw _ (List.mem_of_getElem? (i := 1) rfl))) rfl (hb hby at_34) k) ?_
    have t48d7 : ∀ (hsur : xx < 55296 ∨ 57343 < xx), Go p e below s room_1.cells room_1.slots (LawQ (some (.int f0_48d7)) n0) s₁ (mkF m 48 #[.val (.int p0), .val (.int p1), .val (.int p2), .val (.int (1 : Int32)), .val (.int xx), .unset, .unset, .unset, .unset, .unset, .unset, .unset, .unset, .unset, .unset, .unset, .unset, .unset, .unset, .unset, .unset] []) := by
      intro hsur
      refine Go.step (g' := (mkF m 49 #[.val (.int p0), .val (.int p1), .val (.int p2), .val (.int (1 : Int32)), .val (.int xx), .unset, .unset, .unset, .unset, .unset, .unset, .unset, .unset, .unset, .unset, .unset, .unset, .unset, .unset, .unset, .unset] [(.int p2)])) (fun _ k => XS.iloadN X0.here hx rfl (hb hby at_48) rfl  k) ?_
      refine Go.step (g' := (mkF m 50 #[.val (.int p0), .val (.int p1), .val (.int p2), .val (.int (1 : Int32)), .val (.int xx), .unset, .unset, .unset, .unset, .unset, .unset, .unset, .unset, .unset, .unset, .unset, .unset, .unset, .unset, .unset, .unset] [(.int (3 : Int32)), (.int p2)])) (fun _ k => XS.iconst X0.here hx rfl (hb hby at_49) k) ?_
      refine Go.step (g' := (mkF m 51 #[.val (.int p0), .val (.int p1), .val (.int p2), .val (.int (1 : Int32)), .val (.int xx), .unset, .unset, .unset, .unset, .unset, .unset, .unset, .unset, .unset, .unset, .unset, .unset, .unset, .unset, .unset, .unset] [(.int (p2 &&& (3 : Int32)))])) (fun _ k => XS.iand X0.here hx rfl (hb hby at_50) rfl k) ?_
      refine Go.step (g' := (mkF m 53 #[.val (.int p0), .val (.int p1), .val (.int p2), .val (.int (1 : Int32)), .val (.int xx), .val (.int (p2 &&& (3 : Int32))), .unset, .unset, .unset, .unset, .unset, .unset, .unset, .unset, .unset, .unset, .unset, .unset, .unset, .unset, .unset] [])) (fun _ k => XS.istore X0.here hx rfl (hb hby at_51) rfl (l' := #[.val (.int p0), .val (.int p1), .val (.int p2), .val (.int (1 : Int32)), .val (.int xx), .val (.int (p2 &&& (3 : Int32))), .unset, .unset, .unset, .unset, .unset, .unset, .unset, .unset, .unset, .unset, .unset, .unset, .unset, .unset, .unset]) rfl k) ?_
      generalize hoo : (p2 &&& (3 : Int32)) = oo
      have ho : ∃ k : Fin 4, oo = Int32.ofNat k.val := hoo ▸ own_o _
      refine Go.step (g' := (mkF m 54 #[.val (.int p0), .val (.int p1), .val (.int p2), .val (.int (1 : Int32)), .val (.int xx), .val (.int oo), .unset, .unset, .unset, .unset, .unset, .unset, .unset, .unset, .unset, .unset, .unset, .unset, .unset, .unset, .unset] [(.int p1)])) (fun _ k => XS.iloadN X0.here hx rfl (hb hby at_53) rfl  k) ?_
      refine Go.step (g' := (mkF m 55 #[.val (.int p0), .val (.int p1), .val (.int p2), .val (.int (1 : Int32)), .val (.int xx), .val (.int oo), .unset, .unset, .unset, .unset, .unset, .unset, .unset, .unset, .unset, .unset, .unset, .unset, .unset, .unset, .unset] [(.int (1 : Int32)), (.int p1)])) (fun _ k => XS.iconst X0.here hx rfl (hb hby at_54) k) ?_
      refine Go.step (g' := (mkF m 56 #[.val (.int p0), .val (.int p1), .val (.int p2), .val (.int (1 : Int32)), .val (.int xx), .val (.int oo), .unset, .unset, .unset, .unset, .unset, .unset, .unset, .unset, .unset, .unset, .unset, .unset, .unset, .unset, .unset] [(.int (p1 >>> ((1 : Int32) &&& 31)))])) (fun _ k => XS.ishr X0.here hx rfl (hb hby at_55) rfl k) ?_
      refine Go.step (g' := (mkF m 57 #[.val (.int p0), .val (.int p1), .val (.int p2), .val (.int (1 : Int32)), .val (.int xx), .val (.int oo), .unset, .unset, .unset, .unset, .unset, .unset, .unset, .unset, .unset, .unset, .unset, .unset, .unset, .unset, .unset] [(.int ((p1 >>> ((1 : Int32) &&& 31)).toInt8.toInt32))])) (fun _ k => XS.i2b X0.here hx rfl (hb hby at_56) rfl k) ?_
      refine Go.step (g' := (mkF m 59 #[.val (.int p0), .val (.int p1), .val (.int p2), .val (.int (1 : Int32)), .val (.int xx), .val (.int oo), .val (.int ((p1 >>> ((1 : Int32) &&& 31)).toInt8.toInt32)), .unset, .unset, .unset, .unset, .unset, .unset, .unset, .unset, .unset, .unset, .unset, .unset, .unset, .unset] [])) (fun _ k => XS.istore X0.here hx rfl (hb hby at_57) rfl (l' := #[.val (.int p0), .val (.int p1), .val (.int p2), .val (.int (1 : Int32)), .val (.int xx), .val (.int oo), .val (.int ((p1 >>> ((1 : Int32) &&& 31)).toInt8.toInt32)), .unset, .unset, .unset, .unset, .unset, .unset, .unset, .unset, .unset, .unset, .unset, .unset, .unset, .unset]) rfl k) ?_
      generalize hss : ((p1 >>> ((1 : Int32) &&& 31)).toInt8.toInt32) = ss
      refine Go.step (g' := (mkF m 61 #[.val (.int p0), .val (.int p1), .val (.int p2), .val (.int (1 : Int32)), .val (.int xx), .val (.int oo), .val (.int ss), .unset, .unset, .unset, .unset, .unset, .unset, .unset, .unset, .unset, .unset, .unset, .unset, .unset, .unset] [(.int (9 : Int32))])) (fun _ k => XS.bipush X0.here hx rfl (hb hby at_59) k) ?_
      obtain ⟨T1, h1, k1, X1, e1, E1, A1, st1⟩ := newP X0 hx hZ (hw _ (List.mem_of_getElem? (i := 2) rfl)) e0 (g := (mkF m 61 #[.val (.int p0), .val (.int p1), .val (.int p2), .val (.int (1 : Int32)), .val (.int xx), .val (.int oo), .val (.int ss), .unset, .unset, .unset, .unset, .unset, .unset, .unset, .unset, .unset, .unset, .unset, .unset, .unset, .unset] [(.int (9 : Int32))])) rfl (hb hby at_61) rfl (by decide) (cap := 9) (by decide) (by decide) (by decide) (by decide)
      obtain ⟨b1, g1⟩ : ∃ z, z = h0.size := ⟨_, rfl⟩
      rw [← g1] at A1 st1
      have ne_w_LEGACY_b1 : w_LEGACY ≠ b1 := Nat.ne_of_lt (Nat.lt_of_lt_of_le F_LEGACY.lt (Nat.le_of_eq g1.symm))
      have ne_w_UNICODE_b1 : w_UNICODE ≠ b1 := Nat.ne_of_lt (Nat.lt_of_lt_of_le F_UNICODE.lt (Nat.le_of_eq g1.symm))
      have g_b1 : n0 ≤ b1 := Nat.le_trans Z0 (Nat.le_of_eq g1.symm)
      have sz_b1 : h0.size ≤ b1 := Nat.le_trans (Keep.refl h0 []).1 (Nat.le_of_eq g1.symm)
      have V1 : IA Z h1 b1 .byte 9 (fun k => .int ((fun _ => (0 : Int32)) k)) := IA.of_new A1 (by decide)
      refine Go.step (g' := (mkF m 63 #[.val (.int p0), .val (.int p1), .val (.int p2), .val (.int (1 : Int32)), .val (.int xx), .val (.int oo), .val (.int ss), .unset, .unset, .unset, .unset, .unset, .unset, .unset, .unset, .unset, .unset, .unset, .unset, .unset, .unset] [(.ref b1)])) st1 ?_
      refine Go.step (g' := (mkF m 65 #[.val (.int p0), .val (.int p1), .val (.int p2), .val (.int (1 : Int32)), .val (.int xx), .val (.int oo), .val (.int ss), .val (.ref b1), .unset, .unset, .unset, .unset, .unset, .unset, .unset, .unset, .unset, .unset, .unset, .unset, .unset] [])) (fun _ k => XS.astore X1.here hx rfl (hb hby at_63) rfl rfl (l' := #[.val (.int p0), .val (.int p1), .val (.int p2), .val (.int (1 : Int32)), .val (.int xx), .val (.int oo), .val (.int ss), .val (.ref b1), .unset, .unset, .unset, .unset, .unset, .unset, .unset, .unset, .unset, .unset, .unset, .unset, .unset]) rfl k) ?_
      refine Go.step (g' := (mkF m 67 #[.val (.int p0), .val (.int p1), .val (.int p2), .val (.int (1 : Int32)), .val (.int xx), .val (.int oo), .val (.int ss), .val (.ref b1), .unset, .unset, .unset, .unset, .unset, .unset, .unset, .unset, .unset, .unset, .unset, .unset, .unset] [(.ref b1)])) (fun _ k => XS.aload X1.here hx rfl (hb hby at_65) rfl rfl  k) ?_
      refine Go.step (g' := (mkF m 68 #[.val (.int p0), .val (.int p1), .val (.int p2), .val (.int (1 : Int32)), .val (.int xx), .val (.int oo), .val (.int ss), .val (.ref b1), .unset, .unset, .unset, .unset, .unset, .unset, .unset, .unset, .unset, .unset, .unset, .unset, .unset] [(.int (0 : Int32)), (.ref b1)])) (fun _ k => XS.iconst X1.here hx rfl (hb hby at_67) k) ?_
      refine Go.step (g' := (mkF m 70 #[.val (.int p0), .val (.int p1), .val (.int p2), .val (.int (1 : Int32)), .val (.int xx), .val (.int oo), .val (.int ss), .val (.ref b1), .unset, .unset, .unset, .unset, .unset, .unset, .unset, .unset, .unset, .unset, .unset, .unset, .unset] [(.int ss), (.int (0 : Int32)), (.ref b1)])) (fun _ k => XS.iload X1.here hx rfl (hb hby at_68) rfl  k) ?_
      obtain ⟨T2, h2, lc2, X2, e2, W2, N2, V2, st2⟩ := putAB X1 hx hZ e1 V1 (j := (0 : Int32)) (by decide) N0 g_b1 (gf := (mkF m 70 #[.val (.int p0), .val (.int p1), .val (.int p2), .val (.int (1 : Int32)), .val (.int xx), .val (.int oo), .val (.int ss), .val (.ref b1), .unset, .unset, .unset, .unset, .unset, .unset, .unset, .unset, .unset, .unset, .unset, .unset, .unset] [(.int ss), (.int (0 : Int32)), (.ref b1)])) rfl rfl (hb hby at_70)
      refine Go.step (g' := (mkF m 71 #[.val (.int p0), .val (.int p1), .val (.int p2), .val (.int (1 : Int32)), .val (.int xx), .val (.int oo), .val (.int ss), .val (.ref b1), .unset, .unset, .unset, .unset, .unset, .unset, .unset, .unset, .unset, .unset, .unset, .unset, .unset] [])) st2 ?_
      refine Go.step (g' := (mkF m 73 #[.val (.int p0), .val (.int p1), .val (.int p2), .val (.int (1 : Int32)), .val (.int xx), .val (.int oo), .val (.int ss), .val (.ref b1), .unset, .unset, .unset, .unset, .unset, .unset, .unset, .unset, .unset, .unset, .unset, .unset, .unset] [(.ref b1)])) (fun _ k => XS.aload X2.here hx rfl (hb hby at_71) rfl rfl  k) ?_
      refine Go.step (g' := (mkF m 74 #[.val (.int p0), .val (.int p1), .val (.int p2), .val (.int (1 : Int32)), .val (.int xx), .val (.int oo), .val (.int ss), .val (.ref b1), .unset, .unset, .unset, .unset, .unset, .unset, .unset, .unset, .unset, .unset, .unset, .unset, .unset] [(.int (1 : Int32)), (.ref b1)])) (fun _ k => XS.iconst X2.here hx rfl (hb hby at_73) k) ?_
      refine Go.step (g' := (mkF m 76 #[.val (.int p0), .val (.int p1), .val (.int p2), .val (.int (1 : Int32)), .val (.int xx), .val (.int oo), .val (.int ss), .val (.ref b1), .unset, .unset, .unset, .unset, .unset, .unset, .unset, .unset, .unset, .unset, .unset, .unset, .unset] [(.int ss), (.int (1 : Int32)), (.ref b1)])) (fun _ k => XS.iload X2.here hx rfl (hb hby at_74) rfl  k) ?_
      obtain ⟨T3, h3, lc3, X3, e3, W3, N3, V3, st3⟩ := putAB X2 hx hZ e2 V2 (j := (1 : Int32)) (by decide) N2 g_b1 (gf := (mkF m 76 #[.val (.int p0), .val (.int p1), .val (.int p2), .val (.int (1 : Int32)), .val (.int xx), .val (.int oo), .val (.int ss), .val (.ref b1), .unset, .unset, .unset, .unset, .unset, .unset, .unset, .unset, .unset, .unset, .unset, .unset, .unset] [(.int ss), (.int (1 : Int32)), (.ref b1)])) rfl rfl (hb hby at_76)
      refine Go.step (g' := (mkF m 77 #[.val (.int p0), .val (.int p1), .val (.int p2), .val (.int (1 : Int32)), .val (.int xx), .val (.int oo), .val (.int ss), .val (.ref b1), .unset, .unset, .unset, .unset, .unset, .unset, .unset, .unset, .unset, .unset, .unset, .unset, .unset] [])) st3 ?_
      have Q4 := (((F_LEGACY.ext E1).other W2 (Or.inl ne_w_LEGACY_b1)).other W3 (Or.inl ne_w_LEGACY_b1))
      have Q5 := (((F_UNICODE.ext E1).other W2 (Or.inl ne_w_UNICODE_b1)).other W3 (Or.inl ne_w_UNICODE_b1))
      have Q6 := (Nat.le_trans (Nat.le_trans (Nat.le_trans Z0 E1.1) (Keep.of_wr W2).1) (Keep.of_wr W3).1)
      have Q7 := ((((Keep.refl h0 []).ext E1).wr W2 (Or.inr sz_b1)).wr W3 (Or.inr sz_b1))
      refine Go.step (g' := (mkF m 79 #[.val (.int p0), .val (.int p1), .val (.int p2), .val (.int (1 : Int32)), .val (.int xx), .val (.int oo), .val (.int ss), .val (.ref b1), .unset, .unset, .unset, .unset, .unset, .unset, .unset, .unset, .unset, .unset, .unset, .unset, .unset] [(.ref b1)])) (fun _ k => XS.aload X3.here hx rfl (hb hby at_77) rfl rfl  k) ?_
      refine Go.step (g' := (mkF m 80 #[.val (.int p0), .val (.int p1), .val (.int p2), .val (.int (1 : Int32)), .val (.int xx), .val (.int oo), .val (.int ss), .val (.ref b1), .unset, .unset, .unset, .unset, .unset, .unset, .unset, .unset, .unset, .unset, .unset, .unset, .unset] [(.int (2 : Int32)), (.ref b1)])) (fun _ k => XS.iconst X3.here hx rfl (hb hby at_79) k) ?_
      refine Go.step (g' := (mkF m 82 #[.val (.int p0), .val (.int p1), .val (.int p2), .val (.int (1 : Int32)), .val (.int xx), .val (.int oo), .val (.int ss), .val (.ref b1), .unset, .unset, .unset, .unset, .unset, .unset, .unset, .unset, .unset, .unset, .unset, .unset, .unset] [(.int ss), (.int (2 : Int32)), (.ref b1)])) (fun _ k => XS.iload X3.here hx rfl (hb hby at_80) rfl  k) ?_
      obtain ⟨T8, h8, lc8, X8, e8, W8, N8, V8, st8⟩ := putAB X3 hx hZ e3 V3 (j := (2 : Int32)) (by decide) N3 g_b1 (gf := (mkF m 82 #[.val (.int p0), .val (.int p1), .val (.int p2), .val (.int (1 : Int32)), .val (.int xx), .val (.int oo), .val (.int ss), .val (.ref b1), .unset, .unset, .unset, .unset, .unset, .unset, .unset, .unset, .unset, .unset, .unset, .unset, .unset] [(.int ss), (.int (2 : Int32)), (.ref b1)])) rfl rfl (hb hby at_82)
      refine Go.step (g' := (mkF m 83 #[.val (.int p0), .val (.int p1), .val (.int p2), .val (.int (1 : Int32)), .val (.int xx), .val (.int oo), .val (.int ss), .val (.ref b1), .unset, .unset, .unset, .unset, .unset, .unset, .unset, .unset, .unset, .unset, .unset, .unset, .unset] [])) st8 ?_
      refine Go.step (g' := (mkF m 85 #[.val (.int p0), .val (.int p1), .val (.int p2), .val (.int (1 : Int32)), .val (.int xx), .val (.int oo), .val (.int ss), .val (.ref b1), .unset, .unset, .unset, .unset, .unset, .unset, .unset, .unset, .unset, .unset, .unset, .unset, .unset] [(.ref b1)])) (fun _ k => XS.aload X8.here hx rfl (hb hby at_83) rfl rfl  k) ?_
      refine Go.step (g' := (mkF m 86 #[.val (.int p0), .val (.int p1), .val (.int p2), .val (.int (1 : Int32)), .val (.int xx), .val (.int oo), .val (.int ss), .val (.ref b1), .unset, .unset, .unset, .unset, .unset, .unset, .unset, .unset, .unset, .unset, .unset, .unset, .unset] [(.int (3 : Int32)), (.ref b1)])) (fun _ k => XS.iconst X8.here hx rfl (hb hby at_85) k) ?_
      refine Go.step (g' := (mkF m 88 #[.val (.int p0), .val (.int p1), .val (.int p2), .val (.int (1 : Int32)), .val (.int xx), .val (.int oo), .val (.int ss), .val (.ref b1), .unset, .unset, .unset, .unset, .unset, .unset, .unset, .unset, .unset, .unset, .unset, .unset, .unset] [(.int ss), (.int (3 : Int32)), (.ref b1)])) (fun _ k => XS.iload X8.here hx rfl (hb hby at_86) rfl  k) ?_
      obtain ⟨T9, h9, lc9, X9, e9, W9, N9, V9, st9⟩ := putAB X8 hx hZ e8 V8 (j := (3 : Int32)) (by decide) N8 g_b1 (gf := (mkF m 88 #[.val (.int p0), .val (.int p1), .val (.int p2), .val (.int (1 : Int32)), .val (.int xx), .val (.int oo), .val (.int ss), .val (.ref b1), .unset, .unset, .unset, .unset, .unset, .unset, .unset, .unset, .unset, .unset, .unset, .unset, .unset] [(.int ss), (.int (3 : Int32)), (.ref b1)])) rfl rfl (hb hby at_88)
      refine Go.step (g' := (mkF m 89 #[.val (.int p0), .val (.int p1), .val (.int p2), .val (.int (1 : Int32)), .val (.int xx), .val (.int oo), .val (.int ss), .val (.ref b1), .unset, .unset, .unset, .unset, .unset, .unset, .unset, .unset, .unset, .unset, .unset, .unset, .unset] [])) st9 ?_
      have Q10 := ((Q4.other W8 (Or.inl ne_w_LEGACY_b1)).other W9 (Or.inl ne_w_LEGACY_b1))
      have Q11 := ((Q5.other W8 (Or.inl ne_w_UNICODE_b1)).other W9 (Or.inl ne_w_UNICODE_b1))
      have Q12 := (Nat.le_trans (Nat.le_trans Q6 (Keep.of_wr W8).1) (Keep.of_wr W9).1)
      refine Go.step (g' := (mkF m 91 #[.val (.int p0), .val (.int p1), .val (.int p2), .val (.int (1 : Int32)), .val (.int xx), .val (.int oo), .val (.int ss), .val (.ref b1), .unset, .unset, .unset, .unset, .unset, .unset, .unset, .unset, .unset, .unset, .unset, .unset, .unset] [(.ref b1)])) (fun _ k => XS.aload X9.here hx rfl (hb hby at_89) rfl rfl  k) ?_
      refine Go.step (g' := (mkF m 92 #[.val (.int p0), .val (.int p1), .val (.int p2), .val (.int (1 : Int32)), .val (.int xx), .val (.int oo), .val (.int ss), .val (.ref b1), .unset, .unset, .unset, .unset, .unset, .unset, .unset, .unset, .unset, .unset, .unset, .unset, .unset] [(.int (4 : Int32)), (.ref b1)])) (fun _ k => XS.iconst X9.here hx rfl (hb hby at_91) k) ?_
      refine Go.step (g' := (mkF m 94 #[.val (.int p0), .val (.int p1), .val (.int p2), .val (.int (1 : Int32)), .val (.int xx), .val (.int oo), .val (.int ss), .val (.ref b1), .unset, .unset, .unset, .unset, .unset, .unset, .unset, .unset, .unset, .unset, .unset, .unset, .unset] [(.int ss), (.int (4 : Int32)), (.ref b1)])) (fun _ k => XS.iload X9.here hx rfl (hb hby at_92) rfl  k) ?_
      obtain ⟨T13, h13, lc13, X13, e13, W13, N13, V13, st13⟩ := putAB X9 hx hZ e9 V9 (j := (4 : Int32)) (by decide) N9 g_b1 (gf := (mkF m 94 #[.val (.int p0), .val (.int p1), .val (.int p2), .val (.int (1 : Int32)), .val (.int xx), .val (.int oo), .val (.int ss), .val (.ref b1), .unset, .unset, .unset, .unset, .unset, .unset, .unset, .unset, .unset, .unset, .unset, .unset, .unset] [(.int ss), (.int (4 : Int32)), (.ref b1)])) rfl rfl (hb hby at_94)
      refine Go.step (g' := (mkF m 95 #[.val (.int p0), .val (.int p1), .val (.int p2), .val (.int (1 : Int32)), .val (.int xx), .val (.int oo), .val (.int ss), .val (.ref b1), .unset, .unset, .unset, .unset, .unset, .unset, .unset, .unset, .unset, .unset, .unset, .unset, .unset] [])) st13 ?_
      have Q14 := (((Q7.wr W8 (Or.inr sz_b1)).wr W9 (Or.inr sz_b1)).wr W13 (Or.inr sz_b1))
      refine Go.step (g' := (mkF m 97 #[.val (.int p0), .val (.int p1), .val (.int p2), .val (.int (1 : Int32)), .val (.int xx), .val (.int oo), .val (.int ss), .val (.ref b1), .unset, .unset, .unset, .unset, .unset, .unset, .unset, .unset, .unset, .unset, .unset, .unset, .unset] [(.ref b1)])) (fun _ k => XS.aload X13.here hx rfl (hb hby at_95) rfl rfl  k) ?_
      refine Go.step (g' := (mkF m 98 #[.val (.int p0), .val (.int p1), .val (.int p2), .val (.int (1 : Int32)), .val (.int xx), .val (.int oo), .val (.int ss), .val (.ref b1), .unset, .unset, .unset, .unset, .unset, .unset, .unset, .unset, .unset, .unset, .unset, .unset, .unset] [(.int (5 : Int32)), (.ref b1)])) (fun _ k => XS.iconst X13.here hx rfl (hb hby at_97) k) ?_
      refine Go.step (g' := (mkF m 100 #[.val (.int p0), .val (.int p1), .val (.int p2), .val (.int (1 : Int32)), .val (.int xx), .val (.int oo), .val (.int ss), .val (.ref b1), .unset, .unset, .unset, .unset, .unset, .unset, .unset, .unset, .unset, .unset, .unset, .unset, .unset] [(.int ss), (.int (5 : Int32)), (.ref b1)])) (fun _ k => XS.iload X13.here hx rfl (hb hby at_98) rfl  k) ?_
      obtain ⟨T15, h15, lc15, X15, e15, W15, N15, V15, st15⟩ := putAB X13 hx hZ e13 V13 (j := (5 : Int32)) (by decide) N13 g_b1 (gf := (mkF m 100 #[.val (.int p0), .val (.int p1), .val (.int p2), .val (.int (1 : Int32)), .val (.int xx), .val (.int oo), .val (.int ss), .val (.ref b1), .unset, .unset, .unset, .unset, .unset, .unset, .unset, .unset, .unset, .unset, .unset, .unset, .unset] [(.int ss), (.int (5 : Int32)), (.ref b1)])) rfl rfl (hb hby at_100)
      refine Go.step (g' := (mkF m 101 #[.val (.int p0), .val (.int p1), .val (.int p2), .val (.int (1 : Int32)), .val (.int xx), .val (.int oo), .val (.int ss), .val (.ref b1), .unset, .unset, .unset, .unset, .unset, .unset, .unset, .unset, .unset, .unset, .unset, .unset, .unset] [])) st15 ?_
      have Q16 := (((((((S_LEGACY.ext E1).wr W2).wr W3).wr W8).wr W9).wr W13).wr W15)
      have Q17 := (((((((S_UNICODE.ext E1).wr W2).wr W3).wr W8).wr W9).wr W13).wr W15)
      have Q18 := ((Q10.other W13 (Or.inl ne_w_LEGACY_b1)).other W15 (Or.inl ne_w_LEGACY_b1))
      have Q19 := ((Q11.other W13 (Or.inl ne_w_UNICODE_b1)).other W15 (Or.inl ne_w_UNICODE_b1))
      have Q20 := (((((((E_LEGACY.ext E1).wr W2).wr W3).wr W8).wr W9).wr W13).wr W15)
      have Q21 := (((((((E_UNICODE.ext E1).wr W2).wr W3).wr W8).wr W9).wr W13).wr W15)
      have Q22 := (Nat.le_trans (Nat.le_trans Q12 (Keep.of_wr W13).1) (Keep.of_wr W15).1)
      refine Go.step (g' := (mkF m 103 #[.val (.int p0), .val (.int p1), .val (.int p2), .val (.int (1 : Int32)), .val (.int xx), .val (.int oo), .val (.int ss), .val (.ref b1), .unset, .unset, .unset, .unset, .unset, .unset, .unset, .unset, .unset, .unset, .unset, .unset, .unset] [(.ref b1)])) (fun _ k => XS.aload X15.here hx rfl (hb hby at_101) rfl rfl  k) ?_
      refine Go.step (g' := (mkF m 105 #[.val (.int p0), .val (.int p1), .val (.int p2), .val (.int (1 : Int32)), .val (.int xx), .val (.int oo), .val (.int ss), .val (.ref b1), .unset, .unset, .unset, .unset, .unset, .unset, .unset, .unset, .unset, .unset, .unset, .unset, .unset] [(.int (6 : Int32)), (.ref b1)])) (fun _ k => XS.bipush X15.here hx rfl (hb hby at_103) k) ?_
      refine Go.step (g' := (mkF m 107 #[.val (.int p0), .val (.int p1), .val (.int p2), .val (.int (1 : Int32)), .val (.int xx), .val (.int oo), .val (.int ss), .val (.ref b1), .unset, .unset, .unset, .unset, .unset, .unset, .unset, .unset, .unset, .unset, .unset, .unset, .unset] [(.int ss), (.int (6 : Int32)), (.ref b1)])) (fun _ k => XS.iload X15.here hx rfl (hb hby at_105) rfl  k) ?_
      obtain ⟨T23, h23, lc23, X23, e23, W23, N23, V23, st23⟩ := putAB X15 hx hZ e15 V15 (j := (6 : Int32)) (by decide) N15 g_b1 (gf := (mkF m 107 #[.val (.int p0), .val (.int p1), .val (.int p2), .val (.int (1 : Int32)), .val (.int xx), .val (.int oo), .val (.int ss), .val (.ref b1), .unset, .unset, .unset, .unset, .unset, .unset, .unset, .unset, .unset, .unset, .unset, .unset, .unset] [(.int ss), (.int (6 : Int32)), (.ref b1)])) rfl rfl (hb hby at_107)
      refine Go.step (g' := (mkF m 108 #[.val (.int p0), .val (.int p1), .val (.int p2), .val (.int (1 : Int32)), .val (.int xx), .val (.int oo), .val (.int ss), .val (.ref b1), .unset, .unset, .unset, .unset, .unset, .unset, .unset, .unset, .unset, .unset, .unset, .unset, .unset] [])) st23 ?_
      refine Go.step (g' := (mkF m 110 #[.val (.int p0), .val (.int p1), .val (.int p2), .val (.int (1 : Int32)), .val (.int xx), .val (.int oo), .val (.int ss), .val (.ref b1), .unset, .unset, .unset, .unset, .unset, .unset, .unset, .unset, .unset, .unset, .unset, .unset, .unset] [(.ref b1)])) (fun _ k => XS.aload X23.here hx rfl (hb hby at_108) rfl rfl  k) ?_
      refine Go.step (g' := (mkF m 112 #[.val (.int p0), .val (.int p1), .val (.int p2), .val (.int (1 : Int32)), .val (.int xx), .val (.int oo), .val (.int ss), .val (.ref b1), .unset, .unset, .unset, .unset, .unset, .unset, .unset, .unset, .unset, .unset, .unset, .unset, .unset] [(.int (7 : Int32)), (.ref b1)])) (fun _ k => XS.bipush X23.here hx rfl (hb hby at_110) k) ?_
      refine Go.step (g' := (mkF m 114 #[.val (.int p0), .val (.int p1), .val (.int p2), .val (.int (1 : Int32)), .val (.int xx), .val (.int oo), .val (.int ss), .val (.ref b1), .unset, .unset, .unset, .unset, .unset, .unset, .unset, .unset, .unset, .unset, .unset, .unset, .unset] [(.int ss), (.int (7 : Int32)), (.ref b1)])) (fun _ k => XS.iload X23.here hx rfl (hb hby at_112) rfl  k) ?_
      obtain ⟨T24, h24, lc24, X24, e24, W24, N24, V24, st24⟩ := putAB X23 hx hZ e23 V23 (j := (7 : Int32)) (by decide) N23 g_b1 (gf := (mkF m 114 #[.val (.int p0), .val (.int p1), .val (.int p2), .val (.int (1 : Int32)), .val (.int xx), .val (.int oo), .val (.int ss), .val (.ref b1), .unset, .unset, .unset, .unset, .unset, .unset, .unset, .unset, .unset, .unset, .unset, .unset, .unset] [(.int ss), (.int (7 : Int32)), (.ref b1)])) rfl rfl (hb hby at_114)
      refine Go.step (g' := (mkF m 115 #[.val (.int p0), .val (.int p1), .val (.int p2), .val (.int (1 : Int32)), .val (.int xx), .val (.int oo), .val (.int ss), .val (.ref b1), .unset, .unset, .unset, .unset, .unset, .unset, .unset, .unset, .unset, .unset, .unset, .unset, .unset] [])) st24 ?_
      have Q25 := ((Q18.other W23 (Or.inl ne_w_LEGACY_b1)).other W24 (Or.inl ne_w_LEGACY_b1))
      have Q26 := ((Q19.other W23 (Or.inl ne_w_UNICODE_b1)).other W24 (Or.inl ne_w_UNICODE_b1))
      have Q27 := (Nat.le_trans (Nat.le_trans Q22 (Keep.of_wr W23).1) (Keep.of_wr W24).1)
      have Q28 := (((Q14.wr W15 (Or.inr sz_b1)).wr W23 (Or.inr sz_b1)).wr W24 (Or.inr sz_b1))
      refine Go.step (g' := (mkF m 117 #[.val (.int p0), .val (.int p1), .val (.int p2), .val (.int (1 : Int32)), .val (.int xx), .val (.int oo), .val (.int ss), .val (.ref b1), .unset, .unset, .unset, .unset, .unset, .unset, .unset, .unset, .unset, .unset, .unset, .unset, .unset] [(.ref b1)])) (fun _ k => XS.aload X24.here hx rfl (hb hby at_115) rfl rfl  k) ?_
      refine Go.step (g' := (mkF m 119 #[.val (.int p0), .val (.int p1), .val (.int p2), .val (.int (1 : Int32)), .val (.int xx), .val (.int oo), .val (.int ss), .val (.ref b1), .unset, .unset, .unset, .unset, .unset, .unset, .unset, .unset, .unset, .unset, .unset, .unset, .unset] [(.int (8 : Int32)), (.ref b1)])) (fun _ k => XS.bipush X24.here hx rfl (hb hby at_117) k) ?_
      refine Go.step (g' := (mkF m 121 #[.val (.int p0), .val (.int p1), .val (.int p2), .val (.int (1 : Int32)), .val (.int xx), .val (.int oo), .val (.int ss), .val (.ref b1), .unset, .unset, .unset, .unset, .unset, .unset, .unset, .unset, .unset, .unset, .unset, .unset, .unset] [(.int ss), (.int (8 : Int32)), (.ref b1)])) (fun _ k => XS.iload X24.here hx rfl (hb hby at_119) rfl  k) ?_
      obtain ⟨T29, h29, lc29, X29, e29, W29, N29, V29, st29⟩ := putAB X24 hx hZ e24 V24 (j := (8 : Int32)) (by decide) N24 g_b1 (gf := (mkF m 121 #[.val (.int p0), .val (.int p1), .val (.int p2), .val (.int (1 : Int32)), .val (.int xx), .val (.int oo), .val (.int ss), .val (.ref b1), .unset, .unset, .unset, .unset, .unset, .unset, .unset, .unset, .unset, .unset, .unset, .unset, .unset] [(.int ss), (.int (8 : Int32)), (.ref b1)])) rfl rfl (hb hby at_121)
      refine Go.step (g' := (mkF m 122 #[.val (.int p0), .val (.int p1), .val (.int p2), .val (.int (1 : Int32)), .val (.int xx), .val (.int oo), .val (.int ss), .val (.ref b1), .unset, .unset, .unset, .unset, .unset, .unset, .unset, .unset, .unset, .unset, .unset, .unset, .unset] [])) st29 ?_
      refine Go.step (g' := (mkF m 123 #[.val (.int p0), .val (.int p1), .val (.int p2), .val (.int (1 : Int32)), .val (.int xx), .val (.int oo), .val (.int ss), .val (.ref b1), .unset, .unset, .unset, .unset, .unset, .unset, .unset, .unset, .unset, .unset, .unset, .unset, .unset] [(.int (1 : Int32))])) (fun _ k => XS.iloadN X29.here hx rfl (hb hby at_122) rfl  k) ?_
      refine Go.step (g' := (mkF m 126 #[.val (.int p0), .val (.int p1), .val (.int p2), .val (.int (1 : Int32)), .val (.int xx), .val (.int oo), .val (.int ss), .val (.ref b1), .unset, .unset, .unset, .unset, .unset, .unset, .unset, .unset, .unset, .unset, .unset, .unset, .unset] [])) (fun _ k => XS.ifNo X29.here hx rfl (hb hby at_123) rfl ((if0 _ _).trans (feq (by decide : ¬ ((1 : Int32) = (0 : Int32)))).1) k) ?_
      rw [show f0_48d7 = f0_126d7 from rfl]
      obtain ⟨T30, X30, e30, st30⟩ := getS2 X29 hx hZ hown (host := "") (Or.inl (hw _ (List.mem_of_getElem? (i := 3) rfl))) Via.refl e29 (((Q16.wr W23).wr W24).wr W29) (g := (mkF m 126 #[.val (.int p0), .val (.int p1), .val (.int p2), .val (.int (1 : Int32)), .val (.int xx), .val (.int oo), .val (.int ss), .val (.ref b1), .unset, .unset, .unset, .unset, .unset, .unset, .unset, .unset, .unset, .unset, .unset, .unset, .unset] [])) rfl (hb hby at_126)
      refine Go.step (g' := (mkF m 129 #[.val (.int p0), .val (.int p1), .val (.int p2), .val (.int (1 : Int32)), .val (.int xx), .val (.int oo), .val (.int ss), .val (.ref b1), .unset, .unset, .unset, .unset, .unset, .unset, .unset, .unset, .unset, .unset, .unset, .unset, .unset] [(.ref w_LEGACY)])) st30 ?_
      refine Go.step (g' := (mkF m 135 #[.val (.int p0), .val (.int p1), .val (.int p2), .val (.int (1 : Int32)), .val (.int xx), .val (.int oo), .val (.int ss), .val (.ref b1), .unset, .unset, .unset, .unset, .unset, .unset, .unset, .unset, .unset, .unset, .unset, .unset, .unset] [(.ref w_LEGACY)])) (fun _ k => XS.goto X30.here hx rfl (pc0 := 129) (pc' := 135) rfl (hb hby at_129) (by decide) (by decide) k) ?_
      rw [show f0_126d7 = f0_135d7 from rfl]
      refine Go.step (g' := (mkF m 137 #[.val (.int p0), .val (.int p1), .val (.int p2), .val (.int (1 : Int32)), .val (.int xx), .val (.int oo), .val (.int ss), .val (.ref b1), .val (.ref w_LEGACY), .unset, .unset, .unset, .unset, .unset, .unset, .unset, .unset, .unset, .unset, .unset, .unset] [])) (fun _ k => XS.astore X30.here hx rfl (hb hby at_135) rfl rfl (l' := #[.val (.int p0), .val (.int p1), .val (.int p2), .val (.int (1 : Int32)), .val (.int xx), .val (.int oo), .val (.int ss), .val (.ref b1), .val (.ref w_LEGACY), .unset, .unset, .unset, .unset, .unset, .unset, .unset, .unset, .unset, .unset, .unset, .unset]) rfl k) ?_
      refine Go.step (g' := (mkF m 139 #[.val (.int p0), .val (.int p1), .val (.int p2), .val (.int (1 : Int32)), .val (.int xx), .val (.int oo), .val (.int ss), .val (.ref b1), .val (.ref w_LEGACY), .unset, .unset, .unset, .unset, .unset, .unset, .unset, .unset, .unset, .unset, .unset, .unset] [(.int xx)])) (fun _ k => XS.iload X30.here hx rfl (hb hby at_137) rfl  k) ?_
      refine Go.step (g' := (mkF m 141 #[.val (.int p0), .val (.int p1), .val (.int p2), .val (.int (1 : Int32)), .val (.int xx), .val (.int oo), .val (.int ss), .val (.ref b1), .val (.ref w_LEGACY), .unset, .unset, .unset, .unset, .unset, .unset, .unset, .unset, .unset, .unset, .unset, .unset] [(.ref b1), (.int xx)])) (fun _ k => XS.aload X30.here hx rfl (hb hby at_139) rfl rfl  k) ?_
      refine Go.step (g' := (mkF m 143 #[.val (.int p0), .val (.int p1), .val (.int p2), .val (.int (1 : Int32)), .val (.int xx), .val (.int oo), .val (.int ss), .val (.ref b1), .val (.ref w_LEGACY), .unset, .unset, .unset, .unset, .unset, .unset, .unset, .unset, .unset, .unset, .unset, .unset] [(.int oo), (.ref b1), (.int xx)])) (fun _ k => XS.iload X30.here hx rfl (hb hby at_141) rfl  k) ?_
      refine Go.step (g' := (mkF m 145 #[.val (.int p0), .val (.int p1), .val (.int p2), .val (.int (1 : Int32)), .val (.int xx), .val (.int oo), .val (.int ss), .val (.ref b1), .val (.ref w_LEGACY), .unset, .unset, .unset, .unset, .unset, .unset, .unset, .unset, .unset, .unset, .unset, .unset] [(.ref w_LEGACY), (.int oo), (.ref b1), (.int xx)])) (fun _ k => XS.aload X30.here hx rfl (hb hby at_143) rfl rfl  k) ?_
      obtain ⟨_, _, ⟨T31, L31, k31, n31⟩, -, X31, ⟨Lc31, hQ31, l31, y31, z31⟩, st31⟩ := Jvm.LawKit.callS X30 hx (y := (⟨"com/example/ucs_to_octets/ucstooctets/Utf8", "encode", "(I[BILcom/example/ucs_to_octets/ucstooctets/CodeSpace;)I"⟩ : MethodName)) hown (mvT hZ (hw _ (List.mem_of_getElem? (i := 6) rfl))) (mvT hZ (hw _ (List.mem_of_getElem? (i := 7) rfl))) (mvT hZ (hw _ (List.mem_of_getElem? (i := 8) rfl))) (mvT hZ (hw _ (List.mem_of_getElem? (i := 9) rfl))) (by decide) (backOf (W := 0) (rm1 l Z a0 hw [] xx b1 oo w_LEGACY (upd (upd (upd (upd (upd (upd (upd (upd (upd (fun _ => (0 : Int32)) (0 : Int32).toNatClampNeg (nar .byte ss)) (1 : Int32).toNatClampNeg (nar .byte ss)) (2 : Int32).toNatClampNeg (nar .byte ss)) (3 : Int32).toNatClampNeg (nar .byte ss)) (4 : Int32).toNatClampNeg (nar .byte ss)) (5 : Int32).toNatClampNeg (nar .byte ss)) (6 : Int32).toNatClampNeg (nar .byte ss)) (7 : Int32).toNatClampNeg (nar .byte ss)) (8 : Int32).toNatClampNeg (nar .byte ss)) (2147483647 : Int32) h29 n0 (Nat.le_trans Q27 (Keep.of_wr W29).1) V29 g_b1 ho (((Q20.wr W23).wr W24).wr W29) (Q25.other W29 (Or.inl ne_w_LEGACY_b1)) (own_con _ _ hx0 (own_max _) hsur)) hZ (hw _ (List.mem_of_getElem? (i := 9) rfl)) (hw _ (List.mem_of_getElem? (i := 8) rfl)) (by decide) (by decide)) (g := (mkF m 145 #[.val (.int p0), .val (.int p1), .val (.int p2), .val (.int (1 : Int32)), .val (.int xx), .val (.int oo), .val (.int ss), .val (.ref b1), .val (.ref w_LEGACY), .unset, .unset, .unset, .unset, .unset, .unset, .unset, .unset, .unset, .unset, .unset, .unset] [(.ref w_LEGACY), (.int oo), (.ref b1), (.int xx)])) rfl (by rw [hml]; rfl) (argsL := [(.int xx), (.ref b1), (.int oo), (.ref w_LEGACY)]) (rest := []) (lenOf pd_2 rfl) rfl (by show 2 * 0 + _ ≤ _; exact Nat.le_of_eq rfl) (hb hby at_145) (fun _ _ => ⟨rfl, e30, (by decide : (0 + 1) + 0 ≤ _), (by decide : (0 + 9) + 0 ≤ _)⟩)
      dsimp only [Pt.U, Pt.locs, Pt.cells, Pt.slots] at X31 l31 y31 z31 st31 hQ31
      subst l31 y31 z31
      obtain ⟨le31, gg31, rfl, N31q, K31, Ac31, En31⟩ := hQ31
      obtain ⟨lc31, X31, N31⟩ := own_pack X31 (Fr.app N29 N31q)
      have hOut := own_out En31 (own_g0 ss hss) ho hN hx0
      have Q32 := ((Q25.other W29 (Or.inl ne_w_LEGACY_b1)).keep K31 (ninS ne_w_LEGACY_b1 nin0))
      have Q33 := ((Q26.other W29 (Or.inl ne_w_UNICODE_b1)).keep K31 (ninS ne_w_UNICODE_b1 nin0))
      have Q34 := ((Q28.wr W29 (Or.inr sz_b1)).trans K31 (allS (Or.inr sz_b1) all0))
      refine Go.step (g' := (mkF m 148 #[.val (.int p0), .val (.int p1), .val (.int p2), .val (.int (1 : Int32)), .val (.int xx), .val (.int oo), .val (.int ss), .val (.ref b1), .val (.ref w_LEGACY), .unset, .unset, .unset, .unset, .unset, .unset, .unset, .unset, .unset, .unset, .unset, .unset] [(.int le31)])) st31 ?_
      refine Go.step (g' := (mkF m 150 #[.val (.int p0), .val (.int p1), .val (.int p2), .val (.int (1 : Int32)), .val (.int xx), .val (.int oo), .val (.int ss), .val (.ref b1), .val (.ref w_LEGACY), .val (.int le31), .unset, .unset, .unset, .unset, .unset, .unset, .unset, .unset, .unset, .unset, .unset] [])) (fun _ k => XS.istore X31.here hx rfl (hb hby at_148) rfl (l' := #[.val (.int p0), .val (.int p1), .val (.int p2), .val (.int (1 : Int32)), .val (.int xx), .val (.int oo), .val (.int ss), .val (.ref b1), .val (.ref w_LEGACY), .val (.int le31), .unset, .unset, .unset, .unset, .unset, .unset, .unset, .unset, .unset, .unset, .unset]) rfl k) ?_
      rw [show f0_135d7 = (f0_150d7 xx oo ss le31 gg31) from (law_150d7 hOut).symm]
      refine Go.step (g' := (mkF m 152 #[.val (.int p0), .val (.int p1), .val (.int p2), .val (.int (1 : Int32)), .val (.int xx), .val (.int oo), .val (.int ss), .val (.ref b1), .val (.ref w_LEGACY), .val (.int le31), .unset, .unset, .unset, .unset, .unset, .unset, .unset, .unset, .unset, .unset, .unset] [(.int le31)])) (fun _ k => XS.iload X31.here hx rfl (hb hby at_150) rfl  k) ?_
      refine Go.step (g' := (mkF m 153 #[.val (.int p0), .val (.int p1), .val (.int p2), .val (.int (1 : Int32)), .val (.int xx), .val (.int oo), .val (.int ss), .val (.ref b1), .val (.ref w_LEGACY), .val (.int le31), .unset, .unset, .unset, .unset, .unset, .unset, .unset, .unset, .unset, .unset, .unset] [(.int (1 : Int32)), (.int le31)])) (fun _ k => XS.iconst X31.here hx rfl (hb hby at_152) k) ?_
      have t163d7 : Go p e below s room_1.cells room_1.slots (LawQ (some (.int f0_163d7)) n0) T31 (mkF m 163 #[.val (.int p0), .val (.int p1), .val (.int p2), .val (.int (1 : Int32)), .val (.int xx), .val (.int oo), .val (.int ss), .val (.ref b1), .val (.ref w_LEGACY), .val (.int le31), .unset, .unset, .unset, .unset, .unset, .unset, .unset, .unset, .unset, .unset, .unset] []) := by
        refine Go.step (g' := (mkF m 164 #[.val (.int p0), .val (.int p1), .val (.int p2), .val (.int (1 : Int32)), .val (.int xx), .val (.int oo), .val (.int ss), .val (.ref b1), .val (.ref w_LEGACY), .val (.int le31), .unset, .unset, .unset, .unset, .unset, .unset, .unset, .unset, .unset, .unset, .unset] [(.int (0 : Int32))])) (fun _ k => XS.iconst X31.here hx rfl (hb hby at_163) k) ?_
        exact Go.retN X31 hx hlk (t := .boolean) Bd.returns (by simp) (hb hby at_164) (by decide) (by decide) ⟨rfl, N31⟩
      by_cases hc153d7 : le31 < (1 : Int32)
      · rw [show (f0_150d7 xx oo ss le31 gg31) = f0_163d7 from if_pos hc153d7]
        refine Go.step (g' := (mkF m 163 #[.val (.int p0), .val (.int p1), .val (.int p2), .val (.int (1 : Int32)), .val (.int xx), .val (.int oo), .val (.int ss), .val (.ref b1), .val (.ref w_LEGACY), .val (.int le31), .unset, .unset, .unset, .unset, .unset, .unset, .unset, .unset, .unset, .unset, .unset] [])) (fun _ k => XS.icmpYes X31.here hx rfl (pc0 := 153) (pc' := 163) rfl (hb hby at_153) rfl (tlt hc153d7).1 (by decide) (by decide) k) ?_
        exact t163d7 
      · rw [show (f0_150d7 xx oo ss le31 gg31) = (f0_156d7 xx oo ss le31 gg31) from if_neg hc153d7]
        refine Go.step (g' := (mkF m 156 #[.val (.int p0), .val (.int p1), .val (.int p2), .val (.int (1 : Int32)), .val (.int xx), .val (.int oo), .val (.int ss), .val (.ref b1), .val (.ref w_LEGACY), .val (.int le31), .unset, .unset, .unset, .unset, .unset, .unset, .unset, .unset, .unset, .unset, .unset] [])) (fun _ k => XS.icmpNo X31.here hx rfl (hb hby at_153) rfl (flt hc153d7).1 k) ?_
        refine Go.step (g' := (mkF m 158 #[.val (.int p0), .val (.int p1), .val (.int p2), .val (.int (1 : Int32)), .val (.int xx), .val (.int oo), .val (.int ss), .val (.ref b1), .val (.ref w_LEGACY), .val (.int le31), .unset, .unset, .unset, .unset, .unset, .unset, .unset, .unset, .unset, .unset, .unset] [(.int le31)])) (fun _ k => XS.iload X31.here hx rfl (hb hby at_156) rfl  k) ?_
        refine Go.step (g' := (mkF m 160 #[.val (.int p0), .val (.int p1), .val (.int p2), .val (.int (1 : Int32)), .val (.int xx), .val (.int oo), .val (.int ss), .val (.ref b1), .val (.ref w_LEGACY), .val (.int le31), .unset, .unset, .unset, .unset, .unset, .unset, .unset, .unset, .unset, .unset, .unset] [(.int (6 : Int32)), (.int le31)])) (fun _ k => XS.bipush X31.here hx rfl (hb hby at_158) k) ?_
        by_cases hc160d7 : (6 : Int32) < le31
        · rw [show (f0_156d7 xx oo ss le31 gg31) = f0_163d7 from if_pos hc160d7]
          refine Go.step (g' := (mkF m 163 #[.val (.int p0), .val (.int p1), .val (.int p2), .val (.int (1 : Int32)), .val (.int xx), .val (.int oo), .val (.int ss), .val (.ref b1), .val (.ref w_LEGACY), .val (.int le31), .unset, .unset, .unset, .unset, .unset, .unset, .unset, .unset, .unset, .unset, .unset] [])) (fun _ k => XS.icmpNo X31.here hx rfl (hb hby at_160) rfl (tlt hc160d7).2.2.2 k) ?_
          exact t163d7 
        · rw [show (f0_156d7 xx oo ss le31 gg31) = (f0_165d7 xx oo ss le31 gg31) from if_neg hc160d7]
          refine Go.step (g' := (mkF m 165 #[.val (.int p0), .val (.int p1), .val (.int p2), .val (.int (1 : Int32)), .val (.int xx), .val (.int oo), .val (.int ss), .val (.ref b1), .val (.ref w_LEGACY), .val (.int le31), .unset, .unset, .unset, .unset, .unset, .unset, .unset, .unset, .unset, .unset, .unset] [])) (fun _ k => XS.icmpYes X31.here hx rfl (pc0 := 160) (pc' := 165) rfl (hb hby at_160) rfl (flt hc160d7).2.2.2 (by decide) (by decide) k) ?_
          refine Go.step (g' := (mkF m 166 #[.val (.int p0), .val (.int p1), .val (.int p2), .val (.int (1 : Int32)), .val (.int xx), .val (.int oo), .val (.int ss), .val (.ref b1), .val (.ref w_LEGACY), .val (.int le31), .unset, .unset, .unset, .unset, .unset, .unset, .unset, .unset, .unset, .unset, .unset] [(.int (1 : Int32))])) (fun _ k => XS.iloadN X31.here hx rfl (hb hby at_165) rfl  k) ?_
          refine Go.step (g' := (mkF m 177 #[.val (.int p0), .val (.int p1), .val (.int p2), .val (.int (1 : Int32)), .val (.int xx), .val (.int oo), .val (.int ss), .val (.ref b1), .val (.ref w_LEGACY), .val (.int le31), .unset, .unset, .unset, .unset, .unset, .unset, .unset, .unset, .unset, .unset, .unset] [])) (fun _ k => XS.ifYes X31.here hx rfl (pc0 := 166) (pc' := 177) rfl (hb hby at_166) rfl ((if0 _ _).trans (feq (by decide : ¬ ((1 : Int32) = (0 : Int32)))).2) (by decide) (by decide) k) ?_
          rw [show (f0_165d7 xx oo ss le31 gg31) = (f0_177d7 xx oo ss le31 gg31) from rfl]
          refine Go.step (g' := (mkF m 179 #[.val (.int p0), .val (.int p1), .val (.int p2), .val (.int (1 : Int32)), .val (.int xx), .val (.int oo), .val (.int ss), .val (.ref b1), .val (.ref w_LEGACY), .val (.int le31), .unset, .unset, .unset, .unset, .unset, .unset, .unset, .unset, .unset, .unset, .unset] [(.int le31)])) (fun _ k => XS.iload X31.here hx rfl (hb hby at_177) rfl  k) ?_
          refine Go.step (g' := (mkF m 180 #[.val (.int p0), .val (.int p1), .val (.int p2), .val (.int (1 : Int32)), .val (.int xx), .val (.int oo), .val (.int ss), .val (.ref b1), .val (.ref w_LEGACY), .val (.int le31), .unset, .unset, .unset, .unset, .unset, .unset, .unset, .unset, .unset, .unset, .unset] [(.int (1 : Int32)), (.int le31)])) (fun _ k => XS.iconst X31.here hx rfl (hb hby at_179) k) ?_
          have t209d7 : ∀ (v209d7_s0 : Int64), Go p e below s room_1.cells room_1.slots (LawQ (some (.int (f0_209d7 xx oo ss le31 gg31 v209d7_s0))) n0) T31 (mkF m 209 #[.val (.int p0), .val (.int p1), .val (.int p2), .val (.int (1 : Int32)), .val (.int xx), .val (.int oo), .val (.int ss), .val (.ref b1), .val (.ref w_LEGACY), .val (.int le31), .unset, .unset, .unset, .unset, .unset, .unset, .unset, .unset, .unset, .unset, .unset] [(.long v209d7_s0)]) := by
            intro v209d7_s0
            refine Go.step (g' := (mkF m 211 #[.val (.int p0), .val (.int p1), .val (.int p2), .val (.int (1 : Int32)), .val (.int xx), .val (.int oo), .val (.int ss), .val (.ref b1), .val (.ref w_LEGACY), .val (.int le31), .val (.long v209d7_s0), .second, .unset, .unset, .unset, .unset, .unset, .unset, .unset, .unset, .unset] [])) (fun _ k => XS.lstore X31.here hx rfl (hb hby at_209) rfl (l' := #[.val (.int p0), .val (.int p1), .val (.int p2), .val (.int (1 : Int32)), .val (.int xx), .val (.int oo), .val (.int ss), .val (.ref b1), .val (.ref w_LEGACY), .val (.int le31), .val (.long v209d7_s0), .second, .unset, .unset, .unset, .unset, .unset, .unset, .unset, .unset, .unset]) rfl k) ?_
            refine Go.step (g' := (mkF m 213 #[.val (.int p0), .val (.int p1), .val (.int p2), .val (.int (1 : Int32)), .val (.int xx), .val (.int oo), .val (.int ss), .val (.ref b1), .val (.ref w_LEGACY), .val (.int le31), .val (.long v209d7_s0), .second, .unset, .unset, .unset, .unset, .unset, .unset, .unset, .unset, .unset] [(.int le31)])) (fun _ k => XS.iload X31.here hx rfl (hb hby at_211) rfl  k) ?_
            refine Go.step (g' := (mkF m 214 #[.val (.int p0), .val (.int p1), .val (.int p2), .val (.int (1 : Int32)), .val (.int xx), .val (.int oo), .val (.int ss), .val (.ref b1), .val (.ref w_LEGACY), .val (.int le31), .val (.long v209d7_s0), .second, .unset, .unset, .unset, .unset, .unset, .unset, .unset, .unset, .unset] [(.int (1 : Int32)), (.int le31)])) (fun _ k => XS.iconst X31.here hx rfl (hb hby at_213) k) ?_
            have t231d7 : ∀ (v231d7_s0 : Int64), Go p e below s room_1.cells room_1.slots (LawQ (some (.int (f0_231d7 xx oo ss le31 gg31 v209d7_s0 v231d7_s0))) n0) T31 (mkF m 231 #[.val (.int p0), .val (.int p1), .val (.int p2), .val (.int (1 : Int32)), .val (.int xx), .val (.int oo), .val (.int ss), .val (.ref b1), .val (.ref w_LEGACY), .val (.int le31), .val (.long v209d7_s0), .second, .unset, .unset, .unset, .unset, .unset, .unset, .unset, .unset, .unset] [(.long v231d7_s0)]) := by
              intro v231d7_s0
              refine Go.step (g' := (mkF m 233 #[.val (.int p0), .val (.int p1), .val (.int p2), .val (.int (1 : Int32)), .val (.int xx), .val (.int oo), .val (.int ss), .val (.ref b1), .val (.ref w_LEGACY), .val (.int le31), .val (.long v209d7_s0), .second, .val (.long v231d7_s0), .second, .unset, .unset, .unset, .unset, .unset, .unset, .unset] [])) (fun _ k => XS.lstore X31.here hx rfl (hb hby at_231) rfl (l' := #[.val (.int p0), .val (.int p1), .val (.int p2), .val (.int (1 : Int32)), .val (.int xx), .val (.int oo), .val (.int ss), .val (.ref b1), .val (.ref w_LEGACY), .val (.int le31), .val (.long v209d7_s0), .second, .val (.long v231d7_s0), .second, .unset, .unset, .unset, .unset, .unset, .unset, .unset]) rfl k) ?_
              refine Go.step (g' := (mkF m 235 #[.val (.int p0), .val (.int p1), .val (.int p2), .val (.int (1 : Int32)), .val (.int xx), .val (.int oo), .val (.int ss), .val (.ref b1), .val (.ref w_LEGACY), .val (.int le31), .val (.long v209d7_s0), .second, .val (.long v231d7_s0), .second, .unset, .unset, .unset, .unset, .unset, .unset, .unset] [(.int xx)])) (fun _ k => XS.iload X31.here hx rfl (hb hby at_233) rfl  k) ?_
              refine Go.step (g' := (mkF m 236 #[.val (.int p0), .val (.int p1), .val (.int p2), .val (.int (1 : Int32)), .val (.int xx), .val (.int oo), .val (.int ss), .val (.ref b1), .val (.ref w_LEGACY), .val (.int le31), .val (.long v209d7_s0), .second, .val (.long v231d7_s0), .second, .unset, .unset, .unset, .unset, .unset, .unset, .unset] [(.long (xx.toInt64))])) (fun _ k => XS.i2l X31.here hx rfl (hb hby at_235) rfl k) ?_
              refine Go.step (g' := (mkF m 238 #[.val (.int p0), .val (.int p1), .val (.int p2), .val (.int (1 : Int32)), .val (.int xx), .val (.int oo), .val (.int ss), .val (.ref b1), .val (.ref w_LEGACY), .val (.int le31), .val (.long v209d7_s0), .second, .val (.long v231d7_s0), .second, .unset, .unset, .unset, .unset, .unset, .unset, .unset] [(.long v209d7_s0), (.long (xx.toInt64))])) (fun _ k => XS.lload X31.here hx rfl (hb hby at_236) rfl  k) ?_
              refine Go.step (g' := (mkF m 239 #[.val (.int p0), .val (.int p1), .val (.int p2), .val (.int (1 : Int32)), .val (.int xx), .val (.int oo), .val (.int ss), .val (.ref b1), .val (.ref w_LEGACY), .val (.int le31), .val (.long v209d7_s0), .second, .val (.long v231d7_s0), .second, .unset, .unset, .unset, .unset, .unset, .unset, .unset] [(.int (lcmpW (xx.toInt64) v209d7_s0))])) (fun _ k => XS.lcmp X31.here hx rfl (hb hby at_238) rfl k) ?_
              have t251d7 : Go p e below s room_1.cells room_1.slots (LawQ (some (.int f0_251d7)) n0) T31 (mkF m 251 #[.val (.int p0), .val (.int p1), .val (.int p2), .val (.int (1 : Int32)), .val (.int xx), .val (.int oo), .val (.int ss), .val (.ref b1), .val (.ref w_LEGACY), .val (.int le31), .val (.long v209d7_s0), .second, .val (.long v231d7_s0), .second, .unset, .unset, .unset, .unset, .unset, .unset, .unset] []) := by
                refine Go.step (g' := (mkF m 252 #[.val (.int p0), .val (.int p1), .val (.int p2), .val (.int (1 : Int32)), .val (.int xx), .val (.int oo), .val (.int ss), .val (.ref b1), .val (.ref w_LEGACY), .val (.int le31), .val (.long v209d7_s0), .second, .val (.long v231d7_s0), .second, .unset, .unset, .unset, .unset, .unset, .unset, .unset] [(.int (0 : Int32))])) (fun _ k => XS.iconst X31.here hx rfl (hb hby at_251) k) ?_
                exact Go.retN X31 hx hlk (t := .boolean) Bd.returns (by simp) (hb hby at_252) (by decide) (by decide) ⟨rfl, N31⟩
              by_cases hc239d7 : (lcmpW (xx.toInt64) v209d7_s0) < (0 : Int32)
              · rw [show (f0_231d7 xx oo ss le31 gg31 v209d7_s0 v231d7_s0) = f0_251d7 from if_pos hc239d7]
                refine Go.step (g' := (mkF m 251 #[.val (.int p0), .val (.int p1), .val (.int p2), .val (.int (1 : Int32)), .val (.int xx), .val (.int oo), .val (.int ss), .val (.ref b1), .val (.ref w_LEGACY), .val (.int le31), .val (.long v209d7_s0), .second, .val (.long v231d7_s0), .second, .unset, .unset, .unset, .unset, .unset, .unset, .unset] [])) (fun _ k => XS.ifYes X31.here hx rfl (pc0 := 239) (pc' := 251) rfl (hb hby at_239) rfl ((if0 _ _).trans (tlt hc239d7).1) (by decide) (by decide) k) ?_
                exact t251d7 
              · rw [show (f0_231d7 xx oo ss le31 gg31 v209d7_s0 v231d7_s0) = (f0_242d7 xx oo ss le31 gg31 v231d7_s0) from if_neg hc239d7]
                refine Go.step (g' := (mkF m 242 #[.val (.int p0), .val (.int p1), .val (.int p2), .val (.int (1 : Int32)), .val (.int xx), .val (.int oo), .val (.int ss), .val (.ref b1), .val (.ref w_LEGACY), .val (.int le31), .val (.long v209d7_s0), .second, .val (.long v231d7_s0), .second, .unset, .unset, .unset, .unset, .unset, .unset, .unset] [])) (fun _ k => XS.ifNo X31.here hx rfl (hb hby at_239) rfl ((if0 _ _).trans (flt hc239d7).1) k) ?_
                refine Go.step (g' := (mkF m 244 #[.val (.int p0), .val (.int p1), .val (.int p2), .val (.int (1 : Int32)), .val (.int xx), .val (.int oo), .val (.int ss), .val (.ref b1), .val (.ref w_LEGACY), .val (.int le31), .val (.long v209d7_s0), .second, .val (.long v231d7_s0), .second, .unset, .unset, .unset, .unset, .unset, .unset, .unset] [(.int xx)])) (fun _ k => XS.iload X31.here hx rfl (hb hby at_242) rfl  k) ?_
                refine Go.step (g' := (mkF m 245 #[.val (.int p0), .val (.int p1), .val (.int p2), .val (.int (1 : Int32)), .val (.int xx), .val (.int oo), .val (.int ss), .val (.ref b1), .val (.ref w_LEGACY), .val (.int le31), .val (.long v209d7_s0), .second, .val (.long v231d7_s0), .second, .unset, .unset, .unset, .unset, .unset, .unset, .unset] [(.long (xx.toInt64))])) (fun _ k => XS.i2l X31.here hx rfl (hb hby at_244) rfl k) ?_
                refine Go.step (g' := (mkF m 247 #[.val (.int p0), .val (.int p1), .val (.int p2), .val (.int (1 : Int32)), .val (.int xx), .val (.int oo), .val (.int ss), .val (.ref b1), .val (.ref w_LEGACY), .val (.int le31), .val (.long v209d7_s0), .second, .val (.long v231d7_s0), .second, .unset, .unset, .unset, .unset, .unset, .unset, .unset] [(.long v231d7_s0), (.long (xx.toInt64))])) (fun _ k => XS.lload X31.here hx rfl (hb hby at_245) rfl  k) ?_
                refine Go.step (g' := (mkF m 248 #[.val (.int p0), .val (.int p1), .val (.int p2), .val (.int (1 : Int32)), .val (.int xx), .val (.int oo), .val (.int ss), .val (.ref b1), .val (.ref w_LEGACY), .val (.int le31), .val (.long v209d7_s0), .second, .val (.long v231d7_s0), .second, .unset, .unset, .unset, .unset, .unset, .unset, .unset] [(.int (lcmpW (xx.toInt64) v231d7_s0))])) (fun _ k => XS.lcmp X31.here hx rfl (hb hby at_247) rfl k) ?_
                by_cases hc248d7 : (lcmpW (xx.toInt64) v231d7_s0) < (0 : Int32)
                · rw [show (f0_242d7 xx oo ss le31 gg31 v231d7_s0) = (f0_253d7 xx oo ss le31 gg31) from if_pos hc248d7]
                  refine Go.step (g' := (mkF m 253 #[.val (.int p0), .val (.int p1), .val (.int p2), .val (.int (1 : Int32)), .val (.int xx), .val (.int oo), .val (.int ss), .val (.ref b1), .val (.ref w_LEGACY), .val (.int le31), .val (.long v209d7_s0), .second, .val (.long v231d7_s0), .second, .unset, .unset, .unset, .unset, .unset, .unset, .unset] [])) (fun _ k => XS.ifYes X31.here hx rfl (pc0 := 248) (pc' := 253) rfl (hb hby at_248) rfl ((if0 _ _).trans (tlt hc248d7).1) (by decide) (by decide) k) ?_
                  refine Go.step (g' := (mkF m 255 #[.val (.int p0), .val (.int p1), .val (.int p2), .val (.int (1 : Int32)), .val (.int xx), .val (.int oo), .val (.int ss), .val (.ref b1), .val (.ref w_LEGACY), .val (.int le31), .val (.long v209d7_s0), .second, .val (.long v231d7_s0), .second, .unset, .unset, .unset, .unset, .unset, .unset, .unset] [(.ref b1)])) (fun _ k => XS.aload X31.here hx rfl (hb hby at_253) rfl rfl  k) ?_
                  refine Go.step (g' := (mkF m 256 #[.val (.int p0), .val (.int p1), .val (.int p2), .val (.int (1 : Int32)), .val (.int xx), .val (.int oo), .val (.int ss), .val (.ref b1), .val (.ref w_LEGACY), .val (.int le31), .val (.long v209d7_s0), .second, .val (.long v231d7_s0), .second, .unset, .unset, .unset, .unset, .unset, .unset, .unset] [(.int (0 : Int32)), (.ref b1)])) (fun _ k => XS.iconst X31.here hx rfl (hb hby at_255) k) ?_
                  refine Go.step (g' := (mkF m 258 #[.val (.int p0), .val (.int p1), .val (.int p2), .val (.int (1 : Int32)), .val (.int xx), .val (.int oo), .val (.int ss), .val (.ref b1), .val (.ref w_LEGACY), .val (.int le31), .val (.long v209d7_s0), .second, .val (.long v231d7_s0), .second, .unset, .unset, .unset, .unset, .unset, .unset, .unset] [(.int oo), (.int (0 : Int32)), (.ref b1)])) (fun _ k => XS.iload X31.here hx rfl (hb hby at_256) rfl  k) ?_
                  refine Go.step (g' := (mkF m 260 #[.val (.int p0), .val (.int p1), .val (.int p2), .val (.int (1 : Int32)), .val (.int xx), .val (.int oo), .val (.int ss), .val (.ref b1), .val (.ref w_LEGACY), .val (.int le31), .val (.long v209d7_s0), .second, .val (.long v231d7_s0), .second, .unset, .unset, .unset, .unset, .unset, .unset, .unset] [(.int le31), (.int oo), (.int (0 : Int32)), (.ref b1)])) (fun _ k => XS.iload X31.here hx rfl (hb hby at_258) rfl  k) ?_
                  refine Go.step (g' := (mkF m 262 #[.val (.int p0), .val (.int p1), .val (.int p2), .val (.int (1 : Int32)), .val (.int xx), .val (.int oo), .val (.int ss), .val (.ref b1), .val (.ref w_LEGACY), .val (.int le31), .val (.long v209d7_s0), .second, .val (.long v231d7_s0), .second, .unset, .unset, .unset, .unset, .unset, .unset, .unset] [(.int ss), (.int le31), (.int oo), (.int (0 : Int32)), (.ref b1)])) (fun _ k => XS.iload X31.here hx rfl (hb hby at_260) rfl  k) ?_
                  obtain ⟨_, _, ⟨T35, L35, k35, n35⟩, -, X35, ⟨Lc35, hQ35, l35, y35, z35⟩, st35⟩ := Jvm.LawKit.callS X31 hx (y := (⟨"com/example/ucs_to_octets/ucstooctets/Utf8EncodePinLaw", "untouched", "([BIIIB)Z"⟩ : MethodName)) hown (mvT hZ (hw _ (List.mem_of_getElem? (i := 19) rfl))) (mvT hZ (hw _ (List.mem_of_getElem? (i := 20) rfl))) (mvT hZ (hw _ (List.mem_of_getElem? (i := 21) rfl))) (mvT hZ (hw _ (List.mem_of_getElem? (i := 22) rfl))) (by decide) (backOf (W := 0) (rm3 l Z a0 hw [] b1 (0 : Int32) oo le31 ss gg31 T31.heap Ac31 (by decide)) hZ (hw _ (List.mem_of_getElem? (i := 22) rfl)) (hw _ (List.mem_of_getElem? (i := 21) rfl)) (by decide) (by decide)) (g := (mkF m 262 #[.val (.int p0), .val (.int p1), .val (.int p2), .val (.int (1 : Int32)), .val (.int xx), .val (.int oo), .val (.int ss), .val (.ref b1), .val (.ref w_LEGACY), .val (.int le31), .val (.long v209d7_s0), .second, .val (.long v231d7_s0), .second, .unset, .unset, .unset, .unset, .unset, .unset, .unset] [(.int ss), (.int le31), (.int oo), (.int (0 : Int32)), (.ref b1)])) rfl (by rw [hml]; rfl) (argsL := [(.ref b1), (.int (0 : Int32)), (.int oo), (.int le31), (.int ss)]) (rest := []) (lenOf pd_3 rfl) rfl (by show 2 * 0 + _ ≤ _; exact Nat.le_of_eq rfl) (hb hby at_262) (fun _ _ => ⟨rfl, rfl, (by decide : ((0 + 1) + 0) + 0 ≤ _), (by decide : ((0 + 9) + 0) + 0 ≤ _)⟩)
                  dsimp only [Pt.U, Pt.locs, Pt.cells, Pt.slots] at X35 l35 y35 z35 st35 hQ35
                  subst l35 y35 z35
                  obtain ⟨rfl, rfl, e35⟩ := hQ35
                  try rw [List.append_nil] at X35
                  refine Go.step (g' := (mkF m 265 #[.val (.int p0), .val (.int p1), .val (.int p2), .val (.int (1 : Int32)), .val (.int xx), .val (.int oo), .val (.int ss), .val (.ref b1), .val (.ref w_LEGACY), .val (.int le31), .val (.long v209d7_s0), .second, .val (.long v231d7_s0), .second, .unset, .unset, .unset, .unset, .unset, .unset, .unset] [(.int (f3_0 (0 : Int32) oo le31 ss gg31))])) st35 ?_
                  have t396d7 : ∀ (T_396d7 : State) (X_396d7 : Stand p l e room_1 s m #[(.int p0), (.int p1), (.int p2)] below meth c T_396d7 lc31 ((0 + 1) + 0) ((0 + 9) + 0)) (e_396d7 : T_396d7.heap = T31.heap) (v396d7_s0 : Int32), Go p e below s room_1.cells room_1.slots (LawQ (some (.int (f0_396d7 xx oo le31 gg31 v396d7_s0))) n0) T_396d7 (mkF m 396 #[.val (.int p0), .val (.int p1), .val (.int p2), .val (.int (1 : Int32)), .val (.int xx), .val (.int oo), .val (.int ss), .val (.ref b1), .val (.ref w_LEGACY), .val (.int le31), .val (.long v209d7_s0), .second, .val (.long v231d7_s0), .second, .unset, .unset, .unset, .unset, .unset, .unset, .unset] [(.int v396d7_s0)]) := by
                    intro T_396d7 X_396d7 e_396d7 v396d7_s0
                    refine Go.step (g' := (mkF m 398 #[.val (.int p0), .val (.int p1), .val (.int p2), .val (.int (1 : Int32)), .val (.int xx), .val (.int oo), .val (.int ss), .val (.ref b1), .val (.ref w_LEGACY), .val (.int le31), .val (.long v209d7_s0), .second, .val (.long v231d7_s0), .second, .val (.int v396d7_s0), .unset, .unset, .unset, .unset, .unset, .unset] [])) (fun _ k => XS.istore X_396d7.here hx rfl (hb hby at_396) rfl (l' := #[.val (.int p0), .val (.int p1), .val (.int p2), .val (.int (1 : Int32)), .val (.int xx), .val (.int oo), .val (.int ss), .val (.ref b1), .val (.ref w_LEGACY), .val (.int le31), .val (.long v209d7_s0), .second, .val (.long v231d7_s0), .second, .val (.int v396d7_s0), .unset, .unset, .unset, .unset, .unset, .unset]) rfl k) ?_
                    refine Go.step (g' := (mkF m 400 #[.val (.int p0), .val (.int p1), .val (.int p2), .val (.int (1 : Int32)), .val (.int xx), .val (.int oo), .val (.int ss), .val (.ref b1), .val (.ref w_LEGACY), .val (.int le31), .val (.long v209d7_s0), .second, .val (.long v231d7_s0), .second, .val (.int v396d7_s0), .unset, .unset, .unset, .unset, .unset, .unset] [(.int v396d7_s0)])) (fun _ k => XS.iload X_396d7.here hx rfl (hb hby at_398) rfl  k) ?_
                    by_cases hc400d7 : v396d7_s0 = (0 : Int32)
                    · rw [show (f0_396d7 xx oo le31 gg31 v396d7_s0) = f0_403d7 from if_pos hc400d7]
                      refine Go.step (g' := (mkF m 403 #[.val (.int p0), .val (.int p1), .val (.int p2), .val (.int (1 : Int32)), .val (.int xx), .val (.int oo), .val (.int ss), .val (.ref b1), .val (.ref w_LEGACY), .val (.int le31), .val (.long v209d7_s0), .second, .val (.long v231d7_s0), .second, .val (.int v396d7_s0), .unset, .unset, .unset, .unset, .unset, .unset] [])) (fun _ k => XS.ifNo X_396d7.here hx rfl (hb hby at_400) rfl ((if0 _ _).trans (teq hc400d7).2) k) ?_
                      refine Go.step (g' := (mkF m 404 #[.val (.int p0), .val (.int p1), .val (.int p2), .val (.int (1 : Int32)), .val (.int xx), .val (.int oo), .val (.int ss), .val (.ref b1), .val (.ref w_LEGACY), .val (.int le31), .val (.long v209d7_s0), .second, .val (.long v231d7_s0), .second, .val (.int v396d7_s0), .unset, .unset, .unset, .unset, .unset, .unset] [(.int (0 : Int32))])) (fun _ k => XS.iconst X_396d7.here hx rfl (hb hby at_403) k) ?_
                      exact Go.retN X_396d7 hx hlk (t := .boolean) Bd.returns (by simp) (hb hby at_404) (by decide) (by decide) ⟨rfl, N31⟩
                    · rw [show (f0_396d7 xx oo le31 gg31 v396d7_s0) = (f0_405d7 xx oo le31 gg31) from if_neg hc400d7]
                      refine Go.step (g' := (mkF m 405 #[.val (.int p0), .val (.int p1), .val (.int p2), .val (.int (1 : Int32)), .val (.int xx), .val (.int oo), .val (.int ss), .val (.ref b1), .val (.ref w_LEGACY), .val (.int le31), .val (.long v209d7_s0), .second, .val (.long v231d7_s0), .second, .val (.int v396d7_s0), .unset, .unset, .unset, .unset, .unset, .unset] [])) (fun _ k => XS.ifYes X_396d7.here hx rfl (pc0 := 400) (pc' := 405) rfl (hb hby at_400) rfl ((if0 _ _).trans (feq hc400d7).2) (by decide) (by decide) k) ?_
                      refine Go.step (g' := (mkF m 407 #[.val (.int p0), .val (.int p1), .val (.int p2), .val (.int (1 : Int32)), .val (.int xx), .val (.int oo), .val (.int ss), .val (.ref b1), .val (.ref w_LEGACY), .val (.int le31), .val (.long v209d7_s0), .second, .val (.long v231d7_s0), .second, .val (.int v396d7_s0), .unset, .unset, .unset, .unset, .unset, .unset] [(.ref b1)])) (fun _ k => XS.aload X_396d7.here hx rfl (hb hby at_405) rfl rfl  k) ?_
                      refine Go.step (g' := (mkF m 409 #[.val (.int p0), .val (.int p1), .val (.int p2), .val (.int (1 : Int32)), .val (.int xx), .val (.int oo), .val (.int ss), .val (.ref b1), .val (.ref w_LEGACY), .val (.int le31), .val (.long v209d7_s0), .second, .val (.long v231d7_s0), .second, .val (.int v396d7_s0), .unset, .unset, .unset, .unset, .unset, .unset] [(.int oo), (.ref b1)])) (fun _ k => XS.iload X_396d7.here hx rfl (hb hby at_407) rfl  k) ?_
                      refine Go.step (g' := (mkF m 410 #[.val (.int p0), .val (.int p1), .val (.int p2), .val (.int (1 : Int32)), .val (.int xx), .val (.int oo), .val (.int ss), .val (.ref b1), .val (.ref w_LEGACY), .val (.int le31), .val (.long v209d7_s0), .second, .val (.long v231d7_s0), .second, .val (.int v396d7_s0), .unset, .unset, .unset, .unset, .unset, .unset] [(.int (gg31 oo.toNatClampNeg))])) (fun _ k => getAB X_396d7 hx hZ e_396d7 Ac31 (j := oo) (own_ix0 ho) (gf := (mkF m 409 #[.val (.int p0), .val (.int p1), .val (.int p2), .val (.int (1 : Int32)), .val (.int xx), .val (.int oo), .val (.int ss), .val (.ref b1), .val (.ref w_LEGACY), .val (.int le31), .val (.long v209d7_s0), .second, .val (.long v231d7_s0), .second, .val (.int v396d7_s0), .unset, .unset, .unset, .unset, .unset, .unset] [(.int oo), (.ref b1)])) rfl rfl (hb hby at_409) k) ?_
                      refine Go.step (g' := (mkF m 413 #[.val (.int p0), .val (.int p1), .val (.int p2), .val (.int (1 : Int32)), .val (.int xx), .val (.int oo), .val (.int ss), .val (.ref b1), .val (.ref w_LEGACY), .val (.int le31), .val (.long v209d7_s0), .second, .val (.long v231d7_s0), .second, .val (.int v396d7_s0), .unset, .unset, .unset, .unset, .unset, .unset] [(.int (255 : Int32)), (.int (gg31 oo.toNatClampNeg))])) (fun _ k => XS.sipush X_396d7.here hx rfl (hb hby at_410) k) ?_
                      refine Go.step (g' := (mkF m 414 #[.val (.int p0), .val (.int p1), .val (.int p2), .val (.int (1 : Int32)), .val (.int xx), .val (.int oo), .val (.int ss), .val (.ref b1), .val (.ref w_LEGACY), .val (.int le31), .val (.long v209d7_s0), .second, .val (.long v231d7_s0), .second, .val (.int v396d7_s0), .unset, .unset, .unset, .unset, .unset, .unset] [(.int ((gg31 oo.toNatClampNeg) &&& (255 : Int32)))])) (fun _ k => XS.iand X_396d7.here hx rfl (hb hby at_413) rfl k) ?_
                      refine Go.step (g' := (mkF m 416 #[.val (.int p0), .val (.int p1), .val (.int p2), .val (.int (1 : Int32)), .val (.int xx), .val (.int oo), .val (.int ss), .val (.ref b1), .val (.ref w_LEGACY), .val (.int le31), .val (.long v209d7_s0), .second, .val (.long v231d7_s0), .second, .val (.int v396d7_s0), .val (.int ((gg31 oo.toNatClampNeg) &&& (255 : Int32))), .unset, .unset, .unset, .unset, .unset] [])) (fun _ k => XS.istore X_396d7.here hx rfl (hb hby at_414) rfl (l' := #[.val (.int p0), .val (.int p1), .val (.int p2), .val (.int (1 : Int32)), .val (.int xx), .val (.int oo), .val (.int ss), .val (.ref b1), .val (.ref w_LEGACY), .val (.int le31), .val (.long v209d7_s0), .second, .val (.long v231d7_s0), .second, .val (.int v396d7_s0), .val (.int ((gg31 oo.toNatClampNeg) &&& (255 : Int32))), .unset, .unset, .unset, .unset, .unset]) rfl k) ?_
                      refine Go.step (g' := (mkF m 418 #[.val (.int p0), .val (.int p1), .val (.int p2), .val (.int (1 : Int32)), .val (.int xx), .val (.int oo), .val (.int ss), .val (.ref b1), .val (.ref w_LEGACY), .val (.int le31), .val (.long v209d7_s0), .second, .val (.long v231d7_s0), .second, .val (.int v396d7_s0), .val (.int ((gg31 oo.toNatClampNeg) &&& (255 : Int32))), .unset, .unset, .unset, .unset, .unset] [(.int le31)])) (fun _ k => XS.iload X_396d7.here hx rfl (hb hby at_416) rfl  k) ?_
                      refine Go.step (g' := (mkF m 419 #[.val (.int p0), .val (.int p1), .val (.int p2), .val (.int (1 : Int32)), .val (.int xx), .val (.int oo), .val (.int ss), .val (.ref b1), .val (.ref w_LEGACY), .val (.int le31), .val (.long v209d7_s0), .second, .val (.long v231d7_s0), .second, .val (.int v396d7_s0), .val (.int ((gg31 oo.toNatClampNeg) &&& (255 : Int32))), .unset, .unset, .unset, .unset, .unset] [(.int (1 : Int32)), (.int le31)])) (fun _ k => XS.iconst X_396d7.here hx rfl (hb hby at_418) k) ?_
                      have t435d7 : ∀ (v435d7_s0 : Int32), Go p e below s room_1.cells room_1.slots (LawQ (some (.int (f0_435d7 xx oo le31 gg31 v435d7_s0))) n0) T_396d7 (mkF m 435 #[.val (.int p0), .val (.int p1), .val (.int p2), .val (.int (1 : Int32)), .val (.int xx), .val (.int oo), .val (.int ss), .val (.ref b1), .val (.ref w_LEGACY), .val (.int le31), .val (.long v209d7_s0), .second, .val (.long v231d7_s0), .second, .val (.int v396d7_s0), .val (.int ((gg31 oo.toNatClampNeg) &&& (255 : Int32))), .unset, .unset, .unset, .unset, .unset] [(.int v435d7_s0)]) := by
                        intro v435d7_s0
                        refine Go.step (g' := (mkF m 437 #[.val (.int p0), .val (.int p1), .val (.int p2), .val (.int (1 : Int32)), .val (.int xx), .val (.int oo), .val (.int ss), .val (.ref b1), .val (.ref w_LEGACY), .val (.int le31), .val (.long v209d7_s0), .second, .val (.long v231d7_s0), .second, .val (.int v396d7_s0), .val (.int ((gg31 oo.toNatClampNeg) &&& (255 : Int32))), .val (.int v435d7_s0), .unset, .unset, .unset, .unset] [])) (fun _ k => XS.istore X_396d7.here hx rfl (hb hby at_435) rfl (l' := #[.val (.int p0), .val (.int p1), .val (.int p2), .val (.int (1 : Int32)), .val (.int xx), .val (.int oo), .val (.int ss), .val (.ref b1), .val (.ref w_LEGACY), .val (.int le31), .val (.long v209d7_s0), .second, .val (.long v231d7_s0), .second, .val (.int v396d7_s0), .val (.int ((gg31 oo.toNatClampNeg) &&& (255 : Int32))), .val (.int v435d7_s0), .unset, .unset, .unset, .unset]) rfl k) ?_
                        refine Go.step (g' := (mkF m 439 #[.val (.int p0), .val (.int p1), .val (.int p2), .val (.int (1 : Int32)), .val (.int xx), .val (.int oo), .val (.int ss), .val (.ref b1), .val (.ref w_LEGACY), .val (.int le31), .val (.long v209d7_s0), .second, .val (.long v231d7_s0), .second, .val (.int v396d7_s0), .val (.int ((gg31 oo.toNatClampNeg) &&& (255 : Int32))), .val (.int v435d7_s0), .unset, .unset, .unset, .unset] [(.int le31)])) (fun _ k => XS.iload X_396d7.here hx rfl (hb hby at_437) rfl  k) ?_
                        refine Go.step (g' := (mkF m 440 #[.val (.int p0), .val (.int p1), .val (.int p2), .val (.int (1 : Int32)), .val (.int xx), .val (.int oo), .val (.int ss), .val (.ref b1), .val (.ref w_LEGACY), .val (.int le31), .val (.long v209d7_s0), .second, .val (.long v231d7_s0), .second, .val (.int v396d7_s0), .val (.int ((gg31 oo.toNatClampNeg) &&& (255 : Int32))), .val (.int v435d7_s0), .unset, .unset, .unset, .unset] [(.int (1 : Int32)), (.int le31)])) (fun _ k => XS.iconst X_396d7.here hx rfl (hb hby at_439) k) ?_
                        have t456d7 : ∀ (v456d7_s0 : Int32), Go p e below s room_1.cells room_1.slots (LawQ (some (.int (f0_456d7 xx oo le31 gg31 v435d7_s0 v456d7_s0))) n0) T_396d7 (mkF m 456 #[.val (.int p0), .val (.int p1), .val (.int p2), .val (.int (1 : Int32)), .val (.int xx), .val (.int oo), .val (.int ss), .val (.ref b1), .val (.ref w_LEGACY), .val (.int le31), .val (.long v209d7_s0), .second, .val (.long v231d7_s0), .second, .val (.int v396d7_s0), .val (.int ((gg31 oo.toNatClampNeg) &&& (255 : Int32))), .val (.int v435d7_s0), .unset, .unset, .unset, .unset] [(.int v456d7_s0)]) := by
                          intro v456d7_s0
                          refine Go.step (g' := (mkF m 458 #[.val (.int p0), .val (.int p1), .val (.int p2), .val (.int (1 : Int32)), .val (.int xx), .val (.int oo), .val (.int ss), .val (.ref b1), .val (.ref w_LEGACY), .val (.int le31), .val (.long v209d7_s0), .second, .val (.long v231d7_s0), .second, .val (.int v396d7_s0), .val (.int ((gg31 oo.toNatClampNeg) &&& (255 : Int32))), .val (.int v435d7_s0), .val (.int v456d7_s0), .unset, .unset, .unset] [])) (fun _ k => XS.istore X_396d7.here hx rfl (hb hby at_456) rfl (l' := #[.val (.int p0), .val (.int p1), .val (.int p2), .val (.int (1 : Int32)), .val (.int xx), .val (.int oo), .val (.int ss), .val (.ref b1), .val (.ref w_LEGACY), .val (.int le31), .val (.long v209d7_s0), .second, .val (.long v231d7_s0), .second, .val (.int v396d7_s0), .val (.int ((gg31 oo.toNatClampNeg) &&& (255 : Int32))), .val (.int v435d7_s0), .val (.int v456d7_s0), .unset, .unset, .unset]) rfl k) ?_
                          refine Go.step (g' := (mkF m 460 #[.val (.int p0), .val (.int p1), .val (.int p2), .val (.int (1 : Int32)), .val (.int xx), .val (.int oo), .val (.int ss), .val (.ref b1), .val (.ref w_LEGACY), .val (.int le31), .val (.long v209d7_s0), .second, .val (.long v231d7_s0), .second, .val (.int v396d7_s0), .val (.int ((gg31 oo.toNatClampNeg) &&& (255 : Int32))), .val (.int v435d7_s0), .val (.int v456d7_s0), .unset, .unset, .unset] [(.int ((gg31 oo.toNatClampNeg) &&& (255 : Int32)))])) (fun _ k => XS.iload X_396d7.here hx rfl (hb hby at_458) rfl  k) ?_
                          refine Go.step (g' := (mkF m 462 #[.val (.int p0), .val (.int p1), .val (.int p2), .val (.int (1 : Int32)), .val (.int xx), .val (.int oo), .val (.int ss), .val (.ref b1), .val (.ref w_LEGACY), .val (.int le31), .val (.long v209d7_s0), .second, .val (.long v231d7_s0), .second, .val (.int v396d7_s0), .val (.int ((gg31 oo.toNatClampNeg) &&& (255 : Int32))), .val (.int v435d7_s0), .val (.int v456d7_s0), .unset, .unset, .unset] [(.int v435d7_s0), (.int ((gg31 oo.toNatClampNeg) &&& (255 : Int32)))])) (fun _ k => XS.iload X_396d7.here hx rfl (hb hby at_460) rfl  k) ?_
                          refine Go.step (g' := (mkF m 463 #[.val (.int p0), .val (.int p1), .val (.int p2), .val (.int (1 : Int32)), .val (.int xx), .val (.int oo), .val (.int ss), .val (.ref b1), .val (.ref w_LEGACY), .val (.int le31), .val (.long v209d7_s0), .second, .val (.long v231d7_s0), .second, .val (.int v396d7_s0), .val (.int ((gg31 oo.toNatClampNeg) &&& (255 : Int32))), .val (.int v435d7_s0), .val (.int v456d7_s0), .unset, .unset, .unset] [(.int (-1 : Int32)), (.int v435d7_s0), (.int ((gg31 oo.toNatClampNeg) &&& (255 : Int32)))])) (fun _ k => XS.iconst X_396d7.here hx rfl (hb hby at_462) k) ?_
                          refine Go.step (g' := (mkF m 464 #[.val (.int p0), .val (.int p1), .val (.int p2), .val (.int (1 : Int32)), .val (.int xx), .val (.int oo), .val (.int ss), .val (.ref b1), .val (.ref w_LEGACY), .val (.int le31), .val (.long v209d7_s0), .second, .val (.long v231d7_s0), .second, .val (.int v396d7_s0), .val (.int ((gg31 oo.toNatClampNeg) &&& (255 : Int32))), .val (.int v435d7_s0), .val (.int v456d7_s0), .unset, .unset, .unset] [(.int (v435d7_s0 ^^^ (-1 : Int32))), (.int ((gg31 oo.toNatClampNeg) &&& (255 : Int32)))])) (fun _ k => XS.ixor X_396d7.here hx rfl (hb hby at_463) rfl k) ?_
                          refine Go.step (g' := (mkF m 465 #[.val (.int p0), .val (.int p1), .val (.int p2), .val (.int (1 : Int32)), .val (.int xx), .val (.int oo), .val (.int ss), .val (.ref b1), .val (.ref w_LEGACY), .val (.int le31), .val (.long v209d7_s0), .second, .val (.long v231d7_s0), .second, .val (.int v396d7_s0), .val (.int ((gg31 oo.toNatClampNeg) &&& (255 : Int32))), .val (.int v435d7_s0), .val (.int v456d7_s0), .unset, .unset, .unset] [(.int (((gg31 oo.toNatClampNeg) &&& (255 : Int32)) &&& (v435d7_s0 ^^^ (-1 : Int32))))])) (fun _ k => XS.iand X_396d7.here hx rfl (hb hby at_464) rfl k) ?_
                          refine Go.step (g' := (mkF m 468 #[.val (.int p0), .val (.int p1), .val (.int p2), .val (.int (1 : Int32)), .val (.int xx), .val (.int oo), .val (.int ss), .val (.ref b1), .val (.ref w_LEGACY), .val (.int le31), .val (.long v209d7_s0), .second, .val (.long v231d7_s0), .second, .val (.int v396d7_s0), .val (.int ((gg31 oo.toNatClampNeg) &&& (255 : Int32))), .val (.int v435d7_s0), .val (.int v456d7_s0), .unset, .unset, .unset] [(.int (255 : Int32)), (.int (((gg31 oo.toNatClampNeg) &&& (255 : Int32)) &&& (v435d7_s0 ^^^ (-1 : Int32))))])) (fun _ k => XS.sipush X_396d7.here hx rfl (hb hby at_465) k) ?_
                          refine Go.step (g' := (mkF m 469 #[.val (.int p0), .val (.int p1), .val (.int p2), .val (.int (1 : Int32)), .val (.int xx), .val (.int oo), .val (.int ss), .val (.ref b1), .val (.ref w_LEGACY), .val (.int le31), .val (.long v209d7_s0), .second, .val (.long v231d7_s0), .second, .val (.int v396d7_s0), .val (.int ((gg31 oo.toNatClampNeg) &&& (255 : Int32))), .val (.int v435d7_s0), .val (.int v456d7_s0), .unset, .unset, .unset] [(.int ((((gg31 oo.toNatClampNeg) &&& (255 : Int32)) &&& (v435d7_s0 ^^^ (-1 : Int32))) &&& (255 : Int32)))])) (fun _ k => XS.iand X_396d7.here hx rfl (hb hby at_468) rfl k) ?_
                          refine Go.step (g' := (mkF m 471 #[.val (.int p0), .val (.int p1), .val (.int p2), .val (.int (1 : Int32)), .val (.int xx), .val (.int oo), .val (.int ss), .val (.ref b1), .val (.ref w_LEGACY), .val (.int le31), .val (.long v209d7_s0), .second, .val (.long v231d7_s0), .second, .val (.int v396d7_s0), .val (.int ((gg31 oo.toNatClampNeg) &&& (255 : Int32))), .val (.int v435d7_s0), .val (.int v456d7_s0), .unset, .unset, .unset] [(.int v456d7_s0), (.int ((((gg31 oo.toNatClampNeg) &&& (255 : Int32)) &&& (v435d7_s0 ^^^ (-1 : Int32))) &&& (255 : Int32)))])) (fun _ k => XS.iload X_396d7.here hx rfl (hb hby at_469) rfl  k) ?_
                          by_cases hc471d7 : ((((gg31 oo.toNatClampNeg) &&& (255 : Int32)) &&& (v435d7_s0 ^^^ (-1 : Int32))) &&& (255 : Int32)) = v456d7_s0
                          · rw [show (f0_456d7 xx oo le31 gg31 v435d7_s0 v456d7_s0) = (f0_476d7 xx oo le31 gg31 v435d7_s0) from if_pos hc471d7]
                            refine Go.step (g' := (mkF m 476 #[.val (.int p0), .val (.int p1), .val (.int p2), .val (.int (1 : Int32)), .val (.int xx), .val (.int oo), .val (.int ss), .val (.ref b1), .val (.ref w_LEGACY), .val (.int le31), .val (.long v209d7_s0), .second, .val (.long v231d7_s0), .second, .val (.int v396d7_s0), .val (.int ((gg31 oo.toNatClampNeg) &&& (255 : Int32))), .val (.int v435d7_s0), .val (.int v456d7_s0), .unset, .unset, .unset] [])) (fun _ k => XS.icmpYes X_396d7.here hx rfl (pc0 := 471) (pc' := 476) rfl (hb hby at_471) rfl (teq hc471d7).1 (by decide) (by decide) k) ?_
                            refine Go.step (g' := (mkF m 478 #[.val (.int p0), .val (.int p1), .val (.int p2), .val (.int (1 : Int32)), .val (.int xx), .val (.int oo), .val (.int ss), .val (.ref b1), .val (.ref w_LEGACY), .val (.int le31), .val (.long v209d7_s0), .second, .val (.long v231d7_s0), .second, .val (.int v396d7_s0), .val (.int ((gg31 oo.toNatClampNeg) &&& (255 : Int32))), .val (.int v435d7_s0), .val (.int v456d7_s0), .unset, .unset, .unset] [(.ref b1)])) (fun _ k => XS.aload X_396d7.here hx rfl (hb hby at_476) rfl rfl  k) ?_
                            refine Go.step (g' := (mkF m 480 #[.val (.int p0), .val (.int p1), .val (.int p2), .val (.int (1 : Int32)), .val (.int xx), .val (.int oo), .val (.int ss), .val (.ref b1), .val (.ref w_LEGACY), .val (.int le31), .val (.long v209d7_s0), .second, .val (.long v231d7_s0), .second, .val (.int v396d7_s0), .val (.int ((gg31 oo.toNatClampNeg) &&& (255 : Int32))), .val (.int v435d7_s0), .val (.int v456d7_s0), .unset, .unset, .unset] [(.int oo), (.ref b1)])) (fun _ k => XS.iload X_396d7.here hx rfl (hb hby at_478) rfl  k) ?_
                            refine Go.step (g' := (mkF m 482 #[.val (.int p0), .val (.int p1), .val (.int p2), .val (.int (1 : Int32)), .val (.int xx), .val (.int oo), .val (.int ss), .val (.ref b1), .val (.ref w_LEGACY), .val (.int le31), .val (.long v209d7_s0), .second, .val (.long v231d7_s0), .second, .val (.int v396d7_s0), .val (.int ((gg31 oo.toNatClampNeg) &&& (255 : Int32))), .val (.int v435d7_s0), .val (.int v456d7_s0), .unset, .unset, .unset] [(.int le31), (.int oo), (.ref b1)])) (fun _ k => XS.iload X_396d7.here hx rfl (hb hby at_480) rfl  k) ?_
                            refine Go.step (g' := (mkF m 483 #[.val (.int p0), .val (.int p1), .val (.int p2), .val (.int (1 : Int32)), .val (.int xx), .val (.int oo), .val (.int ss), .val (.ref b1), .val (.ref w_LEGACY), .val (.int le31), .val (.long v209d7_s0), .second, .val (.long v231d7_s0), .second, .val (.int v396d7_s0), .val (.int ((gg31 oo.toNatClampNeg) &&& (255 : Int32))), .val (.int v435d7_s0), .val (.int v456d7_s0), .unset, .unset, .unset] [(.int (1 : Int32)), (.int le31), (.int oo), (.ref b1)])) (fun _ k => XS.iconst X_396d7.here hx rfl (hb hby at_482) k) ?_
                            obtain ⟨_, _, ⟨T44, L44, k44, n44⟩, -, X44, ⟨Lc44, hQ44, l44, y44, z44⟩, st44⟩ := Jvm.LawKit.callS X_396d7 hx (y := (⟨"com/example/ucs_to_octets/ucstooctets/Utf8EncodePinLaw", "tailOk", "([BIII)Z"⟩ : MethodName)) hown (mvT hZ (hw _ (List.mem_of_getElem? (i := 23) rfl))) (mvT hZ (hw _ (List.mem_of_getElem? (i := 24) rfl))) (mvT hZ (hw _ (List.mem_of_getElem? (i := 21) rfl))) (mvT hZ (hw _ (List.mem_of_getElem? (i := 25) rfl))) (by decide) (backOf (W := 0) (rm4 l Z a0 hw [] b1 oo le31 (1 : Int32) gg31 T31.heap Ac31 (own_ix ho 1)) hZ (hw _ (List.mem_of_getElem? (i := 25) rfl)) (hw _ (List.mem_of_getElem? (i := 21) rfl)) (by decide) (by decide)) (g := (mkF m 483 #[.val (.int p0), .val (.int p1), .val (.int p2), .val (.int (1 : Int32)), .val (.int xx), .val (.int oo), .val (.int ss), .val (.ref b1), .val (.ref w_LEGACY), .val (.int le31), .val (.long v209d7_s0), .second, .val (.long v231d7_s0), .second, .val (.int v396d7_s0), .val (.int ((gg31 oo.toNatClampNeg) &&& (255 : Int32))), .val (.int v435d7_s0), .val (.int v456d7_s0), .unset, .unset, .unset] [(.int (1 : Int32)), (.int le31), (.int oo), (.ref b1)])) rfl (by rw [hml]; rfl) (argsL := [(.ref b1), (.int oo), (.int le31), (.int (1 : Int32))]) (rest := []) (lenOf pd_4 rfl) rfl (by show 2 * 0 + _ ≤ _; exact Nat.le_of_eq rfl) (hb hby at_483) (fun _ _ => ⟨rfl, e_396d7, (by decide : ((0 + 1) + 0) + 0 ≤ _), (by decide : ((0 + 9) + 0) + 0 ≤ _)⟩)
                            dsimp only [Pt.U, Pt.locs, Pt.cells, Pt.slots] at X44 l44 y44 z44 st44 hQ44
                            subst l44 y44 z44
                            obtain ⟨rfl, rfl, e44⟩ := hQ44
                            try rw [List.append_nil] at X44
                            refine Go.step (g' := (mkF m 486 #[.val (.int p0), .val (.int p1), .val (.int p2), .val (.int (1 : Int32)), .val (.int xx), .val (.int oo), .val (.int ss), .val (.ref b1), .val (.ref w_LEGACY), .val (.int le31), .val (.long v209d7_s0), .second, .val (.long v231d7_s0), .second, .val (.int v396d7_s0), .val (.int ((gg31 oo.toNatClampNeg) &&& (255 : Int32))), .val (.int v435d7_s0), .val (.int v456d7_s0), .unset, .unset, .unset] [(.int (f4_0 oo le31 (1 : Int32) gg31))])) st44 ?_
                            have t546d7 : ∀ (T_546d7 : State) (X_546d7 : Stand p l e room_1 s m #[(.int p0), (.int p1), (.int p2)] below meth c T_546d7 lc31 ((0 + 1) + 0) ((0 + 9) + 0)) (e_546d7 : T_546d7.heap = T31.heap) (v546d7_s0 : Int32), Go p e below s room_1.cells room_1.slots (LawQ (some (.int (f0_546d7 xx oo le31 gg31 v435d7_s0 v546d7_s0))) n0) T_546d7 (mkF m 546 #[.val (.int p0), .val (.int p1), .val (.int p2), .val (.int (1 : Int32)), .val (.int xx), .val (.int oo), .val (.int ss), .val (.ref b1), .val (.ref w_LEGACY), .val (.int le31), .val (.long v209d7_s0), .second, .val (.long v231d7_s0), .second, .val (.int v396d7_s0), .val (.int ((gg31 oo.toNatClampNeg) &&& (255 : Int32))), .val (.int v435d7_s0), .val (.int v456d7_s0), .unset, .unset, .unset] [(.int v546d7_s0)]) := by
                              intro T_546d7 X_546d7 e_546d7 v546d7_s0
                              refine Go.step (g' := (mkF m 548 #[.val (.int p0), .val (.int p1), .val (.int p2), .val (.int (1 : Int32)), .val (.int xx), .val (.int oo), .val (.int ss), .val (.ref b1), .val (.ref w_LEGACY), .val (.int le31), .val (.long v209d7_s0), .second, .val (.long v231d7_s0), .second, .val (.int v396d7_s0), .val (.int ((gg31 oo.toNatClampNeg) &&& (255 : Int32))), .val (.int v435d7_s0), .val (.int v456d7_s0), .val (.int v546d7_s0), .unset, .unset] [])) (fun _ k => XS.istore X_546d7.here hx rfl (hb hby at_546) rfl (l' := #[.val (.int p0), .val (.int p1), .val (.int p2), .val (.int (1 : Int32)), .val (.int xx), .val (.int oo), .val (.int ss), .val (.ref b1), .val (.ref w_LEGACY), .val (.int le31), .val (.long v209d7_s0), .second, .val (.long v231d7_s0), .second, .val (.int v396d7_s0), .val (.int ((gg31 oo.toNatClampNeg) &&& (255 : Int32))), .val (.int v435d7_s0), .val (.int v456d7_s0), .val (.int v546d7_s0), .unset, .unset]) rfl k) ?_
                              refine Go.step (g' := (mkF m 550 #[.val (.int p0), .val (.int p1), .val (.int p2), .val (.int (1 : Int32)), .val (.int xx), .val (.int oo), .val (.int ss), .val (.ref b1), .val (.ref w_LEGACY), .val (.int le31), .val (.long v209d7_s0), .second, .val (.long v231d7_s0), .second, .val (.int v396d7_s0), .val (.int ((gg31 oo.toNatClampNeg) &&& (255 : Int32))), .val (.int v435d7_s0), .val (.int v456d7_s0), .val (.int v546d7_s0), .unset, .unset] [(.int v546d7_s0)])) (fun _ k => XS.iload X_546d7.here hx rfl (hb hby at_548) rfl  k) ?_
                              by_cases hc550d7 : v546d7_s0 = (0 : Int32)
                              · rw [show (f0_546d7 xx oo le31 gg31 v435d7_s0 v546d7_s0) = f0_553d7 from if_pos hc550d7]
                                refine Go.step (g' := (mkF m 553 #[.val (.int p0), .val (.int p1), .val (.int p2), .val (.int (1 : Int32)), .val (.int xx), .val (.int oo), .val (.int ss), .val (.ref b1), .val (.ref w_LEGACY), .val (.int le31), .val (.long v209d7_s0), .second, .val (.long v231d7_s0), .second, .val (.int v396d7_s0), .val (.int ((gg31 oo.toNatClampNeg) &&& (255 : Int32))), .val (.int v435d7_s0), .val (.int v456d7_s0), .val (.int v546d7_s0), .unset, .unset] [])) (fun _ k => XS.ifNo X_546d7.here hx rfl (hb hby at_550) rfl ((if0 _ _).trans (teq hc550d7).2) k) ?_
                                refine Go.step (g' := (mkF m 554 #[.val (.int p0), .val (.int p1), .val (.int p2), .val (.int (1 : Int32)), .val (.int xx), .val (.int oo), .val (.int ss), .val (.ref b1), .val (.ref w_LEGACY), .val (.int le31), .val (.long v209d7_s0), .second, .val (.long v231d7_s0), .second, .val (.int v396d7_s0), .val (.int ((gg31 oo.toNatClampNeg) &&& (255 : Int32))), .val (.int v435d7_s0), .val (.int v456d7_s0), .val (.int v546d7_s0), .unset, .unset] [(.int (0 : Int32))])) (fun _ k => XS.iconst X_546d7.here hx rfl (hb hby at_553) k) ?_
                                exact Go.retN X_546d7 hx hlk (t := .boolean) Bd.returns (by simp) (hb hby at_554) (by decide) (by decide) ⟨rfl, N31⟩
                              · rw [show (f0_546d7 xx oo le31 gg31 v435d7_s0 v546d7_s0) = (f0_555d7 xx oo le31 gg31 v435d7_s0) from if_neg hc550d7]
                                refine Go.step (g' := (mkF m 555 #[.val (.int p0), .val (.int p1), .val (.int p2), .val (.int (1 : Int32)), .val (.int xx), .val (.int oo), .val (.int ss), .val (.ref b1), .val (.ref w_LEGACY), .val (.int le31), .val (.long v209d7_s0), .second, .val (.long v231d7_s0), .second, .val (.int v396d7_s0), .val (.int ((gg31 oo.toNatClampNeg) &&& (255 : Int32))), .val (.int v435d7_s0), .val (.int v456d7_s0), .val (.int v546d7_s0), .unset, .unset] [])) (fun _ k => XS.ifYes X_546d7.here hx rfl (pc0 := 550) (pc' := 555) rfl (hb hby at_550) rfl ((if0 _ _).trans (feq hc550d7).2) (by decide) (by decide) k) ?_
                                refine Go.step (g' := (mkF m 557 #[.val (.int p0), .val (.int p1), .val (.int p2), .val (.int (1 : Int32)), .val (.int xx), .val (.int oo), .val (.int ss), .val (.ref b1), .val (.ref w_LEGACY), .val (.int le31), .val (.long v209d7_s0), .second, .val (.long v231d7_s0), .second, .val (.int v396d7_s0), .val (.int ((gg31 oo.toNatClampNeg) &&& (255 : Int32))), .val (.int v435d7_s0), .val (.int v456d7_s0), .val (.int v546d7_s0), .unset, .unset] [(.int ((gg31 oo.toNatClampNeg) &&& (255 : Int32)))])) (fun _ k => XS.iload X_546d7.here hx rfl (hb hby at_555) rfl  k) ?_
                                refine Go.step (g' := (mkF m 559 #[.val (.int p0), .val (.int p1), .val (.int p2), .val (.int (1 : Int32)), .val (.int xx), .val (.int oo), .val (.int ss), .val (.ref b1), .val (.ref w_LEGACY), .val (.int le31), .val (.long v209d7_s0), .second, .val (.long v231d7_s0), .second, .val (.int v396d7_s0), .val (.int ((gg31 oo.toNatClampNeg) &&& (255 : Int32))), .val (.int v435d7_s0), .val (.int v456d7_s0), .val (.int v546d7_s0), .unset, .unset] [(.int v435d7_s0), (.int ((gg31 oo.toNatClampNeg) &&& (255 : Int32)))])) (fun _ k => XS.iload X_546d7.here hx rfl (hb hby at_557) rfl  k) ?_
                                refine Go.step (g' := (mkF m 560 #[.val (.int p0), .val (.int p1), .val (.int p2), .val (.int (1 : Int32)), .val (.int xx), .val (.int oo), .val (.int ss), .val (.ref b1), .val (.ref w_LEGACY), .val (.int le31), .val (.long v209d7_s0), .second, .val (.long v231d7_s0), .second, .val (.int v396d7_s0), .val (.int ((gg31 oo.toNatClampNeg) &&& (255 : Int32))), .val (.int v435d7_s0), .val (.int v456d7_s0), .val (.int v546d7_s0), .unset, .unset] [(.int (((gg31 oo.toNatClampNeg) &&& (255 : Int32)) &&& v435d7_s0))])) (fun _ k => XS.iand X_546d7.here hx rfl (hb hby at_559) rfl k) ?_
                                refine Go.step (g' := (mkF m 561 #[.val (.int p0), .val (.int p1), .val (.int p2), .val (.int (1 : Int32)), .val (.int xx), .val (.int oo), .val (.int ss), .val (.ref b1), .val (.ref w_LEGACY), .val (.int le31), .val (.long v209d7_s0), .second, .val (.long v231d7_s0), .second, .val (.int v396d7_s0), .val (.int ((gg31 oo.toNatClampNeg) &&& (255 : Int32))), .val (.int v435d7_s0), .val (.int v456d7_s0), .val (.int v546d7_s0), .unset, .unset] [(.long ((((gg31 oo.toNatClampNeg) &&& (255 : Int32)) &&& v435d7_s0).toInt64))])) (fun _ k => XS.i2l X_546d7.here hx rfl (hb hby at_560) rfl k) ?_
                                refine Go.step (g' := (mkF m 563 #[.val (.int p0), .val (.int p1), .val (.int p2), .val (.int (1 : Int32)), .val (.int xx), .val (.int oo), .val (.int ss), .val (.ref b1), .val (.ref w_LEGACY), .val (.int le31), .val (.long v209d7_s0), .second, .val (.long v231d7_s0), .second, .val (.int v396d7_s0), .val (.int ((gg31 oo.toNatClampNeg) &&& (255 : Int32))), .val (.int v435d7_s0), .val (.int v456d7_s0), .val (.int v546d7_s0), .val (.long ((((gg31 oo.toNatClampNeg) &&& (255 : Int32)) &&& v435d7_s0).toInt64)), .second] [])) (fun _ k => XS.lstore X_546d7.here hx rfl (hb hby at_561) rfl (l' := #[.val (.int p0), .val (.int p1), .val (.int p2), .val (.int (1 : Int32)), .val (.int xx), .val (.int oo), .val (.int ss), .val (.ref b1), .val (.ref w_LEGACY), .val (.int le31), .val (.long v209d7_s0), .second, .val (.long v231d7_s0), .second, .val (.int v396d7_s0), .val (.int ((gg31 oo.toNatClampNeg) &&& (255 : Int32))), .val (.int v435d7_s0), .val (.int v456d7_s0), .val (.int v546d7_s0), .val (.long ((((gg31 oo.toNatClampNeg) &&& (255 : Int32)) &&& v435d7_s0).toInt64)), .second]) rfl k) ?_
                                refine Go.step (g' := (mkF m 565 #[.val (.int p0), .val (.int p1), .val (.int p2), .val (.int (1 : Int32)), .val (.int xx), .val (.int oo), .val (.int ss), .val (.ref b1), .val (.ref w_LEGACY), .val (.int le31), .val (.long v209d7_s0), .second, .val (.long v231d7_s0), .second, .val (.int v396d7_s0), .val (.int ((gg31 oo.toNatClampNeg) &&& (255 : Int32))), .val (.int v435d7_s0), .val (.int v456d7_s0), .val (.int v546d7_s0), .val (.long ((((gg31 oo.toNatClampNeg) &&& (255 : Int32)) &&& v435d7_s0).toInt64)), .second] [(.long ((((gg31 oo.toNatClampNeg) &&& (255 : Int32)) &&& v435d7_s0).toInt64))])) (fun _ k => XS.lload X_546d7.here hx rfl (hb hby at_563) rfl  k) ?_
                                refine Go.step (g' := (mkF m 567 #[.val (.int p0), .val (.int p1), .val (.int p2), .val (.int (1 : Int32)), .val (.int xx), .val (.int oo), .val (.int ss), .val (.ref b1), .val (.ref w_LEGACY), .val (.int le31), .val (.long v209d7_s0), .second, .val (.long v231d7_s0), .second, .val (.int v396d7_s0), .val (.int ((gg31 oo.toNatClampNeg) &&& (255 : Int32))), .val (.int v435d7_s0), .val (.int v456d7_s0), .val (.int v546d7_s0), .val (.long ((((gg31 oo.toNatClampNeg) &&& (255 : Int32)) &&& v435d7_s0).toInt64)), .second] [(.ref b1), (.long ((((gg31 oo.toNatClampNeg) &&& (255 : Int32)) &&& v435d7_s0).toInt64))])) (fun _ k => XS.aload X_546d7.here hx rfl (hb hby at_565) rfl rfl  k) ?_
                                refine Go.step (g' := (mkF m 569 #[.val (.int p0), .val (.int p1), .val (.int p2), .val (.int (1 : Int32)), .val (.int xx), .val (.int oo), .val (.int ss), .val (.ref b1), .val (.ref w_LEGACY), .val (.int le31), .val (.long v209d7_s0), .second, .val (.long v231d7_s0), .second, .val (.int v396d7_s0), .val (.int ((gg31 oo.toNatClampNeg) &&& (255 : Int32))), .val (.int v435d7_s0), .val (.int v456d7_s0), .val (.int v546d7_s0), .val (.long ((((gg31 oo.toNatClampNeg) &&& (255 : Int32)) &&& v435d7_s0).toInt64)), .second] [(.int oo), (.ref b1), (.long ((((gg31 oo.toNatClampNeg) &&& (255 : Int32)) &&& v435d7_s0).toInt64))])) (fun _ k => XS.iload X_546d7.here hx rfl (hb hby at_567) rfl  k) ?_
                                refine Go.step (g' := (mkF m 571 #[.val (.int p0), .val (.int p1), .val (.int p2), .val (.int (1 : Int32)), .val (.int xx), .val (.int oo), .val (.int ss), .val (.ref b1), .val (.ref w_LEGACY), .val (.int le31), .val (.long v209d7_s0), .second, .val (.long v231d7_s0), .second, .val (.int v396d7_s0), .val (.int ((gg31 oo.toNatClampNeg) &&& (255 : Int32))), .val (.int v435d7_s0), .val (.int v456d7_s0), .val (.int v546d7_s0), .val (.long ((((gg31 oo.toNatClampNeg) &&& (255 : Int32)) &&& v435d7_s0).toInt64)), .second] [(.int le31), (.int oo), (.ref b1), (.long ((((gg31 oo.toNatClampNeg) &&& (255 : Int32)) &&& v435d7_s0).toInt64))])) (fun _ k => XS.iload X_546d7.here hx rfl (hb hby at_569) rfl  k) ?_
                                refine Go.step (g' := (mkF m 572 #[.val (.int p0), .val (.int p1), .val (.int p2), .val (.int (1 : Int32)), .val (.int xx), .val (.int oo), .val (.int ss), .val (.ref b1), .val (.ref w_LEGACY), .val (.int le31), .val (.long v209d7_s0), .second, .val (.long v231d7_s0), .second, .val (.int v396d7_s0), .val (.int ((gg31 oo.toNatClampNeg) &&& (255 : Int32))), .val (.int v435d7_s0), .val (.int v456d7_s0), .val (.int v546d7_s0), .val (.long ((((gg31 oo.toNatClampNeg) &&& (255 : Int32)) &&& v435d7_s0).toInt64)), .second] [(.int (1 : Int32)), (.int le31), (.int oo), (.ref b1), (.long ((((gg31 oo.toNatClampNeg) &&& (255 : Int32)) &&& v435d7_s0).toInt64))])) (fun _ k => XS.iconst X_546d7.here hx rfl (hb hby at_571) k) ?_
                                obtain ⟨_, _, ⟨T49, L49, k49, n49⟩, -, X49, ⟨Lc49, hQ49, l49, y49, z49⟩, st49⟩ := Jvm.LawKit.callS X_546d7 hx (y := (⟨"com/example/ucs_to_octets/ucstooctets/Utf8EncodePinLaw", "add", "(J[BIII)J"⟩ : MethodName)) hown (mvT hZ (hw _ (List.mem_of_getElem? (i := 26) rfl))) (mvT hZ (hw _ (List.mem_of_getElem? (i := 27) rfl))) (mvT hZ (hw _ (List.mem_of_getElem? (i := 21) rfl))) (mvT hZ (hw _ (List.mem_of_getElem? (i := 28) rfl))) (by decide) (backOf (W := 0) (rm5 l Z a0 hw [] ((((gg31 oo.toNatClampNeg) &&& (255 : Int32)) &&& v435d7_s0).toInt64) b1 oo le31 (1 : Int32) gg31 T31.heap Ac31 (own_ix ho 1)) hZ (hw _ (List.mem_of_getElem? (i := 28) rfl)) (hw _ (List.mem_of_getElem? (i := 21) rfl)) (by decide) (by decide)) (g := (mkF m 572 #[.val (.int p0), .val (.int p1), .val (.int p2), .val (.int (1 : Int32)), .val (.int xx), .val (.int oo), .val (.int ss), .val (.ref b1), .val (.ref w_LEGACY), .val (.int le31), .val (.long v209d7_s0), .second, .val (.long v231d7_s0), .second, .val (.int v396d7_s0), .val (.int ((gg31 oo.toNatClampNeg) &&& (255 : Int32))), .val (.int v435d7_s0), .val (.int v456d7_s0), .val (.int v546d7_s0), .val (.long ((((gg31 oo.toNatClampNeg) &&& (255 : Int32)) &&& v435d7_s0).toInt64)), .second] [(.int (1 : Int32)), (.int le31), (.int oo), (.ref b1), (.long ((((gg31 oo.toNatClampNeg) &&& (255 : Int32)) &&& v435d7_s0).toInt64))])) rfl (by rw [hml]; rfl) (argsL := [(.long ((((gg31 oo.toNatClampNeg) &&& (255 : Int32)) &&& v435d7_s0).toInt64)), (.ref b1), (.int oo), (.int le31), (.int (1 : Int32))]) (rest := []) (lenOf pd_5 rfl) rfl (by show 2 * 0 + _ ≤ _; exact Nat.le_of_eq rfl) (hb hby at_572) (fun _ _ => ⟨rfl, e_546d7, (by decide : ((0 + 1) + 0) + 0 ≤ _), (by decide : ((0 + 9) + 0) + 0 ≤ _)⟩)
                                dsimp only [Pt.U, Pt.locs, Pt.cells, Pt.slots] at X49 l49 y49 z49 st49 hQ49
                                subst l49 y49 z49
                                obtain ⟨rfl, rfl, e49⟩ := hQ49
                                try rw [List.append_nil] at X49
                                refine Go.step (g' := (mkF m 575 #[.val (.int p0), .val (.int p1), .val (.int p2), .val (.int (1 : Int32)), .val (.int xx), .val (.int oo), .val (.int ss), .val (.ref b1), .val (.ref w_LEGACY), .val (.int le31), .val (.long v209d7_s0), .second, .val (.long v231d7_s0), .second, .val (.int v396d7_s0), .val (.int ((gg31 oo.toNatClampNeg) &&& (255 : Int32))), .val (.int v435d7_s0), .val (.int v456d7_s0), .val (.int v546d7_s0), .val (.long ((((gg31 oo.toNatClampNeg) &&& (255 : Int32)) &&& v435d7_s0).toInt64)), .second] [(.long (f5_0 ((((gg31 oo.toNatClampNeg) &&& (255 : Int32)) &&& v435d7_s0).toInt64) oo le31 (1 : Int32) gg31))])) st49 ?_
                                refine Go.step (g' := (mkF m 577 #[.val (.int p0), .val (.int p1), .val (.int p2), .val (.int (1 : Int32)), .val (.int xx), .val (.int oo), .val (.int ss), .val (.ref b1), .val (.ref w_LEGACY), .val (.int le31), .val (.long v209d7_s0), .second, .val (.long v231d7_s0), .second, .val (.int v396d7_s0), .val (.int ((gg31 oo.toNatClampNeg) &&& (255 : Int32))), .val (.int v435d7_s0), .val (.int v456d7_s0), .val (.int v546d7_s0), .val (.long (f5_0 ((((gg31 oo.toNatClampNeg) &&& (255 : Int32)) &&& v435d7_s0).toInt64) oo le31 (1 : Int32) gg31)), .second] [])) (fun _ k => XS.lstore X49.here hx rfl (hb hby at_575) rfl (l' := #[.val (.int p0), .val (.int p1), .val (.int p2), .val (.int (1 : Int32)), .val (.int xx), .val (.int oo), .val (.int ss), .val (.ref b1), .val (.ref w_LEGACY), .val (.int le31), .val (.long v209d7_s0), .second, .val (.long v231d7_s0), .second, .val (.int v396d7_s0), .val (.int ((gg31 oo.toNatClampNeg) &&& (255 : Int32))), .val (.int v435d7_s0), .val (.int v456d7_s0), .val (.int v546d7_s0), .val (.long (f5_0 ((((gg31 oo.toNatClampNeg) &&& (255 : Int32)) &&& v435d7_s0).toInt64) oo le31 (1 : Int32) gg31)), .second]) rfl k) ?_
                                refine Go.step (g' := (mkF m 579 #[.val (.int p0), .val (.int p1), .val (.int p2), .val (.int (1 : Int32)), .val (.int xx), .val (.int oo), .val (.int ss), .val (.ref b1), .val (.ref w_LEGACY), .val (.int le31), .val (.long v209d7_s0), .second, .val (.long v231d7_s0), .second, .val (.int v396d7_s0), .val (.int ((gg31 oo.toNatClampNeg) &&& (255 : Int32))), .val (.int v435d7_s0), .val (.int v456d7_s0), .val (.int v546d7_s0), .val (.long (f5_0 ((((gg31 oo.toNatClampNeg) &&& (255 : Int32)) &&& v435d7_s0).toInt64) oo le31 (1 : Int32) gg31)), .second] [(.long (f5_0 ((((gg31 oo.toNatClampNeg) &&& (255 : Int32)) &&& v435d7_s0).toInt64) oo le31 (1 : Int32) gg31))])) (fun _ k => XS.lload X49.here hx rfl (hb hby at_577) rfl  k) ?_
                                refine Go.step (g' := (mkF m 581 #[.val (.int p0), .val (.int p1), .val (.int p2), .val (.int (1 : Int32)), .val (.int xx), .val (.int oo), .val (.int ss), .val (.ref b1), .val (.ref w_LEGACY), .val (.int le31), .val (.long v209d7_s0), .second, .val (.long v231d7_s0), .second, .val (.int v396d7_s0), .val (.int ((gg31 oo.toNatClampNeg) &&& (255 : Int32))), .val (.int v435d7_s0), .val (.int v456d7_s0), .val (.int v546d7_s0), .val (.long (f5_0 ((((gg31 oo.toNatClampNeg) &&& (255 : Int32)) &&& v435d7_s0).toInt64) oo le31 (1 : Int32) gg31)), .second] [(.ref b1), (.long (f5_0 ((((gg31 oo.toNatClampNeg) &&& (255 : Int32)) &&& v435d7_s0).toInt64) oo le31 (1 : Int32) gg31))])) (fun _ k => XS.aload X49.here hx rfl (hb hby at_579) rfl rfl  k) ?_
                                refine Go.step (g' := (mkF m 583 #[.val (.int p0), .val (.int p1), .val (.int p2), .val (.int (1 : Int32)), .val (.int xx), .val (.int oo), .val (.int ss), .val (.ref b1), .val (.ref w_LEGACY), .val (.int le31), .val (.long v209d7_s0), .second, .val (.long v231d7_s0), .second, .val (.int v396d7_s0), .val (.int ((gg31 oo.toNatClampNeg) &&& (255 : Int32))), .val (.int v435d7_s0), .val (.int v456d7_s0), .val (.int v546d7_s0), .val (.long (f5_0 ((((gg31 oo.toNatClampNeg) &&& (255 : Int32)) &&& v435d7_s0).toInt64) oo le31 (1 : Int32) gg31)), .second] [(.int oo), (.ref b1), (.long (f5_0 ((((gg31 oo.toNatClampNeg) &&& (255 : Int32)) &&& v435d7_s0).toInt64) oo le31 (1 : Int32) gg31))])) (fun _ k => XS.iload X49.here hx rfl (hb hby at_581) rfl  k) ?_
                                refine Go.step (g' := (mkF m 585 #[.val (.int p0), .val (.int p1), .val (.int p2), .val (.int (1 : Int32)), .val (.int xx), .val (.int oo), .val (.int ss), .val (.ref b1), .val (.ref w_LEGACY), .val (.int le31), .val (.long v209d7_s0), .second, .val (.long v231d7_s0), .second, .val (.int v396d7_s0), .val (.int ((gg31 oo.toNatClampNeg) &&& (255 : Int32))), .val (.int v435d7_s0), .val (.int v456d7_s0), .val (.int v546d7_s0), .val (.long (f5_0 ((((gg31 oo.toNatClampNeg) &&& (255 : Int32)) &&& v435d7_s0).toInt64) oo le31 (1 : Int32) gg31)), .second] [(.int le31), (.int oo), (.ref b1), (.long (f5_0 ((((gg31 oo.toNatClampNeg) &&& (255 : Int32)) &&& v435d7_s0).toInt64) oo le31 (1 : Int32) gg31))])) (fun _ k => XS.iload X49.here hx rfl (hb hby at_583) rfl  k) ?_
                                refine Go.step (g' := (mkF m 586 #[.val (.int p0), .val (.int p1), .val (.int p2), .val (.int (1 : Int32)), .val (.int xx), .val (.int oo), .val (.int ss), .val (.ref b1), .val (.ref w_LEGACY), .val (.int le31), .val (.long v209d7_s0), .second, .val (.long v231d7_s0), .second, .val (.int v396d7_s0), .val (.int ((gg31 oo.toNatClampNeg) &&& (255 : Int32))), .val (.int v435d7_s0), .val (.int v456d7_s0), .val (.int v546d7_s0), .val (.long (f5_0 ((((gg31 oo.toNatClampNeg) &&& (255 : Int32)) &&& v435d7_s0).toInt64) oo le31 (1 : Int32) gg31)), .second] [(.int (2 : Int32)), (.int le31), (.int oo), (.ref b1), (.long (f5_0 ((((gg31 oo.toNatClampNeg) &&& (255 : Int32)) &&& v435d7_s0).toInt64) oo le31 (1 : Int32) gg31))])) (fun _ k => XS.iconst X49.here hx rfl (hb hby at_585) k) ?_
                                obtain ⟨_, _, ⟨T50, L50, k50, n50⟩, -, X50, ⟨Lc50, hQ50, l50, y50, z50⟩, st50⟩ := Jvm.LawKit.callS X49 hx (y := (⟨"com/example/ucs_to_octets/ucstooctets/Utf8EncodePinLaw", "add", "(J[BIII)J"⟩ : MethodName)) hown (mvT hZ (hw _ (List.mem_of_getElem? (i := 26) rfl))) (mvT hZ (hw _ (List.mem_of_getElem? (i := 27) rfl))) (mvT hZ (hw _ (List.mem_of_getElem? (i := 21) rfl))) (mvT hZ (hw _ (List.mem_of_getElem? (i := 28) rfl))) (by decide) (backOf (W := 0) (rm5 l Z a0 hw [] (f5_0 ((((gg31 oo.toNatClampNeg) &&& (255 : Int32)) &&& v435d7_s0).toInt64) oo le31 (1 : Int32) gg31) b1 oo le31 (2 : Int32) gg31 T31.heap Ac31 (own_ix ho 2)) hZ (hw _ (List.mem_of_getElem? (i := 28) rfl)) (hw _ (List.mem_of_getElem? (i := 21) rfl)) (by decide) (by decide)) (g := (mkF m 586 #[.val (.int p0), .val (.int p1), .val (.int p2), .val (.int (1 : Int32)), .val (.int xx), .val (.int oo), .val (.int ss), .val (.ref b1), .val (.ref w_LEGACY), .val (.int le31), .val (.long v209d7_s0), .second, .val (.long v231d7_s0), .second, .val (.int v396d7_s0), .val (.int ((gg31 oo.toNatClampNeg) &&& (255 : Int32))), .val (.int v435d7_s0), .val (.int v456d7_s0), .val (.int v546d7_s0), .val (.long (f5_0 ((((gg31 oo.toNatClampNeg) &&& (255 : Int32)) &&& v435d7_s0).toInt64) oo le31 (1 : Int32) gg31)), .second] [(.int (2 : Int32)), (.int le31), (.int oo), (.ref b1), (.long (f5_0 ((((gg31 oo.toNatClampNeg) &&& (255 : Int32)) &&& v435d7_s0).toInt64) oo le31 (1 : Int32) gg31))])) rfl (by rw [hml]; rfl) (argsL := [(.long (f5_0 ((((gg31 oo.toNatClampNeg) &&& (255 : Int32)) &&& v435d7_s0).toInt64) oo le31 (1 : Int32) gg31)), (.ref b1), (.int oo), (.int le31), (.int (2 : Int32))]) (rest := []) (lenOf pd_5 rfl) rfl (by show 2 * 0 + _ ≤ _; exact Nat.le_of_eq rfl) (hb hby at_586) (fun _ _ => ⟨rfl, e49, (by decide : ((0 + 1) + 0) + 0 ≤ _), (by decide : ((0 + 9) + 0) + 0 ≤ _)⟩)
                                dsimp only [Pt.U, Pt.locs, Pt.cells, Pt.slots] at X50 l50 y50 z50 st50 hQ50
                                subst l50 y50 z50
                                obtain ⟨rfl, rfl, e50⟩ := hQ50
                                try rw [List.append_nil] at X50
                                refine Go.step (g' := (mkF m 589 #[.val (.int p0), .val (.int p1), .val (.int p2), .val (.int (1 : Int32)), .val (.int xx), .val (.int oo), .val (.int ss), .val (.ref b1), .val (.ref w_LEGACY), .val (.int le31), .val (.long v209d7_s0), .second, .val (.long v231d7_s0), .second, .val (.int v396d7_s0), .val (.int ((gg31 oo.toNatClampNeg) &&& (255 : Int32))), .val (.int v435d7_s0), .val (.int v456d7_s0), .val (.int v546d7_s0), .val (.long (f5_0 ((((gg31 oo.toNatClampNeg) &&& (255 : Int32)) &&& v435d7_s0).toInt64) oo le31 (1 : Int32) gg31)), .second] [(.long (f5_0 (f5_0 ((((gg31 oo.toNatClampNeg) &&& (255 : Int32)) &&& v435d7_s0).toInt64) oo le31 (1 : Int32) gg31) oo le31 (2 : Int32) gg31))])) st50 ?_
                                refine Go.step (g' := (mkF m 591 #[.val (.int p0), .val (.int p1), .val (.int p2), .val (.int (1 : Int32)), .val (.int xx), .val (.int oo), .val (.int ss), .val (.ref b1), .val (.ref w_LEGACY), .val (.int le31), .val (.long v209d7_s0), .second, .val (.long v231d7_s0), .second, .val (.int v396d7_s0), .val (.int ((gg31 oo.toNatClampNeg) &&& (255 : Int32))), .val (.int v435d7_s0), .val (.int v456d7_s0), .val (.int v546d7_s0), .val (.long (f5_0 (f5_0 ((((gg31 oo.toNatClampNeg) &&& (255 : Int32)) &&& v435d7_s0).toInt64) oo le31 (1 : Int32) gg31) oo le31 (2 : Int32) gg31)), .second] [])) (fun _ k => XS.lstore X50.here hx rfl (hb hby at_589) rfl (l' := #[.val (.int p0), .val (.int p1), .val (.int p2), .val (.int (1 : Int32)), .val (.int xx), .val (.int oo), .val (.int ss), .val (.ref b1), .val (.ref w_LEGACY), .val (.int le31), .val (.long v209d7_s0), .second, .val (.long v231d7_s0), .second, .val (.int v396d7_s0), .val (.int ((gg31 oo.toNatClampNeg) &&& (255 : Int32))), .val (.int v435d7_s0), .val (.int v456d7_s0), .val (.int v546d7_s0), .val (.long (f5_0 (f5_0 ((((gg31 oo.toNatClampNeg) &&& (255 : Int32)) &&& v435d7_s0).toInt64) oo le31 (1 : Int32) gg31) oo le31 (2 : Int32) gg31)), .second]) rfl k) ?_
                                refine Go.step (g' := (mkF m 593 #[.val (.int p0), .val (.int p1), .val (.int p2), .val (.int (1 : Int32)), .val (.int xx), .val (.int oo), .val (.int ss), .val (.ref b1), .val (.ref w_LEGACY), .val (.int le31), .val (.long v209d7_s0), .second, .val (.long v231d7_s0), .second, .val (.int v396d7_s0), .val (.int ((gg31 oo.toNatClampNeg) &&& (255 : Int32))), .val (.int v435d7_s0), .val (.int v456d7_s0), .val (.int v546d7_s0), .val (.long (f5_0 (f5_0 ((((gg31 oo.toNatClampNeg) &&& (255 : Int32)) &&& v435d7_s0).toInt64) oo le31 (1 : Int32) gg31) oo le31 (2 : Int32) gg31)), .second] [(.long (f5_0 (f5_0 ((((gg31 oo.toNatClampNeg) &&& (255 : Int32)) &&& v435d7_s0).toInt64) oo le31 (1 : Int32) gg31) oo le31 (2 : Int32) gg31))])) (fun _ k => XS.lload X50.here hx rfl (hb hby at_591) rfl  k) ?_
                                refine Go.step (g' := (mkF m 595 #[.val (.int p0), .val (.int p1), .val (.int p2), .val (.int (1 : Int32)), .val (.int xx), .val (.int oo), .val (.int ss), .val (.ref b1), .val (.ref w_LEGACY), .val (.int le31), .val (.long v209d7_s0), .second, .val (.long v231d7_s0), .second, .val (.int v396d7_s0), .val (.int ((gg31 oo.toNatClampNeg) &&& (255 : Int32))), .val (.int v435d7_s0), .val (.int v456d7_s0), .val (.int v546d7_s0), .val (.long (f5_0 (f5_0 ((((gg31 oo.toNatClampNeg) &&& (255 : Int32)) &&& v435d7_s0).toInt64) oo le31 (1 : Int32) gg31) oo le31 (2 : Int32) gg31)), .second] [(.ref b1), (.long (f5_0 (f5_0 ((((gg31 oo.toNatClampNeg) &&& (255 : Int32)) &&& v435d7_s0).toInt64) oo le31 (1 : Int32) gg31) oo le31 (2 : Int32) gg31))])) (fun _ k => XS.aload X50.here hx rfl (hb hby at_593) rfl rfl  k) ?_
                                refine Go.step (g' := (mkF m 597 #[.val (.int p0), .val (.int p1), .val (.int p2), .val (.int (1 : Int32)), .val (.int xx), .val (.int oo), .val (.int ss), .val (.ref b1), .val (.ref w_LEGACY), .val (.int le31), .val (.long v209d7_s0), .second, .val (.long v231d7_s0), .second, .val (.int v396d7_s0), .val (.int ((gg31 oo.toNatClampNeg) &&& (255 : Int32))), .val (.int v435d7_s0), .val (.int v456d7_s0), .val (.int v546d7_s0), .val (.long (f5_0 (f5_0 ((((gg31 oo.toNatClampNeg) &&& (255 : Int32)) &&& v435d7_s0).toInt64) oo le31 (1 : Int32) gg31) oo le31 (2 : Int32) gg31)), .second] [(.int oo), (.ref b1), (.long (f5_0 (f5_0 ((((gg31 oo.toNatClampNeg) &&& (255 : Int32)) &&& v435d7_s0).toInt64) oo le31 (1 : Int32) gg31) oo le31 (2 : Int32) gg31))])) (fun _ k => XS.iload X50.here hx rfl (hb hby at_595) rfl  k) ?_
                                refine Go.step (g' := (mkF m 599 #[.val (.int p0), .val (.int p1), .val (.int p2), .val (.int (1 : Int32)), .val (.int xx), .val (.int oo), .val (.int ss), .val (.ref b1), .val (.ref w_LEGACY), .val (.int le31), .val (.long v209d7_s0), .second, .val (.long v231d7_s0), .second, .val (.int v396d7_s0), .val (.int ((gg31 oo.toNatClampNeg) &&& (255 : Int32))), .val (.int v435d7_s0), .val (.int v456d7_s0), .val (.int v546d7_s0), .val (.long (f5_0 (f5_0 ((((gg31 oo.toNatClampNeg) &&& (255 : Int32)) &&& v435d7_s0).toInt64) oo le31 (1 : Int32) gg31) oo le31 (2 : Int32) gg31)), .second] [(.int le31), (.int oo), (.ref b1), (.long (f5_0 (f5_0 ((((gg31 oo.toNatClampNeg) &&& (255 : Int32)) &&& v435d7_s0).toInt64) oo le31 (1 : Int32) gg31) oo le31 (2 : Int32) gg31))])) (fun _ k => XS.iload X50.here hx rfl (hb hby at_597) rfl  k) ?_
                                refine Go.step (g' := (mkF m 600 #[.val (.int p0), .val (.int p1), .val (.int p2), .val (.int (1 : Int32)), .val (.int xx), .val (.int oo), .val (.int ss), .val (.ref b1), .val (.ref w_LEGACY), .val (.int le31), .val (.long v209d7_s0), .second, .val (.long v231d7_s0), .second, .val (.int v396d7_s0), .val (.int ((gg31 oo.toNatClampNeg) &&& (255 : Int32))), .val (.int v435d7_s0), .val (.int v456d7_s0), .val (.int v546d7_s0), .val (.long (f5_0 (f5_0 ((((gg31 oo.toNatClampNeg) &&& (255 : Int32)) &&& v435d7_s0).toInt64) oo le31 (1 : Int32) gg31) oo le31 (2 : Int32) gg31)), .second] [(.int (3 : Int32)), (.int le31), (.int oo), (.ref b1), (.long (f5_0 (f5_0 ((((gg31 oo.toNatClampNeg) &&& (255 : Int32)) &&& v435d7_s0).toInt64) oo le31 (1 : Int32) gg31) oo le31 (2 : Int32) gg31))])) (fun _ k => XS.iconst X50.here hx rfl (hb hby at_599) k) ?_
                                obtain ⟨_, _, ⟨T51, L51, k51, n51⟩, -, X51, ⟨Lc51, hQ51, l51, y51, z51⟩, st51⟩ := Jvm.LawKit.callS X50 hx (y := (⟨"com/example/ucs_to_octets/ucstooctets/Utf8EncodePinLaw", "add", "(J[BIII)J"⟩ : MethodName)) hown (mvT hZ (hw _ (List.mem_of_getElem? (i := 26) rfl))) (mvT hZ (hw _ (List.mem_of_getElem? (i := 27) rfl))) (mvT hZ (hw _ (List.mem_of_getElem? (i := 21) rfl))) (mvT hZ (hw _ (List.mem_of_getElem? (i := 28) rfl))) (by decide) (backOf (W := 0) (rm5 l Z a0 hw [] (f5_0 (f5_0 ((((gg31 oo.toNatClampNeg) &&& (255 : Int32)) &&& v435d7_s0).toInt64) oo le31 (1 : Int32) gg31) oo le31 (2 : Int32) gg31) b1 oo le31 (3 : Int32) gg31 T31.heap Ac31 (own_ix ho 3)) hZ (hw _ (List.mem_of_getElem? (i := 28) rfl)) (hw _ (List.mem_of_getElem? (i := 21) rfl)) (by decide) (by decide)) (g := (mkF m 600 #[.val (.int p0), .val (.int p1), .val (.int p2), .val (.int (1 : Int32)), .val (.int xx), .val (.int oo), .val (.int ss), .val (.ref b1), .val (.ref w_LEGACY), .val (.int le31), .val (.long v209d7_s0), .second, .val (.long v231d7_s0), .second, .val (.int v396d7_s0), .val (.int ((gg31 oo.toNatClampNeg) &&& (255 : Int32))), .val (.int v435d7_s0), .val (.int v456d7_s0), .val (.int v546d7_s0), .val (.long (f5_0 (f5_0 ((((gg31 oo.toNatClampNeg) &&& (255 : Int32)) &&& v435d7_s0).toInt64) oo le31 (1 : Int32) gg31) oo le31 (2 : Int32) gg31)), .second] [(.int (3 : Int32)), (.int le31), (.int oo), (.ref b1), (.long (f5_0 (f5_0 ((((gg31 oo.toNatClampNeg) &&& (255 : Int32)) &&& v435d7_s0).toInt64) oo le31 (1 : Int32) gg31) oo le31 (2 : Int32) gg31))])) rfl (by rw [hml]; rfl) (argsL := [(.long (f5_0 (f5_0 ((((gg31 oo.toNatClampNeg) &&& (255 : Int32)) &&& v435d7_s0).toInt64) oo le31 (1 : Int32) gg31) oo le31 (2 : Int32) gg31)), (.ref b1), (.int oo), (.int le31), (.int (3 : Int32))]) (rest := []) (lenOf pd_5 rfl) rfl (by show 2 * 0 + _ ≤ _; exact Nat.le_of_eq rfl) (hb hby at_600) (fun _ _ => ⟨rfl, e50, (by decide : ((0 + 1) + 0) + 0 ≤ _), (by decide : ((0 + 9) + 0) + 0 ≤ _)⟩)
                                dsimp only [Pt.U, Pt.locs, Pt.cells, Pt.slots] at X51 l51 y51 z51 st51 hQ51
                                subst l51 y51 z51
                                obtain ⟨rfl, rfl, e51⟩ := hQ51
                                try rw [List.append_nil] at X51
                                refine Go.step (g' := (mkF m 603 #[.val (.int p0), .val (.int p1), .val (.int p2), .val (.int (1 : Int32)), .val (.int xx), .val (.int oo), .val (.int ss), .val (.ref b1), .val (.ref w_LEGACY), .val (.int le31), .val (.long v209d7_s0), .second, .val (.long v231d7_s0), .second, .val (.int v396d7_s0), .val (.int ((gg31 oo.toNatClampNeg) &&& (255 : Int32))), .val (.int v435d7_s0), .val (.int v456d7_s0), .val (.int v546d7_s0), .val (.long (f5_0 (f5_0 ((((gg31 oo.toNatClampNeg) &&& (255 : Int32)) &&& v435d7_s0).toInt64) oo le31 (1 : Int32) gg31) oo le31 (2 : Int32) gg31)), .second] [(.long (f5_0 (f5_0 (f5_0 ((((gg31 oo.toNatClampNeg) &&& (255 : Int32)) &&& v435d7_s0).toInt64) oo le31 (1 : Int32) gg31) oo le31 (2 : Int32) gg31) oo le31 (3 : Int32) gg31))])) st51 ?_
                                refine Go.step (g' := (mkF m 605 #[.val (.int p0), .val (.int p1), .val (.int p2), .val (.int (1 : Int32)), .val (.int xx), .val (.int oo), .val (.int ss), .val (.ref b1), .val (.ref w_LEGACY), .val (.int le31), .val (.long v209d7_s0), .second, .val (.long v231d7_s0), .second, .val (.int v396d7_s0), .val (.int ((gg31 oo.toNatClampNeg) &&& (255 : Int32))), .val (.int v435d7_s0), .val (.int v456d7_s0), .val (.int v546d7_s0), .val (.long (f5_0 (f5_0 (f5_0 ((((gg31 oo.toNatClampNeg) &&& (255 : Int32)) &&& v435d7_s0).toInt64) oo le31 (1 : Int32) gg31) oo le31 (2 : Int32) gg31) oo le31 (3 : Int32) gg31)), .second] [])) (fun _ k => XS.lstore X51.here hx rfl (hb hby at_603) rfl (l' := #[.val (.int p0), .val (.int p1), .val (.int p2), .val (.int (1 : Int32)), .val (.int xx), .val (.int oo), .val (.int ss), .val (.ref b1), .val (.ref w_LEGACY), .val (.int le31), .val (.long v209d7_s0), .second, .val (.long v231d7_s0), .second, .val (.int v396d7_s0), .val (.int ((gg31 oo.toNatClampNeg) &&& (255 : Int32))), .val (.int v435d7_s0), .val (.int v456d7_s0), .val (.int v546d7_s0), .val (.long (f5_0 (f5_0 (f5_0 ((((gg31 oo.toNatClampNeg) &&& (255 : Int32)) &&& v435d7_s0).toInt64) oo le31 (1 : Int32) gg31) oo le31 (2 : Int32) gg31) oo le31 (3 : Int32) gg31)), .second]) rfl k) ?_
                                refine Go.step (g' := (mkF m 607 #[.val (.int p0), .val (.int p1), .val (.int p2), .val (.int (1 : Int32)), .val (.int xx), .val (.int oo), .val (.int ss), .val (.ref b1), .val (.ref w_LEGACY), .val (.int le31), .val (.long v209d7_s0), .second, .val (.long v231d7_s0), .second, .val (.int v396d7_s0), .val (.int ((gg31 oo.toNatClampNeg) &&& (255 : Int32))), .val (.int v435d7_s0), .val (.int v456d7_s0), .val (.int v546d7_s0), .val (.long (f5_0 (f5_0 (f5_0 ((((gg31 oo.toNatClampNeg) &&& (255 : Int32)) &&& v435d7_s0).toInt64) oo le31 (1 : Int32) gg31) oo le31 (2 : Int32) gg31) oo le31 (3 : Int32) gg31)), .second] [(.long (f5_0 (f5_0 (f5_0 ((((gg31 oo.toNatClampNeg) &&& (255 : Int32)) &&& v435d7_s0).toInt64) oo le31 (1 : Int32) gg31) oo le31 (2 : Int32) gg31) oo le31 (3 : Int32) gg31))])) (fun _ k => XS.lload X51.here hx rfl (hb hby at_605) rfl  k) ?_
                                refine Go.step (g' := (mkF m 609 #[.val (.int p0), .val (.int p1), .val (.int p2), .val (.int (1 : Int32)), .val (.int xx), .val (.int oo), .val (.int ss), .val (.ref b1), .val (.ref w_LEGACY), .val (.int le31), .val (.long v209d7_s0), .second, .val (.long v231d7_s0), .second, .val (.int v396d7_s0), .val (.int ((gg31 oo.toNatClampNeg) &&& (255 : Int32))), .val (.int v435d7_s0), .val (.int v456d7_s0), .val (.int v546d7_s0), .val (.long (f5_0 (f5_0 (f5_0 ((((gg31 oo.toNatClampNeg) &&& (255 : Int32)) &&& v435d7_s0).toInt64) oo le31 (1 : Int32) gg31) oo le31 (2 : Int32) gg31) oo le31 (3 : Int32) gg31)), .second] [(.ref b1), (.long (f5_0 (f5_0 (f5_0 ((((gg31 oo.toNatClampNeg) &&& (255 : Int32)) &&& v435d7_s0).toInt64) oo le31 (1 : Int32) gg31) oo le31 (2 : Int32) gg31) oo le31 (3 : Int32) gg31))])) (fun _ k => XS.aload X51.here hx rfl (hb hby at_607) rfl rfl  k) ?_
                                refine Go.step (g' := (mkF m 611 #[.val (.int p0), .val (.int p1), .val (.int p2), .val (.int (1 : Int32)), .val (.int xx), .val (.int oo), .val (.int ss), .val (.ref b1), .val (.ref w_LEGACY), .val (.int le31), .val (.long v209d7_s0), .second, .val (.long v231d7_s0), .second, .val (.int v396d7_s0), .val (.int ((gg31 oo.toNatClampNeg) &&& (255 : Int32))), .val (.int v435d7_s0), .val (.int v456d7_s0), .val (.int v546d7_s0), .val (.long (f5_0 (f5_0 (f5_0 ((((gg31 oo.toNatClampNeg) &&& (255 : Int32)) &&& v435d7_s0).toInt64) oo le31 (1 : Int32) gg31) oo le31 (2 : Int32) gg31) oo le31 (3 : Int32) gg31)), .second] [(.int oo), (.ref b1), (.long (f5_0 (f5_0 (f5_0 ((((gg31 oo.toNatClampNeg) &&& (255 : Int32)) &&& v435d7_s0).toInt64) oo le31 (1 : Int32) gg31) oo le31 (2 : Int32) gg31) oo le31 (3 : Int32) gg31))])) (fun _ k => XS.iload X51.here hx rfl (hb hby at_609) rfl  k) ?_
                                refine Go.step (g' := (mkF m 613 #[.val (.int p0), .val (.int p1), .val (.int p2), .val (.int (1 : Int32)), .val (.int xx), .val (.int oo), .val (.int ss), .val (.ref b1), .val (.ref w_LEGACY), .val (.int le31), .val (.long v209d7_s0), .second, .val (.long v231d7_s0), .second, .val (.int v396d7_s0), .val (.int ((gg31 oo.toNatClampNeg) &&& (255 : Int32))), .val (.int v435d7_s0), .val (.int v456d7_s0), .val (.int v546d7_s0), .val (.long (f5_0 (f5_0 (f5_0 ((((gg31 oo.toNatClampNeg) &&& (255 : Int32)) &&& v435d7_s0).toInt64) oo le31 (1 : Int32) gg31) oo le31 (2 : Int32) gg31) oo le31 (3 : Int32) gg31)), .second] [(.int le31), (.int oo), (.ref b1), (.long (f5_0 (f5_0 (f5_0 ((((gg31 oo.toNatClampNeg) &&& (255 : Int32)) &&& v435d7_s0).toInt64) oo le31 (1 : Int32) gg31) oo le31 (2 : Int32) gg31) oo le31 (3 : Int32) gg31))])) (fun _ k => XS.iload X51.here hx rfl (hb hby at_611) rfl  k) ?_
                                refine Go.step (g' := (mkF m 614 #[.val (.int p0), .val (.int p1), .val (.int p2), .val (.int (1 : Int32)), .val (.int xx), .val (.int oo), .val (.int ss), .val (.ref b1), .val (.ref w_LEGACY), .val (.int le31), .val (.long v209d7_s0), .second, .val (.long v231d7_s0), .second, .val (.int v396d7_s0), .val (.int ((gg31 oo.toNatClampNeg) &&& (255 : Int32))), .val (.int v435d7_s0), .val (.int v456d7_s0), .val (.int v546d7_s0), .val (.long (f5_0 (f5_0 (f5_0 ((((gg31 oo.toNatClampNeg) &&& (255 : Int32)) &&& v435d7_s0).toInt64) oo le31 (1 : Int32) gg31) oo le31 (2 : Int32) gg31) oo le31 (3 : Int32) gg31)), .second] [(.int (4 : Int32)), (.int le31), (.int oo), (.ref b1), (.long (f5_0 (f5_0 (f5_0 ((((gg31 oo.toNatClampNeg) &&& (255 : Int32)) &&& v435d7_s0).toInt64) oo le31 (1 : Int32) gg31) oo le31 (2 : Int32) gg31) oo le31 (3 : Int32) gg31))])) (fun _ k => XS.iconst X51.here hx rfl (hb hby at_613) k) ?_
                                obtain ⟨_, _, ⟨T52, L52, k52, n52⟩, -, X52, ⟨Lc52, hQ52, l52, y52, z52⟩, st52⟩ := Jvm.LawKit.callS X51 hx (y := (⟨"com/example/ucs_to_octets/ucstooctets/Utf8EncodePinLaw", "add", "(J[BIII)J"⟩ : MethodName)) hown (mvT hZ (hw _ (List.mem_of_getElem? (i := 26) rfl))) (mvT hZ (hw _ (List.mem_of_getElem? (i := 27) rfl))) (mvT hZ (hw _ (List.mem_of_getElem? (i := 21) rfl))) (mvT hZ (hw _ (List.mem_of_getElem? (i := 28) rfl))) (by decide) (backOf (W := 0) (rm5 l Z a0 hw [] (f5_0 (f5_0 (f5_0 ((((gg31 oo.toNatClampNeg) &&& (255 : Int32)) &&& v435d7_s0).toInt64) oo le31 (1 : Int32) gg31) oo le31 (2 : Int32) gg31) oo le31 (3 : Int32) gg31) b1 oo le31 (4 : Int32) gg31 T31.heap Ac31 (own_ix ho 4)) hZ (hw _ (List.mem_of_getElem? (i := 28) rfl)) (hw _ (List.mem_of_getElem? (i := 21) rfl)) (by decide) (by decide)) (g := (mkF m 614 #[.val (.int p0), .val (.int p1), .val (.int p2), .val (.int (1 : Int32)), .val (.int xx), .val (.int oo), .val (.int ss), .val (.ref b1), .val (.ref w_LEGACY), .val (.int le31), .val (.long v209d7_s0), .second, .val (.long v231d7_s0), .second, .val (.int v396d7_s0), .val (.int ((gg31 oo.toNatClampNeg) &&& (255 : Int32))), .val (.int v435d7_s0), .val (.int v456d7_s0), .val (.int v546d7_s0), .val (.long (f5_0 (f5_0 (f5_0 ((((gg31 oo.toNatClampNeg) &&& (255 : Int32)) &&& v435d7_s0).toInt64) oo le31 (1 : Int32) gg31) oo le31 (2 : Int32) gg31) oo le31 (3 : Int32) gg31)), .second] [(.int (4 : Int32)), (.int le31), (.int oo), (.ref b1), (.long (f5_0 (f5_0 (f5_0 ((((gg31 oo.toNatClampNeg) &&& (255 : Int32)) &&& v435d7_s0).toInt64) oo le31 (1 : Int32) gg31) oo le31 (2 : Int32) gg31) oo le31 (3 : Int32) gg31))])) rfl (by rw [hml]; rfl) (argsL := [(.long (f5_0 (f5_0 (f5_0 ((((gg31 oo.toNatClampNeg) &&& (255 : Int32)) &&& v435d7_s0).toInt64) oo le31 (1 : Int32) gg31) oo le31 (2 : Int32) gg31) oo le31 (3 : Int32) gg31)), (.ref b1), (.int oo), (.int le31), (.int (4 : Int32))]) (rest := []) (lenOf pd_5 rfl) rfl (by show 2 * 0 + _ ≤ _; exact Nat.le_of_eq rfl) (hb hby at_614) (fun _ _ => ⟨rfl, e51, (by decide : ((0 + 1) + 0) + 0 ≤ _), (by decide : ((0 + 9) + 0) + 0 ≤ _)⟩)
                                dsimp only [Pt.U, Pt.locs, Pt.cells, Pt.slots] at X52 l52 y52 z52 st52 hQ52
                                subst l52 y52 z52
                                obtain ⟨rfl, rfl, e52⟩ := hQ52
                                try rw [List.append_nil] at X52
                                refine Go.step (g' := (mkF m 617 #[.val (.int p0), .val (.int p1), .val (.int p2), .val (.int (1 : Int32)), .val (.int xx), .val (.int oo), .val (.int ss), .val (.ref b1), .val (.ref w_LEGACY), .val (.int le31), .val (.long v209d7_s0), .second, .val (.long v231d7_s0), .second, .val (.int v396d7_s0), .val (.int ((gg31 oo.toNatClampNeg) &&& (255 : Int32))), .val (.int v435d7_s0), .val (.int v456d7_s0), .val (.int v546d7_s0), .val (.long (f5_0 (f5_0 (f5_0 ((((gg31 oo.toNatClampNeg) &&& (255 : Int32)) &&& v435d7_s0).toInt64) oo le31 (1 : Int32) gg31) oo le31 (2 : Int32) gg31) oo le31 (3 : Int32) gg31)), .second] [(.long (f5_0 (f5_0 (f5_0 (f5_0 ((((gg31 oo.toNatClampNeg) &&& (255 : Int32)) &&& v435d7_s0).toInt64) oo le31 (1 : Int32) gg31) oo le31 (2 : Int32) gg31) oo le31 (3 : Int32) gg31) oo le31 (4 : Int32) gg31))])) st52 ?_
                                refine Go.step (g' := (mkF m 619 #[.val (.int p0), .val (.int p1), .val (.int p2), .val (.int (1 : Int32)), .val (.int xx), .val (.int oo), .val (.int ss), .val (.ref b1), .val (.ref w_LEGACY), .val (.int le31), .val (.long v209d7_s0), .second, .val (.long v231d7_s0), .second, .val (.int v396d7_s0), .val (.int ((gg31 oo.toNatClampNeg) &&& (255 : Int32))), .val (.int v435d7_s0), .val (.int v456d7_s0), .val (.int v546d7_s0), .val (.long (f5_0 (f5_0 (f5_0 (f5_0 ((((gg31 oo.toNatClampNeg) &&& (255 : Int32)) &&& v435d7_s0).toInt64) oo le31 (1 : Int32) gg31) oo le31 (2 : Int32) gg31) oo le31 (3 : Int32) gg31) oo le31 (4 : Int32) gg31)), .second] [])) (fun _ k => XS.lstore X52.here hx rfl (hb hby at_617) rfl (l' := #[.val (.int p0), .val (.int p1), .val (.int p2), .val (.int (1 : Int32)), .val (.int xx), .val (.int oo), .val (.int ss), .val (.ref b1), .val (.ref w_LEGACY), .val (.int le31), .val (.long v209d7_s0), .second, .val (.long v231d7_s0), .second, .val (.int v396d7_s0), .val (.int ((gg31 oo.toNatClampNeg) &&& (255 : Int32))), .val (.int v435d7_s0), .val (.int v456d7_s0), .val (.int v546d7_s0), .val (.long (f5_0 (f5_0 (f5_0 (f5_0 ((((gg31 oo.toNatClampNeg) &&& (255 : Int32)) &&& v435d7_s0).toInt64) oo le31 (1 : Int32) gg31) oo le31 (2 : Int32) gg31) oo le31 (3 : Int32) gg31) oo le31 (4 : Int32) gg31)), .second]) rfl k) ?_
                                refine Go.step (g' := (mkF m 621 #[.val (.int p0), .val (.int p1), .val (.int p2), .val (.int (1 : Int32)), .val (.int xx), .val (.int oo), .val (.int ss), .val (.ref b1), .val (.ref w_LEGACY), .val (.int le31), .val (.long v209d7_s0), .second, .val (.long v231d7_s0), .second, .val (.int v396d7_s0), .val (.int ((gg31 oo.toNatClampNeg) &&& (255 : Int32))), .val (.int v435d7_s0), .val (.int v456d7_s0), .val (.int v546d7_s0), .val (.long (f5_0 (f5_0 (f5_0 (f5_0 ((((gg31 oo.toNatClampNeg) &&& (255 : Int32)) &&& v435d7_s0).toInt64) oo le31 (1 : Int32) gg31) oo le31 (2 : Int32) gg31) oo le31 (3 : Int32) gg31) oo le31 (4 : Int32) gg31)), .second] [(.long (f5_0 (f5_0 (f5_0 (f5_0 ((((gg31 oo.toNatClampNeg) &&& (255 : Int32)) &&& v435d7_s0).toInt64) oo le31 (1 : Int32) gg31) oo le31 (2 : Int32) gg31) oo le31 (3 : Int32) gg31) oo le31 (4 : Int32) gg31))])) (fun _ k => XS.lload X52.here hx rfl (hb hby at_619) rfl  k) ?_
                                refine Go.step (g' := (mkF m 623 #[.val (.int p0), .val (.int p1), .val (.int p2), .val (.int (1 : Int32)), .val (.int xx), .val (.int oo), .val (.int ss), .val (.ref b1), .val (.ref w_LEGACY), .val (.int le31), .val (.long v209d7_s0), .second, .val (.long v231d7_s0), .second, .val (.int v396d7_s0), .val (.int ((gg31 oo.toNatClampNeg) &&& (255 : Int32))), .val (.int v435d7_s0), .val (.int v456d7_s0), .val (.int v546d7_s0), .val (.long (f5_0 (f5_0 (f5_0 (f5_0 ((((gg31 oo.toNatClampNeg) &&& (255 : Int32)) &&& v435d7_s0).toInt64) oo le31 (1 : Int32) gg31) oo le31 (2 : Int32) gg31) oo le31 (3 : Int32) gg31) oo le31 (4 : Int32) gg31)), .second] [(.ref b1), (.long (f5_0 (f5_0 (f5_0 (f5_0 ((((gg31 oo.toNatClampNeg) &&& (255 : Int32)) &&& v435d7_s0).toInt64) oo le31 (1 : Int32) gg31) oo le31 (2 : Int32) gg31) oo le31 (3 : Int32) gg31) oo le31 (4 : Int32) gg31))])) (fun _ k => XS.aload X52.here hx rfl (hb hby at_621) rfl rfl  k) ?_
                                refine Go.step (g' := (mkF m 625 #[.val (.int p0), .val (.int p1), .val (.int p2), .val (.int (1 : Int32)), .val (.int xx), .val (.int oo), .val (.int ss), .val (.ref b1), .val (.ref w_LEGACY), .val (.int le31), .val (.long v209d7_s0), .second, .val (.long v231d7_s0), .second, .val (.int v396d7_s0), .val (.int ((gg31 oo.toNatClampNeg) &&& (255 : Int32))), .val (.int v435d7_s0), .val (.int v456d7_s0), .val (.int v546d7_s0), .val (.long (f5_0 (f5_0 (f5_0 (f5_0 ((((gg31 oo.toNatClampNeg) &&& (255 : Int32)) &&& v435d7_s0).toInt64) oo le31 (1 : Int32) gg31) oo le31 (2 : Int32) gg31) oo le31 (3 : Int32) gg31) oo le31 (4 : Int32) gg31)), .second] [(.int oo), (.ref b1), (.long (f5_0 (f5_0 (f5_0 (f5_0 ((((gg31 oo.toNatClampNeg) &&& (255 : Int32)) &&& v435d7_s0).toInt64) oo le31 (1 : Int32) gg31) oo le31 (2 : Int32) gg31) oo le31 (3 : Int32) gg31) oo le31 (4 : Int32) gg31))])) (fun _ k => XS.iload X52.here hx rfl (hb hby at_623) rfl  k) ?_
                                refine Go.step (g' := (mkF m 627 #[.val (.int p0), .val (.int p1), .val (.int p2), .val (.int (1 : Int32)), .val (.int xx), .val (.int oo), .val (.int ss), .val (.ref b1), .val (.ref w_LEGACY), .val (.int le31), .val (.long v209d7_s0), .second, .val (.long v231d7_s0), .second, .val (.int v396d7_s0), .val (.int ((gg31 oo.toNatClampNeg) &&& (255 : Int32))), .val (.int v435d7_s0), .val (.int v456d7_s0), .val (.int v546d7_s0), .val (.long (f5_0 (f5_0 (f5_0 (f5_0 ((((gg31 oo.toNatClampNeg) &&& (255 : Int32)) &&& v435d7_s0).toInt64) oo le31 (1 : Int32) gg31) oo le31 (2 : Int32) gg31) oo le31 (3 : Int32) gg31) oo le31 (4 : Int32) gg31)), .second] [(.int le31), (.int oo), (.ref b1), (.long (f5_0 (f5_0 (f5_0 (f5_0 ((((gg31 oo.toNatClampNeg) &&& (255 : Int32)) &&& v435d7_s0).toInt64) oo le31 (1 : Int32) gg31) oo le31 (2 : Int32) gg31) oo le31 (3 : Int32) gg31) oo le31 (4 : Int32) gg31))])) (fun _ k => XS.iload X52.here hx rfl (hb hby at_625) rfl  k) ?_
                                refine Go.step (g' := (mkF m 628 #[.val (.int p0), .val (.int p1), .val (.int p2), .val (.int (1 : Int32)), .val (.int xx), .val (.int oo), .val (.int ss), .val (.ref b1), .val (.ref w_LEGACY), .val (.int le31), .val (.long v209d7_s0), .second, .val (.long v231d7_s0), .second, .val (.int v396d7_s0), .val (.int ((gg31 oo.toNatClampNeg) &&& (255 : Int32))), .val (.int v435d7_s0), .val (.int v456d7_s0), .val (.int v546d7_s0), .val (.long (f5_0 (f5_0 (f5_0 (f5_0 ((((gg31 oo.toNatClampNeg) &&& (255 : Int32)) &&& v435d7_s0).toInt64) oo le31 (1 : Int32) gg31) oo le31 (2 : Int32) gg31) oo le31 (3 : Int32) gg31) oo le31 (4 : Int32) gg31)), .second] [(.int (5 : Int32)), (.int le31), (.int oo), (.ref b1), (.long (f5_0 (f5_0 (f5_0 (f5_0 ((((gg31 oo.toNatClampNeg) &&& (255 : Int32)) &&& v435d7_s0).toInt64) oo le31 (1 : Int32) gg31) oo le31 (2 : Int32) gg31) oo le31 (3 : Int32) gg31) oo le31 (4 : Int32) gg31))])) (fun _ k => XS.iconst X52.here hx rfl (hb hby at_627) k) ?_
                                obtain ⟨_, _, ⟨T53, L53, k53, n53⟩, -, X53, ⟨Lc53, hQ53, l53, y53, z53⟩, st53⟩ := Jvm.LawKit.callS X52 hx (y := (⟨"com/example/ucs_to_octets/ucstooctets/Utf8EncodePinLaw", "add", "(J[BIII)J"⟩ : MethodName)) hown (mvT hZ (hw _ (List.mem_of_getElem? (i := 26) rfl))) (mvT hZ (hw _ (List.mem_of_getElem? (i := 27) rfl))) (mvT hZ (hw _ (List.mem_of_getElem? (i := 21) rfl))) (mvT hZ (hw _ (List.mem_of_getElem? (i := 28) rfl))) (by decide) (backOf (W := 0) (rm5 l Z a0 hw [] (f5_0 (f5_0 (f5_0 (f5_0 ((((gg31 oo.toNatClampNeg) &&& (255 : Int32)) &&& v435d7_s0).toInt64) oo le31 (1 : Int32) gg31) oo le31 (2 : Int32) gg31) oo le31 (3 : Int32) gg31) oo le31 (4 : Int32) gg31) b1 oo le31 (5 : Int32) gg31 T31.heap Ac31 (own_ix ho 5)) hZ (hw _ (List.mem_of_getElem? (i := 28) rfl)) (hw _ (List.mem_of_getElem? (i := 21) rfl)) (by decide) (by decide)) (g := (mkF m 628 #[.val (.int p0), .val (.int p1), .val (.int p2), .val (.int (1 : Int32)), .val (.int xx), .val (.int oo), .val (.int ss), .val (.ref b1), .val (.ref w_LEGACY), .val (.int le31), .val (.long v209d7_s0), .second, .val (.long v231d7_s0), .second, .val (.int v396d7_s0), .val (.int ((gg31 oo.toNatClampNeg) &&& (255 : Int32))), .val (.int v435d7_s0), .val (.int v456d7_s0), .val (.int v546d7_s0), .val (.long (f5_0 (f5_0 (f5_0 (f5_0 ((((gg31 oo.toNatClampNeg) &&& (255 : Int32)) &&& v435d7_s0).toInt64) oo le31 (1 : Int32) gg31) oo le31 (2 : Int32) gg31) oo le31 (3 : Int32) gg31) oo le31 (4 : Int32) gg31)), .second] [(.int (5 : Int32)), (.int le31), (.int oo), (.ref b1), (.long (f5_0 (f5_0 (f5_0 (f5_0 ((((gg31 oo.toNatClampNeg) &&& (255 : Int32)) &&& v435d7_s0).toInt64) oo le31 (1 : Int32) gg31) oo le31 (2 : Int32) gg31) oo le31 (3 : Int32) gg31) oo le31 (4 : Int32) gg31))])) rfl (by rw [hml]; rfl) (argsL := [(.long (f5_0 (f5_0 (f5_0 (f5_0 ((((gg31 oo.toNatClampNeg) &&& (255 : Int32)) &&& v435d7_s0).toInt64) oo le31 (1 : Int32) gg31) oo le31 (2 : Int32) gg31) oo le31 (3 : Int32) gg31) oo le31 (4 : Int32) gg31)), (.ref b1), (.int oo), (.int le31), (.int (5 : Int32))]) (rest := []) (lenOf pd_5 rfl) rfl (by show 2 * 0 + _ ≤ _; exact Nat.le_of_eq rfl) (hb hby at_628) (fun _ _ => ⟨rfl, e52, (by decide : ((0 + 1) + 0) + 0 ≤ _), (by decide : ((0 + 9) + 0) + 0 ≤ _)⟩)
                                dsimp only [Pt.U, Pt.locs, Pt.cells, Pt.slots] at X53 l53 y53 z53 st53 hQ53
                                subst l53 y53 z53
                                obtain ⟨rfl, rfl, e53⟩ := hQ53
                                try rw [List.append_nil] at X53
                                refine Go.step (g' := (mkF m 631 #[.val (.int p0), .val (.int p1), .val (.int p2), .val (.int (1 : Int32)), .val (.int xx), .val (.int oo), .val (.int ss), .val (.ref b1), .val (.ref w_LEGACY), .val (.int le31), .val (.long v209d7_s0), .second, .val (.long v231d7_s0), .second, .val (.int v396d7_s0), .val (.int ((gg31 oo.toNatClampNeg) &&& (255 : Int32))), .val (.int v435d7_s0), .val (.int v456d7_s0), .val (.int v546d7_s0), .val (.long (f5_0 (f5_0 (f5_0 (f5_0 ((((gg31 oo.toNatClampNeg) &&& (255 : Int32)) &&& v435d7_s0).toInt64) oo le31 (1 : Int32) gg31) oo le31 (2 : Int32) gg31) oo le31 (3 : Int32) gg31) oo le31 (4 : Int32) gg31)), .second] [(.long (f5_0 (f5_0 (f5_0 (f5_0 (f5_0 ((((gg31 oo.toNatClampNeg) &&& (255 : Int32)) &&& v435d7_s0).toInt64) oo le31 (1 : Int32) gg31) oo le31 (2 : Int32) gg31) oo le31 (3 : Int32) gg31) oo le31 (4 : Int32) gg31) oo le31 (5 : Int32) gg31))])) st53 ?_
                                refine Go.step (g' := (mkF m 633 #[.val (.int p0), .val (.int p1), .val (.int p2), .val (.int (1 : Int32)), .val (.int xx), .val (.int oo), .val (.int ss), .val (.ref b1), .val (.ref w_LEGACY), .val (.int le31), .val (.long v209d7_s0), .second, .val (.long v231d7_s0), .second, .val (.int v396d7_s0), .val (.int ((gg31 oo.toNatClampNeg) &&& (255 : Int32))), .val (.int v435d7_s0), .val (.int v456d7_s0), .val (.int v546d7_s0), .val (.long (f5_0 (f5_0 (f5_0 (f5_0 (f5_0 ((((gg31 oo.toNatClampNeg) &&& (255 : Int32)) &&& v435d7_s0).toInt64) oo le31 (1 : Int32) gg31) oo le31 (2 : Int32) gg31) oo le31 (3 : Int32) gg31) oo le31 (4 : Int32) gg31) oo le31 (5 : Int32) gg31)), .second] [])) (fun _ k => XS.lstore X53.here hx rfl (hb hby at_631) rfl (l' := #[.val (.int p0), .val (.int p1), .val (.int p2), .val (.int (1 : Int32)), .val (.int xx), .val (.int oo), .val (.int ss), .val (.ref b1), .val (.ref w_LEGACY), .val (.int le31), .val (.long v209d7_s0), .second, .val (.long v231d7_s0), .second, .val (.int v396d7_s0), .val (.int ((gg31 oo.toNatClampNeg) &&& (255 : Int32))), .val (.int v435d7_s0), .val (.int v456d7_s0), .val (.int v546d7_s0), .val (.long (f5_0 (f5_0 (f5_0 (f5_0 (f5_0 ((((gg31 oo.toNatClampNeg) &&& (255 : Int32)) &&& v435d7_s0).toInt64) oo le31 (1 : Int32) gg31) oo le31 (2 : Int32) gg31) oo le31 (3 : Int32) gg31) oo le31 (4 : Int32) gg31) oo le31 (5 : Int32) gg31)), .second]) rfl k) ?_
                                refine Go.step (g' := (mkF m 635 #[.val (.int p0), .val (.int p1), .val (.int p2), .val (.int (1 : Int32)), .val (.int xx), .val (.int oo), .val (.int ss), .val (.ref b1), .val (.ref w_LEGACY), .val (.int le31), .val (.long v209d7_s0), .second, .val (.long v231d7_s0), .second, .val (.int v396d7_s0), .val (.int ((gg31 oo.toNatClampNeg) &&& (255 : Int32))), .val (.int v435d7_s0), .val (.int v456d7_s0), .val (.int v546d7_s0), .val (.long (f5_0 (f5_0 (f5_0 (f5_0 (f5_0 ((((gg31 oo.toNatClampNeg) &&& (255 : Int32)) &&& v435d7_s0).toInt64) oo le31 (1 : Int32) gg31) oo le31 (2 : Int32) gg31) oo le31 (3 : Int32) gg31) oo le31 (4 : Int32) gg31) oo le31 (5 : Int32) gg31)), .second] [(.long (f5_0 (f5_0 (f5_0 (f5_0 (f5_0 ((((gg31 oo.toNatClampNeg) &&& (255 : Int32)) &&& v435d7_s0).toInt64) oo le31 (1 : Int32) gg31) oo le31 (2 : Int32) gg31) oo le31 (3 : Int32) gg31) oo le31 (4 : Int32) gg31) oo le31 (5 : Int32) gg31))])) (fun _ k => XS.lload X53.here hx rfl (hb hby at_633) rfl  k) ?_
                                refine Go.step (g' := (mkF m 637 #[.val (.int p0), .val (.int p1), .val (.int p2), .val (.int (1 : Int32)), .val (.int xx), .val (.int oo), .val (.int ss), .val (.ref b1), .val (.ref w_LEGACY), .val (.int le31), .val (.long v209d7_s0), .second, .val (.long v231d7_s0), .second, .val (.int v396d7_s0), .val (.int ((gg31 oo.toNatClampNeg) &&& (255 : Int32))), .val (.int v435d7_s0), .val (.int v456d7_s0), .val (.int v546d7_s0), .val (.long (f5_0 (f5_0 (f5_0 (f5_0 (f5_0 ((((gg31 oo.toNatClampNeg) &&& (255 : Int32)) &&& v435d7_s0).toInt64) oo le31 (1 : Int32) gg31) oo le31 (2 : Int32) gg31) oo le31 (3 : Int32) gg31) oo le31 (4 : Int32) gg31) oo le31 (5 : Int32) gg31)), .second] [(.int xx), (.long (f5_0 (f5_0 (f5_0 (f5_0 (f5_0 ((((gg31 oo.toNatClampNeg) &&& (255 : Int32)) &&& v435d7_s0).toInt64) oo le31 (1 : Int32) gg31) oo le31 (2 : Int32) gg31) oo le31 (3 : Int32) gg31) oo le31 (4 : Int32) gg31) oo le31 (5 : Int32) gg31))])) (fun _ k => XS.iload X53.here hx rfl (hb hby at_635) rfl  k) ?_
                                refine Go.step (g' := (mkF m 638 #[.val (.int p0), .val (.int p1), .val (.int p2), .val (.int (1 : Int32)), .val (.int xx), .val (.int oo), .val (.int ss), .val (.ref b1), .val (.ref w_LEGACY), .val (.int le31), .val (.long v209d7_s0), .second, .val (.long v231d7_s0), .second, .val (.int v396d7_s0), .val (.int ((gg31 oo.toNatClampNeg) &&& (255 : Int32))), .val (.int v435d7_s0), .val (.int v456d7_s0), .val (.int v546d7_s0), .val (.long (f5_0 (f5_0 (f5_0 (f5_0 (f5_0 ((((gg31 oo.toNatClampNeg) &&& (255 : Int32)) &&& v435d7_s0).toInt64) oo le31 (1 : Int32) gg31) oo le31 (2 : Int32) gg31) oo le31 (3 : Int32) gg31) oo le31 (4 : Int32) gg31) oo le31 (5 : Int32) gg31)), .second] [(.long (xx.toInt64)), (.long (f5_0 (f5_0 (f5_0 (f5_0 (f5_0 ((((gg31 oo.toNatClampNeg) &&& (255 : Int32)) &&& v435d7_s0).toInt64) oo le31 (1 : Int32) gg31) oo le31 (2 : Int32) gg31) oo le31 (3 : Int32) gg31) oo le31 (4 : Int32) gg31) oo le31 (5 : Int32) gg31))])) (fun _ k => XS.i2l X53.here hx rfl (hb hby at_637) rfl k) ?_
                                refine Go.step (g' := (mkF m 639 #[.val (.int p0), .val (.int p1), .val (.int p2), .val (.int (1 : Int32)), .val (.int xx), .val (.int oo), .val (.int ss), .val (.ref b1), .val (.ref w_LEGACY), .val (.int le31), .val (.long v209d7_s0), .second, .val (.long v231d7_s0), .second, .val (.int v396d7_s0), .val (.int ((gg31 oo.toNatClampNeg) &&& (255 : Int32))), .val (.int v435d7_s0), .val (.int v456d7_s0), .val (.int v546d7_s0), .val (.long (f5_0 (f5_0 (f5_0 (f5_0 (f5_0 ((((gg31 oo.toNatClampNeg) &&& (255 : Int32)) &&& v435d7_s0).toInt64) oo le31 (1 : Int32) gg31) oo le31 (2 : Int32) gg31) oo le31 (3 : Int32) gg31) oo le31 (4 : Int32) gg31) oo le31 (5 : Int32) gg31)), .second] [(.int (lcmpW (f5_0 (f5_0 (f5_0 (f5_0 (f5_0 ((((gg31 oo.toNatClampNeg) &&& (255 : Int32)) &&& v435d7_s0).toInt64) oo le31 (1 : Int32) gg31) oo le31 (2 : Int32) gg31) oo le31 (3 : Int32) gg31) oo le31 (4 : Int32) gg31) oo le31 (5 : Int32) gg31) (xx.toInt64)))])) (fun _ k => XS.lcmp X53.here hx rfl (hb hby at_638) rfl k) ?_
                                have t647d7 : ∀ (v647d7_s0 : Int32), Go p e below s room_1.cells room_1.slots (LawQ (some (.int (f0_647d7 v647d7_s0))) n0) T53 (mkF m 647 #[.val (.int p0), .val (.int p1), .val (.int p2), .val (.int (1 : Int32)), .val (.int xx), .val (.int oo), .val (.int ss), .val (.ref b1), .val (.ref w_LEGACY), .val (.int le31), .val (.long v209d7_s0), .second, .val (.long v231d7_s0), .second, .val (.int v396d7_s0), .val (.int ((gg31 oo.toNatClampNeg) &&& (255 : Int32))), .val (.int v435d7_s0), .val (.int v456d7_s0), .val (.int v546d7_s0), .val (.long (f5_0 (f5_0 (f5_0 (f5_0 (f5_0 ((((gg31 oo.toNatClampNeg) &&& (255 : Int32)) &&& v435d7_s0).toInt64) oo le31 (1 : Int32) gg31) oo le31 (2 : Int32) gg31) oo le31 (3 : Int32) gg31) oo le31 (4 : Int32) gg31) oo le31 (5 : Int32) gg31)), .second] [(.int v647d7_s0)]) := by
                                  intro v647d7_s0
                                  exact Go.retN X53 hx hlk (t := .boolean) Bd.returns (by simp) (hb hby at_647) (by decide) (by decide) ⟨rfl, N31⟩
                                by_cases hc639d7 : (lcmpW (f5_0 (f5_0 (f5_0 (f5_0 (f5_0 ((((gg31 oo.toNatClampNeg) &&& (255 : Int32)) &&& v435d7_s0).toInt64) oo le31 (1 : Int32) gg31) oo le31 (2 : Int32) gg31) oo le31 (3 : Int32) gg31) oo le31 (4 : Int32) gg31) oo le31 (5 : Int32) gg31) (xx.toInt64)) = (0 : Int32)
                                · rw [show (f0_555d7 xx oo le31 gg31 v435d7_s0) = f0_642d7 from if_pos hc639d7]
                                  refine Go.step (g' := (mkF m 642 #[.val (.int p0), .val (.int p1), .val (.int p2), .val (.int (1 : Int32)), .val (.int xx), .val (.int oo), .val (.int ss), .val (.ref b1), .val (.ref w_LEGACY), .val (.int le31), .val (.long v209d7_s0), .second, .val (.long v231d7_s0), .second, .val (.int v396d7_s0), .val (.int ((gg31 oo.toNatClampNeg) &&& (255 : Int32))), .val (.int v435d7_s0), .val (.int v456d7_s0), .val (.int v546d7_s0), .val (.long (f5_0 (f5_0 (f5_0 (f5_0 (f5_0 ((((gg31 oo.toNatClampNeg) &&& (255 : Int32)) &&& v435d7_s0).toInt64) oo le31 (1 : Int32) gg31) oo le31 (2 : Int32) gg31) oo le31 (3 : Int32) gg31) oo le31 (4 : Int32) gg31) oo le31 (5 : Int32) gg31)), .second] [])) (fun _ k => XS.ifNo X53.here hx rfl (hb hby at_639) rfl ((if0 _ _).trans (teq hc639d7).2) k) ?_
                                  refine Go.step (g' := (mkF m 643 #[.val (.int p0), .val (.int p1), .val (.int p2), .val (.int (1 : Int32)), .val (.int xx), .val (.int oo), .val (.int ss), .val (.ref b1), .val (.ref w_LEGACY), .val (.int le31), .val (.long v209d7_s0), .second, .val (.long v231d7_s0), .second, .val (.int v396d7_s0), .val (.int ((gg31 oo.toNatClampNeg) &&& (255 : Int32))), .val (.int v435d7_s0), .val (.int v456d7_s0), .val (.int v546d7_s0), .val (.long (f5_0 (f5_0 (f5_0 (f5_0 (f5_0 ((((gg31 oo.toNatClampNeg) &&& (255 : Int32)) &&& v435d7_s0).toInt64) oo le31 (1 : Int32) gg31) oo le31 (2 : Int32) gg31) oo le31 (3 : Int32) gg31) oo le31 (4 : Int32) gg31) oo le31 (5 : Int32) gg31)), .second] [(.int (1 : Int32))])) (fun _ k => XS.iconst X53.here hx rfl (hb hby at_642) k) ?_
                                  refine Go.step (g' := (mkF m 647 #[.val (.int p0), .val (.int p1), .val (.int p2), .val (.int (1 : Int32)), .val (.int xx), .val (.int oo), .val (.int ss), .val (.ref b1), .val (.ref w_LEGACY), .val (.int le31), .val (.long v209d7_s0), .second, .val (.long v231d7_s0), .second, .val (.int v396d7_s0), .val (.int ((gg31 oo.toNatClampNeg) &&& (255 : Int32))), .val (.int v435d7_s0), .val (.int v456d7_s0), .val (.int v546d7_s0), .val (.long (f5_0 (f5_0 (f5_0 (f5_0 (f5_0 ((((gg31 oo.toNatClampNeg) &&& (255 : Int32)) &&& v435d7_s0).toInt64) oo le31 (1 : Int32) gg31) oo le31 (2 : Int32) gg31) oo le31 (3 : Int32) gg31) oo le31 (4 : Int32) gg31) oo le31 (5 : Int32) gg31)), .second] [(.int (1 : Int32))])) (fun _ k => XS.goto X53.here hx rfl (pc0 := 643) (pc' := 647) rfl (hb hby at_643) (by decide) (by decide) k) ?_
                                  rw [show f0_642d7 = (f0_647d7 (1 : Int32)) from rfl]
                                  exact t647d7 (1 : Int32)
                                · rw [show (f0_555d7 xx oo le31 gg31 v435d7_s0) = f0_646d7 from if_neg hc639d7]
                                  refine Go.step (g' := (mkF m 646 #[.val (.int p0), .val (.int p1), .val (.int p2), .val (.int (1 : Int32)), .val (.int xx), .val (.int oo), .val (.int ss), .val (.ref b1), .val (.ref w_LEGACY), .val (.int le31), .val (.long v209d7_s0), .second, .val (.long v231d7_s0), .second, .val (.int v396d7_s0), .val (.int ((gg31 oo.toNatClampNeg) &&& (255 : Int32))), .val (.int v435d7_s0), .val (.int v456d7_s0), .val (.int v546d7_s0), .val (.long (f5_0 (f5_0 (f5_0 (f5_0 (f5_0 ((((gg31 oo.toNatClampNeg) &&& (255 : Int32)) &&& v435d7_s0).toInt64) oo le31 (1 : Int32) gg31) oo le31 (2 : Int32) gg31) oo le31 (3 : Int32) gg31) oo le31 (4 : Int32) gg31) oo le31 (5 : Int32) gg31)), .second] [])) (fun _ k => XS.ifYes X53.here hx rfl (pc0 := 639) (pc' := 646) rfl (hb hby at_639) rfl ((if0 _ _).trans (feq hc639d7).2) (by decide) (by decide) k) ?_
                                  refine Go.step (g' := (mkF m 647 #[.val (.int p0), .val (.int p1), .val (.int p2), .val (.int (1 : Int32)), .val (.int xx), .val (.int oo), .val (.int ss), .val (.ref b1), .val (.ref w_LEGACY), .val (.int le31), .val (.long v209d7_s0), .second, .val (.long v231d7_s0), .second, .val (.int v396d7_s0), .val (.int ((gg31 oo.toNatClampNeg) &&& (255 : Int32))), .val (.int v435d7_s0), .val (.int v456d7_s0), .val (.int v546d7_s0), .val (.long (f5_0 (f5_0 (f5_0 (f5_0 (f5_0 ((((gg31 oo.toNatClampNeg) &&& (255 : Int32)) &&& v435d7_s0).toInt64) oo le31 (1 : Int32) gg31) oo le31 (2 : Int32) gg31) oo le31 (3 : Int32) gg31) oo le31 (4 : Int32) gg31) oo le31 (5 : Int32) gg31)), .second] [(.int (0 : Int32))])) (fun _ k => XS.iconst X53.here hx rfl (hb hby at_646) k) ?_
                                  rw [show f0_646d7 = (f0_647d7 (0 : Int32)) from rfl]
                                  exact t647d7 (0 : Int32)
                            have t545d7 : ∀ (T_545d7 : State) (X_545d7 : Stand p l e room_1 s m #[(.int p0), (.int p1), (.int p2)] below meth c T_545d7 lc31 ((0 + 1) + 0) ((0 + 9) + 0)) (e_545d7 : T_545d7.heap = T31.heap), Go p e below s room_1.cells room_1.slots (LawQ (some (.int (f0_545d7 xx oo le31 gg31 v435d7_s0))) n0) T_545d7 (mkF m 545 #[.val (.int p0), .val (.int p1), .val (.int p2), .val (.int (1 : Int32)), .val (.int xx), .val (.int oo), .val (.int ss), .val (.ref b1), .val (.ref w_LEGACY), .val (.int le31), .val (.long v209d7_s0), .second, .val (.long v231d7_s0), .second, .val (.int v396d7_s0), .val (.int ((gg31 oo.toNatClampNeg) &&& (255 : Int32))), .val (.int v435d7_s0), .val (.int v456d7_s0), .unset, .unset, .unset] []) := by
                              intro T_545d7 X_545d7 e_545d7
                              refine Go.step (g' := (mkF m 546 #[.val (.int p0), .val (.int p1), .val (.int p2), .val (.int (1 : Int32)), .val (.int xx), .val (.int oo), .val (.int ss), .val (.ref b1), .val (.ref w_LEGACY), .val (.int le31), .val (.long v209d7_s0), .second, .val (.long v231d7_s0), .second, .val (.int v396d7_s0), .val (.int ((gg31 oo.toNatClampNeg) &&& (255 : Int32))), .val (.int v435d7_s0), .val (.int v456d7_s0), .unset, .unset, .unset] [(.int (0 : Int32))])) (fun _ k => XS.iconst X_545d7.here hx rfl (hb hby at_545) k) ?_
                              rw [show (f0_545d7 xx oo le31 gg31 v435d7_s0) = (f0_546d7 xx oo le31 gg31 v435d7_s0 (0 : Int32)) from rfl]
                              exact t546d7 T_545d7 X_545d7 e_545d7 (0 : Int32)
                            by_cases hc486d7 : (f4_0 oo le31 (1 : Int32) gg31) = (0 : Int32)
                            · rw [show (f0_476d7 xx oo le31 gg31 v435d7_s0) = (f0_545d7 xx oo le31 gg31 v435d7_s0) from if_pos hc486d7]
                              refine Go.step (g' := (mkF m 545 #[.val (.int p0), .val (.int p1), .val (.int p2), .val (.int (1 : Int32)), .val (.int xx), .val (.int oo), .val (.int ss), .val (.ref b1), .val (.ref w_LEGACY), .val (.int le31), .val (.long v209d7_s0), .second, .val (.long v231d7_s0), .second, .val (.int v396d7_s0), .val (.int ((gg31 oo.toNatClampNeg) &&& (255 : Int32))), .val (.int v435d7_s0), .val (.int v456d7_s0), .unset, .unset, .unset] [])) (fun _ k => XS.ifYes X44.here hx rfl (pc0 := 486) (pc' := 545) rfl (hb hby at_486) rfl ((if0 _ _).trans (teq hc486d7).1) (by decide) (by decide) k) ?_
                              exact t545d7 T44 X44 e44
                            · rw [show (f0_476d7 xx oo le31 gg31 v435d7_s0) = (f0_489d7 xx oo le31 gg31 v435d7_s0) from if_neg hc486d7]
                              refine Go.step (g' := (mkF m 489 #[.val (.int p0), .val (.int p1), .val (.int p2), .val (.int (1 : Int32)), .val (.int xx), .val (.int oo), .val (.int ss), .val (.ref b1), .val (.ref w_LEGACY), .val (.int le31), .val (.long v209d7_s0), .second, .val (.long v231d7_s0), .second, .val (.int v396d7_s0), .val (.int ((gg31 oo.toNatClampNeg) &&& (255 : Int32))), .val (.int v435d7_s0), .val (.int v456d7_s0), .unset, .unset, .unset] [])) (fun _ k => XS.ifNo X44.here hx rfl (hb hby at_486) rfl ((if0 _ _).trans (feq hc486d7).1) k) ?_
                              refine Go.step (g' := (mkF m 491 #[.val (.int p0), .val (.int p1), .val (.int p2), .val (.int (1 : Int32)), .val (.int xx), .val (.int oo), .val (.int ss), .val (.ref b1), .val (.ref w_LEGACY), .val (.int le31), .val (.long v209d7_s0), .second, .val (.long v231d7_s0), .second, .val (.int v396d7_s0), .val (.int ((gg31 oo.toNatClampNeg) &&& (255 : Int32))), .val (.int v435d7_s0), .val (.int v456d7_s0), .unset, .unset, .unset] [(.ref b1)])) (fun _ k => XS.aload X44.here hx rfl (hb hby at_489) rfl rfl  k) ?_
                              refine Go.step (g' := (mkF m 493 #[.val (.int p0), .val (.int p1), .val (.int p2), .val (.int (1 : Int32)), .val (.int xx), .val (.int oo), .val (.int ss), .val (.ref b1), .val (.ref w_LEGACY), .val (.int le31), .val (.long v209d7_s0), .second, .val (.long v231d7_s0), .second, .val (.int v396d7_s0), .val (.int ((gg31 oo.toNatClampNeg) &&& (255 : Int32))), .val (.int v435d7_s0), .val (.int v456d7_s0), .unset, .unset, .unset] [(.int oo), (.ref b1)])) (fun _ k => XS.iload X44.here hx rfl (hb hby at_491) rfl  k) ?_
                              refine Go.step (g' := (mkF m 495 #[.val (.int p0), .val (.int p1), .val (.int p2), .val (.int (1 : Int32)), .val (.int xx), .val (.int oo), .val (.int ss), .val (.ref b1), .val (.ref w_LEGACY), .val (.int le31), .val (.long v209d7_s0), .second, .val (.long v231d7_s0), .second, .val (.int v396d7_s0), .val (.int ((gg31 oo.toNatClampNeg) &&& (255 : Int32))), .val (.int v435d7_s0), .val (.int v456d7_s0), .unset, .unset, .unset] [(.int le31), (.int oo), (.ref b1)])) (fun _ k => XS.iload X44.here hx rfl (hb hby at_493) rfl  k) ?_
                              refine Go.step (g' := (mkF m 496 #[.val (.int p0), .val (.int p1), .val (.int p2), .val (.int (1 : Int32)), .val (.int xx), .val (.int oo), .val (.int ss), .val (.ref b1), .val (.ref w_LEGACY), .val (.int le31), .val (.long v209d7_s0), .second, .val (.long v231d7_s0), .second, .val (.int v396d7_s0), .val (.int ((gg31 oo.toNatClampNeg) &&& (255 : Int32))), .val (.int v435d7_s0), .val (.int v456d7_s0), .unset, .unset, .unset] [(.int (2 : Int32)), (.int le31), (.int oo), (.ref b1)])) (fun _ k => XS.iconst X44.here hx rfl (hb hby at_495) k) ?_
                              obtain ⟨_, _, ⟨T45, L45, k45, n45⟩, -, X45, ⟨Lc45, hQ45, l45, y45, z45⟩, st45⟩ := Jvm.LawKit.callS X44 hx (y := (⟨"com/example/ucs_to_octets/ucstooctets/Utf8EncodePinLaw", "tailOk", "([BIII)Z"⟩ : MethodName)) hown (mvT hZ (hw _ (List.mem_of_getElem? (i := 23) rfl))) (mvT hZ (hw _ (List.mem_of_getElem? (i := 24) rfl))) (mvT hZ (hw _ (List.mem_of_getElem? (i := 21) rfl))) (mvT hZ (hw _ (List.mem_of_getElem? (i := 25) rfl))) (by decide) (backOf (W := 0) (rm4 l Z a0 hw [] b1 oo le31 (2 : Int32) gg31 T31.heap Ac31 (own_ix ho 2)) hZ (hw _ (List.mem_of_getElem? (i := 25) rfl)) (hw _ (List.mem_of_getElem? (i := 21) rfl)) (by decide) (by decide)) (g := (mkF m 496 #[.val (.int p0), .val (.int p1), .val (.int p2), .val (.int (1 : Int32)), .val (.int xx), .val (.int oo), .val (.int ss), .val (.ref b1), .val (.ref w_LEGACY), .val (.int le31), .val (.long v209d7_s0), .second, .val (.long v231d7_s0), .second, .val (.int v396d7_s0), .val (.int ((gg31 oo.toNatClampNeg) &&& (255 : Int32))), .val (.int v435d7_s0), .val (.int v456d7_s0), .unset, .unset, .unset] [(.int (2 : Int32)), (.int le31), (.int oo), (.ref b1)])) rfl (by rw [hml]; rfl) (argsL := [(.ref b1), (.int oo), (.int le31), (.int (2 : Int32))]) (rest := []) (lenOf pd_4 rfl) rfl (by show 2 * 0 + _ ≤ _; exact Nat.le_of_eq rfl) (hb hby at_496) (fun _ _ => ⟨rfl, e44, (by decide : ((0 + 1) + 0) + 0 ≤ _), (by decide : ((0 + 9) + 0) + 0 ≤ _)⟩)
                              dsimp only [Pt.U, Pt.locs, Pt.cells, Pt.slots] at X45 l45 y45 z45 st45 hQ45
                              subst l45 y45 z45
                              obtain ⟨rfl, rfl, e45⟩ := hQ45
                              try rw [List.append_nil] at X45
                              refine Go.step (g' := (mkF m 499 #[.val (.int p0), .val (.int p1), .val (.int p2), .val (.int (1 : Int32)), .val (.int xx), .val (.int oo), .val (.int ss), .val (.ref b1), .val (.ref w_LEGACY), .val (.int le31), .val (.long v209d7_s0), .second, .val (.long v231d7_s0), .second, .val (.int v396d7_s0), .val (.int ((gg31 oo.toNatClampNeg) &&& (255 : Int32))), .val (.int v435d7_s0), .val (.int v456d7_s0), .unset, .unset, .unset] [(.int (f4_0 oo le31 (2 : Int32) gg31))])) st45 ?_
                              by_cases hc499d7 : (f4_0 oo le31 (2 : Int32) gg31) = (0 : Int32)
                              · rw [show (f0_489d7 xx oo le31 gg31 v435d7_s0) = (f0_545d7 xx oo le31 gg31 v435d7_s0) from if_pos hc499d7]
                                refine Go.step (g' := (mkF m 545 #[.val (.int p0), .val (.int p1), .val (.int p2), .val (.int (1 : Int32)), .val (.int xx), .val (.int oo), .val (.int ss), .val (.ref b1), .val (.ref w_LEGACY), .val (.int le31), .val (.long v209d7_s0), .second, .val (.long v231d7_s0), .second, .val (.int v396d7_s0), .val (.int ((gg31 oo.toNatClampNeg) &&& (255 : Int32))), .val (.int v435d7_s0), .val (.int v456d7_s0), .unset, .unset, .unset] [])) (fun _ k => XS.ifYes X45.here hx rfl (pc0 := 499) (pc' := 545) rfl (hb hby at_499) rfl ((if0 _ _).trans (teq hc499d7).1) (by decide) (by decide) k) ?_
                                exact t545d7 T45 X45 e45
                              · rw [show (f0_489d7 xx oo le31 gg31 v435d7_s0) = (f0_502d7 xx oo le31 gg31 v435d7_s0) from if_neg hc499d7]
                                refine Go.step (g' := (mkF m 502 #[.val (.int p0), .val (.int p1), .val (.int p2), .val (.int (1 : Int32)), .val (.int xx), .val (.int oo), .val (.int ss), .val (.ref b1), .val (.ref w_LEGACY), .val (.int le31), .val (.long v209d7_s0), .second, .val (.long v231d7_s0), .second, .val (.int v396d7_s0), .val (.int ((gg31 oo.toNatClampNeg) &&& (255 : Int32))), .val (.int v435d7_s0), .val (.int v456d7_s0), .unset, .unset, .unset] [])) (fun _ k => XS.ifNo X45.here hx rfl (hb hby at_499) rfl ((if0 _ _).trans (feq hc499d7).1) k) ?_
                                refine Go.step (g' := (mkF m 504 #[.val (.int p0), .val (.int p1), .val (.int p2), .val (.int (1 : Int32)), .val (.int xx), .val (.int oo), .val (.int ss), .val (.ref b1), .val (.ref w_LEGACY), .val (.int le31), .val (.long v209d7_s0), .second, .val (.long v231d7_s0), .second, .val (.int v396d7_s0), .val (.int ((gg31 oo.toNatClampNeg) &&& (255 : Int32))), .val (.int v435d7_s0), .val (.int v456d7_s0), .unset, .unset, .unset] [(.ref b1)])) (fun _ k => XS.aload X45.here hx rfl (hb hby at_502) rfl rfl  k) ?_
                                refine Go.step (g' := (mkF m 506 #[.val (.int p0), .val (.int p1), .val (.int p2), .val (.int (1 : Int32)), .val (.int xx), .val (.int oo), .val (.int ss), .val (.ref b1), .val (.ref w_LEGACY), .val (.int le31), .val (.long v209d7_s0), .second, .val (.long v231d7_s0), .second, .val (.int v396d7_s0), .val (.int ((gg31 oo.toNatClampNeg) &&& (255 : Int32))), .val (.int v435d7_s0), .val (.int v456d7_s0), .unset, .unset, .unset] [(.int oo), (.ref b1)])) (fun _ k => XS.iload X45.here hx rfl (hb hby at_504) rfl  k) ?_
                                refine Go.step (g' := (mkF m 508 #[.val (.int p0), .val (.int p1), .val (.int p2), .val (.int (1 : Int32)), .val (.int xx), .val (.int oo), .val (.int ss), .val (.ref b1), .val (.ref w_LEGACY), .val (.int le31), .val (.long v209d7_s0), .second, .val (.long v231d7_s0), .second, .val (.int v396d7_s0), .val (.int ((gg31 oo.toNatClampNeg) &&& (255 : Int32))), .val (.int v435d7_s0), .val (.int v456d7_s0), .unset, .unset, .unset] [(.int le31), (.int oo), (.ref b1)])) (fun _ k => XS.iload X45.here hx rfl (hb hby at_506) rfl  k) ?_
                                refine Go.step (g' := (mkF m 509 #[.val (.int p0), .val (.int p1), .val (.int p2), .val (.int (1 : Int32)), .val (.int xx), .val (.int oo), .val (.int ss), .val (.ref b1), .val (.ref w_LEGACY), .val (.int le31), .val (.long v209d7_s0), .second, .val (.long v231d7_s0), .second, .val (.int v396d7_s0), .val (.int ((gg31 oo.toNatClampNeg) &&& (255 : Int32))), .val (.int v435d7_s0), .val (.int v456d7_s0), .unset, .unset, .unset] [(.int (3 : Int32)), (.int le31), (.int oo), (.ref b1)])) (fun _ k => XS.iconst X45.here hx rfl (hb hby at_508) k) ?_
                                obtain ⟨_, _, ⟨T46, L46, k46, n46⟩, -, X46, ⟨Lc46, hQ46, l46, y46, z46⟩, st46⟩ := Jvm.LawKit.callS X45 hx (y := (⟨"com/example/ucs_to_octets/ucstooctets/Utf8EncodePinLaw", "tailOk", "([BIII)Z"⟩ : MethodName)) hown (mvT hZ (hw _ (List.mem_of_getElem? (i := 23) rfl))) (mvT hZ (hw _ (List.mem_of_getElem? (i := 24) rfl))) (mvT hZ (hw _ (List.mem_of_getElem? (i := 21) rfl))) (mvT hZ (hw _ (List.mem_of_getElem? (i := 25) rfl))) (by decide) (backOf (W := 0) (rm4 l Z a0 hw [] b1 oo le31 (3 : Int32) gg31 T31.heap Ac31 (own_ix ho 3)) hZ (hw _ (List.mem_of_getElem? (i := 25) rfl)) (hw _ (List.mem_of_getElem? (i := 21) rfl)) (by decide) (by decide)) (g := (mkF m 509 #[.val (.int p0), .val (.int p1), .val (.int p2), .val (.int (1 : Int32)), .val (.int xx), .val (.int oo), .val (.int ss), .val (.ref b1), .val (.ref w_LEGACY), .val (.int le31), .val (.long v209d7_s0), .second, .val (.long v231d7_s0), .second, .val (.int v396d7_s0), .val (.int ((gg31 oo.toNatClampNeg) &&& (255 : Int32))), .val (.int v435d7_s0), .val (.int v456d7_s0), .unset, .unset, .unset] [(.int (3 : Int32)), (.int le31), (.int oo), (.ref b1)])) rfl (by rw [hml]; rfl) (argsL := [(.ref b1), (.int oo), (.int le31), (.int (3 : Int32))]) (rest := []) (lenOf pd_4 rfl) rfl (by show 2 * 0 + _ ≤ _; exact Nat.le_of_eq rfl) (hb hby at_509) (fun _ _ => ⟨rfl, e45, (by decide : ((0 + 1) + 0) + 0 ≤ _), (by decide : ((0 + 9) + 0) + 0 ≤ _)⟩)
                                dsimp only [Pt.U, Pt.locs, Pt.cells, Pt.slots] at X46 l46 y46 z46 st46 hQ46
                                subst l46 y46 z46
                                obtain ⟨rfl, rfl, e46⟩ := hQ46
                                try rw [List.append_nil] at X46
                                refine Go.step (g' := (mkF m 512 #[.val (.int p0), .val (.int p1), .val (.int p2), .val (.int (1 : Int32)), .val (.int xx), .val (.int oo), .val (.int ss), .val (.ref b1), .val (.ref w_LEGACY), .val (.int le31), .val (.long v209d7_s0), .second, .val (.long v231d7_s0), .second, .val (.int v396d7_s0), .val (.int ((gg31 oo.toNatClampNeg) &&& (255 : Int32))), .val (.int v435d7_s0), .val (.int v456d7_s0), .unset, .unset, .unset] [(.int (f4_0 oo le31 (3 : Int32) gg31))])) st46 ?_
                                by_cases hc512d7 : (f4_0 oo le31 (3 : Int32) gg31) = (0 : Int32)
                                · rw [show (f0_502d7 xx oo le31 gg31 v435d7_s0) = (f0_545d7 xx oo le31 gg31 v435d7_s0) from if_pos hc512d7]
                                  refine Go.step (g' := (mkF m 545 #[.val (.int p0), .val (.int p1), .val (.int p2), .val (.int (1 : Int32)), .val (.int xx), .val (.int oo), .val (.int ss), .val (.ref b1), .val (.ref w_LEGACY), .val (.int le31), .val (.long v209d7_s0), .second, .val (.long v231d7_s0), .second, .val (.int v396d7_s0), .val (.int ((gg31 oo.toNatClampNeg) &&& (255 : Int32))), .val (.int v435d7_s0), .val (.int v456d7_s0), .unset, .unset, .unset] [])) (fun _ k => XS.ifYes X46.here hx rfl (pc0 := 512) (pc' := 545) rfl (hb hby at_512) rfl ((if0 _ _).trans (teq hc512d7).1) (by decide) (by decide) k) ?_
                                  exact t545d7 T46 X46 e46
                                · rw [show (f0_502d7 xx oo le31 gg31 v435d7_s0) = (f0_515d7 xx oo le31 gg31 v435d7_s0) from if_neg hc512d7]
                                  refine Go.step (g' := (mkF m 515 #[.val (.int p0), .val (.int p1), .val (.int p2), .val (.int (1 : Int32)), .val (.int xx), .val (.int oo), .val (.int ss), .val (.ref b1), .val (.ref w_LEGACY), .val (.int le31), .val (.long v209d7_s0), .second, .val (.long v231d7_s0), .second, .val (.int v396d7_s0), .val (.int ((gg31 oo.toNatClampNeg) &&& (255 : Int32))), .val (.int v435d7_s0), .val (.int v456d7_s0), .unset, .unset, .unset] [])) (fun _ k => XS.ifNo X46.here hx rfl (hb hby at_512) rfl ((if0 _ _).trans (feq hc512d7).1) k) ?_
                                  refine Go.step (g' := (mkF m 517 #[.val (.int p0), .val (.int p1), .val (.int p2), .val (.int (1 : Int32)), .val (.int xx), .val (.int oo), .val (.int ss), .val (.ref b1), .val (.ref w_LEGACY), .val (.int le31), .val (.long v209d7_s0), .second, .val (.long v231d7_s0), .second, .val (.int v396d7_s0), .val (.int ((gg31 oo.toNatClampNeg) &&& (255 : Int32))), .val (.int v435d7_s0), .val (.int v456d7_s0), .unset, .unset, .unset] [(.ref b1)])) (fun _ k => XS.aload X46.here hx rfl (hb hby at_515) rfl rfl  k) ?_
                                  refine Go.step (g' := (mkF m 519 #[.val (.int p0), .val (.int p1), .val (.int p2), .val (.int (1 : Int32)), .val (.int xx), .val (.int oo), .val (.int ss), .val (.ref b1), .val (.ref w_LEGACY), .val (.int le31), .val (.long v209d7_s0), .second, .val (.long v231d7_s0), .second, .val (.int v396d7_s0), .val (.int ((gg31 oo.toNatClampNeg) &&& (255 : Int32))), .val (.int v435d7_s0), .val (.int v456d7_s0), .unset, .unset, .unset] [(.int oo), (.ref b1)])) (fun _ k => XS.iload X46.here hx rfl (hb hby at_517) rfl  k) ?_
                                  refine Go.step (g' := (mkF m 521 #[.val (.int p0), .val (.int p1), .val (.int p2), .val (.int (1 : Int32)), .val (.int xx), .val (.int oo), .val (.int ss), .val (.ref b1), .val (.ref w_LEGACY), .val (.int le31), .val (.long v209d7_s0), .second, .val (.long v231d7_s0), .second, .val (.int v396d7_s0), .val (.int ((gg31 oo.toNatClampNeg) &&& (255 : Int32))), .val (.int v435d7_s0), .val (.int v456d7_s0), .unset, .unset, .unset] [(.int le31), (.int oo), (.ref b1)])) (fun _ k => XS.iload X46.here hx rfl (hb hby at_519) rfl  k) ?_
                                  refine Go.step (g' := (mkF m 522 #[.val (.int p0), .val (.int p1), .val (.int p2), .val (.int (1 : Int32)), .val (.int xx), .val (.int oo), .val (.int ss), .val (.ref b1), .val (.ref w_LEGACY), .val (.int le31), .val (.long v209d7_s0), .second, .val (.long v231d7_s0), .second, .val (.int v396d7_s0), .val (.int ((gg31 oo.toNatClampNeg) &&& (255 : Int32))), .val (.int v435d7_s0), .val (.int v456d7_s0), .unset, .unset, .unset] [(.int (4 : Int32)), (.int le31), (.int oo), (.ref b1)])) (fun _ k => XS.iconst X46.here hx rfl (hb hby at_521) k) ?_
                                  obtain ⟨_, _, ⟨T47, L47, k47, n47⟩, -, X47, ⟨Lc47, hQ47, l47, y47, z47⟩, st47⟩ := Jvm.LawKit.callS X46 hx (y := (⟨"com/example/ucs_to_octets/ucstooctets/Utf8EncodePinLaw", "tailOk", "([BIII)Z"⟩ : MethodName)) hown (mvT hZ (hw _ (List.mem_of_getElem? (i := 23) rfl))) (mvT hZ (hw _ (List.mem_of_getElem? (i := 24) rfl))) (mvT hZ (hw _ (List.mem_of_getElem? (i := 21) rfl))) (mvT hZ (hw _ (List.mem_of_getElem? (i := 25) rfl))) (by decide) (backOf (W := 0) (rm4 l Z a0 hw [] b1 oo le31 (4 : Int32) gg31 T31.heap Ac31 (own_ix ho 4)) hZ (hw _ (List.mem_of_getElem? (i := 25) rfl)) (hw _ (List.mem_of_getElem? (i := 21) rfl)) (by decide) (by decide)) (g := (mkF m 522 #[.val (.int p0), .val (.int p1), .val (.int p2), .val (.int (1 : Int32)), .val (.int xx), .val (.int oo), .val (.int ss), .val (.ref b1), .val (.ref w_LEGACY), .val (.int le31), .val (.long v209d7_s0), .second, .val (.long v231d7_s0), .second, .val (.int v396d7_s0), .val (.int ((gg31 oo.toNatClampNeg) &&& (255 : Int32))), .val (.int v435d7_s0), .val (.int v456d7_s0), .unset, .unset, .unset] [(.int (4 : Int32)), (.int le31), (.int oo), (.ref b1)])) rfl (by rw [hml]; rfl) (argsL := [(.ref b1), (.int oo), (.int le31), (.int (4 : Int32))]) (rest := []) (lenOf pd_4 rfl) rfl (by show 2 * 0 + _ ≤ _; exact Nat.le_of_eq rfl) (hb hby at_522) (fun _ _ => ⟨rfl, e46, (by decide : ((0 + 1) + 0) + 0 ≤ _), (by decide : ((0 + 9) + 0) + 0 ≤ _)⟩)
                                  dsimp only [Pt.U, Pt.locs, Pt.cells, Pt.slots] at X47 l47 y47 z47 st47 hQ47
                                  subst l47 y47 z47
                                  obtain ⟨rfl, rfl, e47⟩ := hQ47
                                  try rw [List.append_nil] at X47
                                  refine Go.step (g' := (mkF m 525 #[.val (.int p0), .val (.int p1), .val (.int p2), .val (.int (1 : Int32)), .val (.int xx), .val (.int oo), .val (.int ss), .val (.ref b1), .val (.ref w_LEGACY), .val (.int le31), .val (.long v209d7_s0), .second, .val (.long v231d7_s0), .second, .val (.int v396d7_s0), .val (.int ((gg31 oo.toNatClampNeg) &&& (255 : Int32))), .val (.int v435d7_s0), .val (.int v456d7_s0), .unset, .unset, .unset] [(.int (f4_0 oo le31 (4 : Int32) gg31))])) st47 ?_
                                  by_cases hc525d7 : (f4_0 oo le31 (4 : Int32) gg31) = (0 : Int32)
                                  · rw [show (f0_515d7 xx oo le31 gg31 v435d7_s0) = (f0_545d7 xx oo le31 gg31 v435d7_s0) from if_pos hc525d7]
                                    refine Go.step (g' := (mkF m 545 #[.val (.int p0), .val (.int p1), .val (.int p2), .val (.int (1 : Int32)), .val (.int xx), .val (.int oo), .val (.int ss), .val (.ref b1), .val (.ref w_LEGACY), .val (.int le31), .val (.long v209d7_s0), .second, .val (.long v231d7_s0), .second, .val (.int v396d7_s0), .val (.int ((gg31 oo.toNatClampNeg) &&& (255 : Int32))), .val (.int v435d7_s0), .val (.int v456d7_s0), .unset, .unset, .unset] [])) (fun _ k => XS.ifYes X47.here hx rfl (pc0 := 525) (pc' := 545) rfl (hb hby at_525) rfl ((if0 _ _).trans (teq hc525d7).1) (by decide) (by decide) k) ?_
                                    exact t545d7 T47 X47 e47
                                  · rw [show (f0_515d7 xx oo le31 gg31 v435d7_s0) = (f0_528d7 xx oo le31 gg31 v435d7_s0) from if_neg hc525d7]
                                    refine Go.step (g' := (mkF m 528 #[.val (.int p0), .val (.int p1), .val (.int p2), .val (.int (1 : Int32)), .val (.int xx), .val (.int oo), .val (.int ss), .val (.ref b1), .val (.ref w_LEGACY), .val (.int le31), .val (.long v209d7_s0), .second, .val (.long v231d7_s0), .second, .val (.int v396d7_s0), .val (.int ((gg31 oo.toNatClampNeg) &&& (255 : Int32))), .val (.int v435d7_s0), .val (.int v456d7_s0), .unset, .unset, .unset] [])) (fun _ k => XS.ifNo X47.here hx rfl (hb hby at_525) rfl ((if0 _ _).trans (feq hc525d7).1) k) ?_
                                    refine Go.step (g' := (mkF m 530 #[.val (.int p0), .val (.int p1), .val (.int p2), .val (.int (1 : Int32)), .val (.int xx), .val (.int oo), .val (.int ss), .val (.ref b1), .val (.ref w_LEGACY), .val (.int le31), .val (.long v209d7_s0), .second, .val (.long v231d7_s0), .second, .val (.int v396d7_s0), .val (.int ((gg31 oo.toNatClampNeg) &&& (255 : Int32))), .val (.int v435d7_s0), .val (.int v456d7_s0), .unset, .unset, .unset] [(.ref b1)])) (fun _ k => XS.aload X47.here hx rfl (hb hby at_528) rfl rfl  k) ?_
                                    refine Go.step (g' := (mkF m 532 #[.val (.int p0), .val (.int p1), .val (.int p2), .val (.int (1 : Int32)), .val (.int xx), .val (.int oo), .val (.int ss), .val (.ref b1), .val (.ref w_LEGACY), .val (.int le31), .val (.long v209d7_s0), .second, .val (.long v231d7_s0), .second, .val (.int v396d7_s0), .val (.int ((gg31 oo.toNatClampNeg) &&& (255 : Int32))), .val (.int v435d7_s0), .val (.int v456d7_s0), .unset, .unset, .unset] [(.int oo), (.ref b1)])) (fun _ k => XS.iload X47.here hx rfl (hb hby at_530) rfl  k) ?_
                                    refine Go.step (g' := (mkF m 534 #[.val (.int p0), .val (.int p1), .val (.int p2), .val (.int (1 : Int32)), .val (.int xx), .val (.int oo), .val (.int ss), .val (.ref b1), .val (.ref w_LEGACY), .val (.int le31), .val (.long v209d7_s0), .second, .val (.long v231d7_s0), .second, .val (.int v396d7_s0), .val (.int ((gg31 oo.toNatClampNeg) &&& (255 : Int32))), .val (.int v435d7_s0), .val (.int v456d7_s0), .unset, .unset, .unset] [(.int le31), (.int oo), (.ref b1)])) (fun _ k => XS.iload X47.here hx rfl (hb hby at_532) rfl  k) ?_
                                    refine Go.step (g' := (mkF m 535 #[.val (.int p0), .val (.int p1), .val (.int p2), .val (.int (1 : Int32)), .val (.int xx), .val (.int oo), .val (.int ss), .val (.ref b1), .val (.ref w_LEGACY), .val (.int le31), .val (.long v209d7_s0), .second, .val (.long v231d7_s0), .second, .val (.int v396d7_s0), .val (.int ((gg31 oo.toNatClampNeg) &&& (255 : Int32))), .val (.int v435d7_s0), .val (.int v456d7_s0), .unset, .unset, .unset] [(.int (5 : Int32)), (.int le31), (.int oo), (.ref b1)])) (fun _ k => XS.iconst X47.here hx rfl (hb hby at_534) k) ?_
                                    obtain ⟨_, _, ⟨T48, L48, k48, n48⟩, -, X48, ⟨Lc48, hQ48, l48, y48, z48⟩, st48⟩ := Jvm.LawKit.callS X47 hx (y := (⟨"com/example/ucs_to_octets/ucstooctets/Utf8EncodePinLaw", "tailOk", "([BIII)Z"⟩ : MethodName)) hown (mvT hZ (hw _ (List.mem_of_getElem? (i := 23) rfl))) (mvT hZ (hw _ (List.mem_of_getElem? (i := 24) rfl))) (mvT hZ (hw _ (List.mem_of_getElem? (i := 21) rfl))) (mvT hZ (hw _ (List.mem_of_getElem? (i := 25) rfl))) (by decide) (backOf (W := 0) (rm4 l Z a0 hw [] b1 oo le31 (5 : Int32) gg31 T31.heap Ac31 (own_ix ho 5)) hZ (hw _ (List.mem_of_getElem? (i := 25) rfl)) (hw _ (List.mem_of_getElem? (i := 21) rfl)) (by decide) (by decide)) (g := (mkF m 535 #[.val (.int p0), .val (.int p1), .val (.int p2), .val (.int (1 : Int32)), .val (.int xx), .val (.int oo), .val (.int ss), .val (.ref b1), .val (.ref w_LEGACY), .val (.int le31), .val (.long v209d7_s0), .second, .val (.long v231d7_s0), .second, .val (.int v396d7_s0), .val (.int ((gg31 oo.toNatClampNeg) &&& (255 : Int32))), .val (.int v435d7_s0), .val (.int v456d7_s0), .unset, .unset, .unset] [(.int (5 : Int32)), (.int le31), (.int oo), (.ref b1)])) rfl (by rw [hml]; rfl) (argsL := [(.ref b1), (.int oo), (.int le31), (.int (5 : Int32))]) (rest := []) (lenOf pd_4 rfl) rfl (by show 2 * 0 + _ ≤ _; exact Nat.le_of_eq rfl) (hb hby at_535) (fun _ _ => ⟨rfl, e47, (by decide : ((0 + 1) + 0) + 0 ≤ _), (by decide : ((0 + 9) + 0) + 0 ≤ _)⟩)
                                    dsimp only [Pt.U, Pt.locs, Pt.cells, Pt.slots] at X48 l48 y48 z48 st48 hQ48
                                    subst l48 y48 z48
                                    obtain ⟨rfl, rfl, e48⟩ := hQ48
                                    try rw [List.append_nil] at X48
                                    refine Go.step (g' := (mkF m 538 #[.val (.int p0), .val (.int p1), .val (.int p2), .val (.int (1 : Int32)), .val (.int xx), .val (.int oo), .val (.int ss), .val (.ref b1), .val (.ref w_LEGACY), .val (.int le31), .val (.long v209d7_s0), .second, .val (.long v231d7_s0), .second, .val (.int v396d7_s0), .val (.int ((gg31 oo.toNatClampNeg) &&& (255 : Int32))), .val (.int v435d7_s0), .val (.int v456d7_s0), .unset, .unset, .unset] [(.int (f4_0 oo le31 (5 : Int32) gg31))])) st48 ?_
                                    by_cases hc538d7 : (f4_0 oo le31 (5 : Int32) gg31) = (0 : Int32)
                                    · rw [show (f0_528d7 xx oo le31 gg31 v435d7_s0) = (f0_545d7 xx oo le31 gg31 v435d7_s0) from if_pos hc538d7]
                                      refine Go.step (g' := (mkF m 545 #[.val (.int p0), .val (.int p1), .val (.int p2), .val (.int (1 : Int32)), .val (.int xx), .val (.int oo), .val (.int ss), .val (.ref b1), .val (.ref w_LEGACY), .val (.int le31), .val (.long v209d7_s0), .second, .val (.long v231d7_s0), .second, .val (.int v396d7_s0), .val (.int ((gg31 oo.toNatClampNeg) &&& (255 : Int32))), .val (.int v435d7_s0), .val (.int v456d7_s0), .unset, .unset, .unset] [])) (fun _ k => XS.ifYes X48.here hx rfl (pc0 := 538) (pc' := 545) rfl (hb hby at_538) rfl ((if0 _ _).trans (teq hc538d7).1) (by decide) (by decide) k) ?_
                                      exact t545d7 T48 X48 e48
                                    · rw [show (f0_528d7 xx oo le31 gg31 v435d7_s0) = (f0_541d7 xx oo le31 gg31 v435d7_s0) from if_neg hc538d7]
                                      refine Go.step (g' := (mkF m 541 #[.val (.int p0), .val (.int p1), .val (.int p2), .val (.int (1 : Int32)), .val (.int xx), .val (.int oo), .val (.int ss), .val (.ref b1), .val (.ref w_LEGACY), .val (.int le31), .val (.long v209d7_s0), .second, .val (.long v231d7_s0), .second, .val (.int v396d7_s0), .val (.int ((gg31 oo.toNatClampNeg) &&& (255 : Int32))), .val (.int v435d7_s0), .val (.int v456d7_s0), .unset, .unset, .unset] [])) (fun _ k => XS.ifNo X48.here hx rfl (hb hby at_538) rfl ((if0 _ _).trans (feq hc538d7).1) k) ?_
                                      refine Go.step (g' := (mkF m 542 #[.val (.int p0), .val (.int p1), .val (.int p2), .val (.int (1 : Int32)), .val (.int xx), .val (.int oo), .val (.int ss), .val (.ref b1), .val (.ref w_LEGACY), .val (.int le31), .val (.long v209d7_s0), .second, .val (.long v231d7_s0), .second, .val (.int v396d7_s0), .val (.int ((gg31 oo.toNatClampNeg) &&& (255 : Int32))), .val (.int v435d7_s0), .val (.int v456d7_s0), .unset, .unset, .unset] [(.int (1 : Int32))])) (fun _ k => XS.iconst X48.here hx rfl (hb hby at_541) k) ?_
                                      refine Go.step (g' := (mkF m 546 #[.val (.int p0), .val (.int p1), .val (.int p2), .val (.int (1 : Int32)), .val (.int xx), .val (.int oo), .val (.int ss), .val (.ref b1), .val (.ref w_LEGACY), .val (.int le31), .val (.long v209d7_s0), .second, .val (.long v231d7_s0), .second, .val (.int v396d7_s0), .val (.int ((gg31 oo.toNatClampNeg) &&& (255 : Int32))), .val (.int v435d7_s0), .val (.int v456d7_s0), .unset, .unset, .unset] [(.int (1 : Int32))])) (fun _ k => XS.goto X48.here hx rfl (pc0 := 542) (pc' := 546) rfl (hb hby at_542) (by decide) (by decide) k) ?_
                                      rw [show (f0_541d7 xx oo le31 gg31 v435d7_s0) = (f0_546d7 xx oo le31 gg31 v435d7_s0 (1 : Int32)) from rfl]
                                      exact t546d7 T48 X48 e48 (1 : Int32)
                          · rw [show (f0_456d7 xx oo le31 gg31 v435d7_s0 v456d7_s0) = f0_474d7 from if_neg hc471d7]
                            refine Go.step (g' := (mkF m 474 #[.val (.int p0), .val (.int p1), .val (.int p2), .val (.int (1 : Int32)), .val (.int xx), .val (.int oo), .val (.int ss), .val (.ref b1), .val (.ref w_LEGACY), .val (.int le31), .val (.long v209d7_s0), .second, .val (.long v231d7_s0), .second, .val (.int v396d7_s0), .val (.int ((gg31 oo.toNatClampNeg) &&& (255 : Int32))), .val (.int v435d7_s0), .val (.int v456d7_s0), .unset, .unset, .unset] [])) (fun _ k => XS.icmpNo X_396d7.here hx rfl (hb hby at_471) rfl (feq hc471d7).1 k) ?_
                            refine Go.step (g' := (mkF m 475 #[.val (.int p0), .val (.int p1), .val (.int p2), .val (.int (1 : Int32)), .val (.int xx), .val (.int oo), .val (.int ss), .val (.ref b1), .val (.ref w_LEGACY), .val (.int le31), .val (.long v209d7_s0), .second, .val (.long v231d7_s0), .second, .val (.int v396d7_s0), .val (.int ((gg31 oo.toNatClampNeg) &&& (255 : Int32))), .val (.int v435d7_s0), .val (.int v456d7_s0), .unset, .unset, .unset] [(.int (0 : Int32))])) (fun _ k => XS.iconst X_396d7.here hx rfl (hb hby at_474) k) ?_
                            exact Go.retN X_396d7 hx hlk (t := .boolean) Bd.returns (by simp) (hb hby at_475) (by decide) (by decide) ⟨rfl, N31⟩
                        by_cases hc440d7 : le31 = (1 : Int32)
                        · rw [show (f0_435d7 xx oo le31 gg31 v435d7_s0) = (f0_443d7 xx oo le31 gg31 v435d7_s0) from if_pos hc440d7]
                          refine Go.step (g' := (mkF m 443 #[.val (.int p0), .val (.int p1), .val (.int p2), .val (.int (1 : Int32)), .val (.int xx), .val (.int oo), .val (.int ss), .val (.ref b1), .val (.ref w_LEGACY), .val (.int le31), .val (.long v209d7_s0), .second, .val (.long v231d7_s0), .second, .val (.int v396d7_s0), .val (.int ((gg31 oo.toNatClampNeg) &&& (255 : Int32))), .val (.int v435d7_s0), .unset, .unset, .unset, .unset] [])) (fun _ k => XS.icmpNo X_396d7.here hx rfl (hb hby at_440) rfl (teq hc440d7).2 k) ?_
                          refine Go.step (g' := (mkF m 444 #[.val (.int p0), .val (.int p1), .val (.int p2), .val (.int (1 : Int32)), .val (.int xx), .val (.int oo), .val (.int ss), .val (.ref b1), .val (.ref w_LEGACY), .val (.int le31), .val (.long v209d7_s0), .second, .val (.long v231d7_s0), .second, .val (.int v396d7_s0), .val (.int ((gg31 oo.toNatClampNeg) &&& (255 : Int32))), .val (.int v435d7_s0), .unset, .unset, .unset, .unset] [(.int (0 : Int32))])) (fun _ k => XS.iconst X_396d7.here hx rfl (hb hby at_443) k) ?_
                          refine Go.step (g' := (mkF m 456 #[.val (.int p0), .val (.int p1), .val (.int p2), .val (.int (1 : Int32)), .val (.int xx), .val (.int oo), .val (.int ss), .val (.ref b1), .val (.ref w_LEGACY), .val (.int le31), .val (.long v209d7_s0), .second, .val (.long v231d7_s0), .second, .val (.int v396d7_s0), .val (.int ((gg31 oo.toNatClampNeg) &&& (255 : Int32))), .val (.int v435d7_s0), .unset, .unset, .unset, .unset] [(.int (0 : Int32))])) (fun _ k => XS.goto X_396d7.here hx rfl (pc0 := 444) (pc' := 456) rfl (hb hby at_444) (by decide) (by decide) k) ?_
                          rw [show (f0_443d7 xx oo le31 gg31 v435d7_s0) = (f0_456d7 xx oo le31 gg31 v435d7_s0 (0 : Int32)) from rfl]
                          exact t456d7 (0 : Int32)
                        · rw [show (f0_435d7 xx oo le31 gg31 v435d7_s0) = (f0_447d7 xx oo le31 gg31 v435d7_s0) from if_neg hc440d7]
                          refine Go.step (g' := (mkF m 447 #[.val (.int p0), .val (.int p1), .val (.int p2), .val (.int (1 : Int32)), .val (.int xx), .val (.int oo), .val (.int ss), .val (.ref b1), .val (.ref w_LEGACY), .val (.int le31), .val (.long v209d7_s0), .second, .val (.long v231d7_s0), .second, .val (.int v396d7_s0), .val (.int ((gg31 oo.toNatClampNeg) &&& (255 : Int32))), .val (.int v435d7_s0), .unset, .unset, .unset, .unset] [])) (fun _ k => XS.icmpYes X_396d7.here hx rfl (pc0 := 440) (pc' := 447) rfl (hb hby at_440) rfl (feq hc440d7).2 (by decide) (by decide) k) ?_
                          refine Go.step (g' := (mkF m 449 #[.val (.int p0), .val (.int p1), .val (.int p2), .val (.int (1 : Int32)), .val (.int xx), .val (.int oo), .val (.int ss), .val (.ref b1), .val (.ref w_LEGACY), .val (.int le31), .val (.long v209d7_s0), .second, .val (.long v231d7_s0), .second, .val (.int v396d7_s0), .val (.int ((gg31 oo.toNatClampNeg) &&& (255 : Int32))), .val (.int v435d7_s0), .unset, .unset, .unset, .unset] [(.int (65280 : Int32))])) (fun _ k => X_396d7.ldcI hx hown (mvT hZ (hw _ (List.mem_of_getElem? (i := 32) rfl))) rfl (hb hby at_447) k) ?_
                          refine Go.step (g' := (mkF m 451 #[.val (.int p0), .val (.int p1), .val (.int p2), .val (.int (1 : Int32)), .val (.int xx), .val (.int oo), .val (.int ss), .val (.ref b1), .val (.ref w_LEGACY), .val (.int le31), .val (.long v209d7_s0), .second, .val (.long v231d7_s0), .second, .val (.int v396d7_s0), .val (.int ((gg31 oo.toNatClampNeg) &&& (255 : Int32))), .val (.int v435d7_s0), .unset, .unset, .unset, .unset] [(.int le31), (.int (65280 : Int32))])) (fun _ k => XS.iload X_396d7.here hx rfl (hb hby at_449) rfl  k) ?_
                          refine Go.step (g' := (mkF m 452 #[.val (.int p0), .val (.int p1), .val (.int p2), .val (.int (1 : Int32)), .val (.int xx), .val (.int oo), .val (.int ss), .val (.ref b1), .val (.ref w_LEGACY), .val (.int le31), .val (.long v209d7_s0), .second, .val (.long v231d7_s0), .second, .val (.int v396d7_s0), .val (.int ((gg31 oo.toNatClampNeg) &&& (255 : Int32))), .val (.int v435d7_s0), .unset, .unset, .unset, .unset] [(.int ((65280 : Int32) >>> (le31 &&& 31)))])) (fun _ k => XS.ishr X_396d7.here hx rfl (hb hby at_451) rfl k) ?_
                          refine Go.step (g' := (mkF m 455 #[.val (.int p0), .val (.int p1), .val (.int p2), .val (.int (1 : Int32)), .val (.int xx), .val (.int oo), .val (.int ss), .val (.ref b1), .val (.ref w_LEGACY), .val (.int le31), .val (.long v209d7_s0), .second, .val (.long v231d7_s0), .second, .val (.int v396d7_s0), .val (.int ((gg31 oo.toNatClampNeg) &&& (255 : Int32))), .val (.int v435d7_s0), .unset, .unset, .unset, .unset] [(.int (255 : Int32)), (.int ((65280 : Int32) >>> (le31 &&& 31)))])) (fun _ k => XS.sipush X_396d7.here hx rfl (hb hby at_452) k) ?_
                          refine Go.step (g' := (mkF m 456 #[.val (.int p0), .val (.int p1), .val (.int p2), .val (.int (1 : Int32)), .val (.int xx), .val (.int oo), .val (.int ss), .val (.ref b1), .val (.ref w_LEGACY), .val (.int le31), .val (.long v209d7_s0), .second, .val (.long v231d7_s0), .second, .val (.int v396d7_s0), .val (.int ((gg31 oo.toNatClampNeg) &&& (255 : Int32))), .val (.int v435d7_s0), .unset, .unset, .unset, .unset] [(.int (((65280 : Int32) >>> (le31 &&& 31)) &&& (255 : Int32)))])) (fun _ k => XS.iand X_396d7.here hx rfl (hb hby at_455) rfl k) ?_
                          rw [show (f0_447d7 xx oo le31 gg31 v435d7_s0) = (f0_456d7 xx oo le31 gg31 v435d7_s0 (((65280 : Int32) >>> (le31 &&& 31)) &&& (255 : Int32))) from rfl]
                          exact t456d7 (((65280 : Int32) >>> (le31 &&& 31)) &&& (255 : Int32))
                      by_cases hc419d7 : le31 = (1 : Int32)
                      · rw [show (f0_405d7 xx oo le31 gg31) = (f0_422d7 xx oo le31 gg31) from if_pos hc419d7]
                        refine Go.step (g' := (mkF m 422 #[.val (.int p0), .val (.int p1), .val (.int p2), .val (.int (1 : Int32)), .val (.int xx), .val (.int oo), .val (.int ss), .val (.ref b1), .val (.ref w_LEGACY), .val (.int le31), .val (.long v209d7_s0), .second, .val (.long v231d7_s0), .second, .val (.int v396d7_s0), .val (.int ((gg31 oo.toNatClampNeg) &&& (255 : Int32))), .unset, .unset, .unset, .unset, .unset] [])) (fun _ k => XS.icmpNo X_396d7.here hx rfl (hb hby at_419) rfl (teq hc419d7).2 k) ?_
                        refine Go.step (g' := (mkF m 424 #[.val (.int p0), .val (.int p1), .val (.int p2), .val (.int (1 : Int32)), .val (.int xx), .val (.int oo), .val (.int ss), .val (.ref b1), .val (.ref w_LEGACY), .val (.int le31), .val (.long v209d7_s0), .second, .val (.long v231d7_s0), .second, .val (.int v396d7_s0), .val (.int ((gg31 oo.toNatClampNeg) &&& (255 : Int32))), .unset, .unset, .unset, .unset, .unset] [(.int (127 : Int32))])) (fun _ k => XS.bipush X_396d7.here hx rfl (hb hby at_422) k) ?_
                        refine Go.step (g' := (mkF m 435 #[.val (.int p0), .val (.int p1), .val (.int p2), .val (.int (1 : Int32)), .val (.int xx), .val (.int oo), .val (.int ss), .val (.ref b1), .val (.ref w_LEGACY), .val (.int le31), .val (.long v209d7_s0), .second, .val (.long v231d7_s0), .second, .val (.int v396d7_s0), .val (.int ((gg31 oo.toNatClampNeg) &&& (255 : Int32))), .unset, .unset, .unset, .unset, .unset] [(.int (127 : Int32))])) (fun _ k => XS.goto X_396d7.here hx rfl (pc0 := 424) (pc' := 435) rfl (hb hby at_424) (by decide) (by decide) k) ?_
                        rw [show (f0_422d7 xx oo le31 gg31) = (f0_435d7 xx oo le31 gg31 (127 : Int32)) from rfl]
                        exact t435d7 (127 : Int32)
                      · rw [show (f0_405d7 xx oo le31 gg31) = (f0_427d7 xx oo le31 gg31) from if_neg hc419d7]
                        refine Go.step (g' := (mkF m 427 #[.val (.int p0), .val (.int p1), .val (.int p2), .val (.int (1 : Int32)), .val (.int xx), .val (.int oo), .val (.int ss), .val (.ref b1), .val (.ref w_LEGACY), .val (.int le31), .val (.long v209d7_s0), .second, .val (.long v231d7_s0), .second, .val (.int v396d7_s0), .val (.int ((gg31 oo.toNatClampNeg) &&& (255 : Int32))), .unset, .unset, .unset, .unset, .unset] [])) (fun _ k => XS.icmpYes X_396d7.here hx rfl (pc0 := 419) (pc' := 427) rfl (hb hby at_419) rfl (feq hc419d7).2 (by decide) (by decide) k) ?_
                        refine Go.step (g' := (mkF m 430 #[.val (.int p0), .val (.int p1), .val (.int p2), .val (.int (1 : Int32)), .val (.int xx), .val (.int oo), .val (.int ss), .val (.ref b1), .val (.ref w_LEGACY), .val (.int le31), .val (.long v209d7_s0), .second, .val (.long v231d7_s0), .second, .val (.int v396d7_s0), .val (.int ((gg31 oo.toNatClampNeg) &&& (255 : Int32))), .unset, .unset, .unset, .unset, .unset] [(.int (255 : Int32))])) (fun _ k => XS.sipush X_396d7.here hx rfl (hb hby at_427) k) ?_
                        refine Go.step (g' := (mkF m 432 #[.val (.int p0), .val (.int p1), .val (.int p2), .val (.int (1 : Int32)), .val (.int xx), .val (.int oo), .val (.int ss), .val (.ref b1), .val (.ref w_LEGACY), .val (.int le31), .val (.long v209d7_s0), .second, .val (.long v231d7_s0), .second, .val (.int v396d7_s0), .val (.int ((gg31 oo.toNatClampNeg) &&& (255 : Int32))), .unset, .unset, .unset, .unset, .unset] [(.int le31), (.int (255 : Int32))])) (fun _ k => XS.iload X_396d7.here hx rfl (hb hby at_430) rfl  k) ?_
                        refine Go.step (g' := (mkF m 433 #[.val (.int p0), .val (.int p1), .val (.int p2), .val (.int (1 : Int32)), .val (.int xx), .val (.int oo), .val (.int ss), .val (.ref b1), .val (.ref w_LEGACY), .val (.int le31), .val (.long v209d7_s0), .second, .val (.long v231d7_s0), .second, .val (.int v396d7_s0), .val (.int ((gg31 oo.toNatClampNeg) &&& (255 : Int32))), .unset, .unset, .unset, .unset, .unset] [(.int (1 : Int32)), (.int le31), (.int (255 : Int32))])) (fun _ k => XS.iconst X_396d7.here hx rfl (hb hby at_432) k) ?_
                        refine Go.step (g' := (mkF m 434 #[.val (.int p0), .val (.int p1), .val (.int p2), .val (.int (1 : Int32)), .val (.int xx), .val (.int oo), .val (.int ss), .val (.ref b1), .val (.ref w_LEGACY), .val (.int le31), .val (.long v209d7_s0), .second, .val (.long v231d7_s0), .second, .val (.int v396d7_s0), .val (.int ((gg31 oo.toNatClampNeg) &&& (255 : Int32))), .unset, .unset, .unset, .unset, .unset] [(.int (le31 + (1 : Int32))), (.int (255 : Int32))])) (fun _ k => XS.iadd X_396d7.here hx rfl (hb hby at_433) rfl k) ?_
                        refine Go.step (g' := (mkF m 435 #[.val (.int p0), .val (.int p1), .val (.int p2), .val (.int (1 : Int32)), .val (.int xx), .val (.int oo), .val (.int ss), .val (.ref b1), .val (.ref w_LEGACY), .val (.int le31), .val (.long v209d7_s0), .second, .val (.long v231d7_s0), .second, .val (.int v396d7_s0), .val (.int ((gg31 oo.toNatClampNeg) &&& (255 : Int32))), .unset, .unset, .unset, .unset, .unset] [(.int ((255 : Int32) >>> ((le31 + (1 : Int32)) &&& 31)))])) (fun _ k => XS.ishr X_396d7.here hx rfl (hb hby at_434) rfl k) ?_
                        rw [show (f0_427d7 xx oo le31 gg31) = (f0_435d7 xx oo le31 gg31 ((255 : Int32) >>> ((le31 + (1 : Int32)) &&& 31))) from rfl]
                        exact t435d7 ((255 : Int32) >>> ((le31 + (1 : Int32)) &&& 31))
                  have t395d7 : ∀ (T_395d7 : State) (X_395d7 : Stand p l e room_1 s m #[(.int p0), (.int p1), (.int p2)] below meth c T_395d7 lc31 ((0 + 1) + 0) ((0 + 9) + 0)) (e_395d7 : T_395d7.heap = T31.heap), Go p e below s room_1.cells room_1.slots (LawQ (some (.int (f0_395d7 xx oo le31 gg31))) n0) T_395d7 (mkF m 395 #[.val (.int p0), .val (.int p1), .val (.int p2), .val (.int (1 : Int32)), .val (.int xx), .val (.int oo), .val (.int ss), .val (.ref b1), .val (.ref w_LEGACY), .val (.int le31), .val (.long v209d7_s0), .second, .val (.long v231d7_s0), .second, .unset, .unset, .unset, .unset, .unset, .unset, .unset] []) := by
                    intro T_395d7 X_395d7 e_395d7
                    refine Go.step (g' := (mkF m 396 #[.val (.int p0), .val (.int p1), .val (.int p2), .val (.int (1 : Int32)), .val (.int xx), .val (.int oo), .val (.int ss), .val (.ref b1), .val (.ref w_LEGACY), .val (.int le31), .val (.long v209d7_s0), .second, .val (.long v231d7_s0), .second, .unset, .unset, .unset, .unset, .unset, .unset, .unset] [(.int (0 : Int32))])) (fun _ k => XS.iconst X_395d7.here hx rfl (hb hby at_395) k) ?_
                    rw [show (f0_395d7 xx oo le31 gg31) = (f0_396d7 xx oo le31 gg31 (0 : Int32)) from rfl]
                    exact t396d7 T_395d7 X_395d7 e_395d7 (0 : Int32)
                  by_cases hc265d7 : (f3_0 (0 : Int32) oo le31 ss gg31) = (0 : Int32)
                  · rw [show (f0_253d7 xx oo ss le31 gg31) = (f0_395d7 xx oo le31 gg31) from if_pos hc265d7]
                    refine Go.step (g' := (mkF m 395 #[.val (.int p0), .val (.int p1), .val (.int p2), .val (.int (1 : Int32)), .val (.int xx), .val (.int oo), .val (.int ss), .val (.ref b1), .val (.ref w_LEGACY), .val (.int le31), .val (.long v209d7_s0), .second, .val (.long v231d7_s0), .second, .unset, .unset, .unset, .unset, .unset, .unset, .unset] [])) (fun _ k => XS.ifYes X35.here hx rfl (pc0 := 265) (pc' := 395) rfl (hb hby at_265) rfl ((if0 _ _).trans (teq hc265d7).1) (by decide) (by decide) k) ?_
                    exact t395d7 T35 X35 e35
                  · rw [show (f0_253d7 xx oo ss le31 gg31) = (f0_268d7 xx oo ss le31 gg31) from if_neg hc265d7]
                    refine Go.step (g' := (mkF m 268 #[.val (.int p0), .val (.int p1), .val (.int p2), .val (.int (1 : Int32)), .val (.int xx), .val (.int oo), .val (.int ss), .val (.ref b1), .val (.ref w_LEGACY), .val (.int le31), .val (.long v209d7_s0), .second, .val (.long v231d7_s0), .second, .unset, .unset, .unset, .unset, .unset, .unset, .unset] [])) (fun _ k => XS.ifNo X35.here hx rfl (hb hby at_265) rfl ((if0 _ _).trans (feq hc265d7).1) k) ?_
                    refine Go.step (g' := (mkF m 270 #[.val (.int p0), .val (.int p1), .val (.int p2), .val (.int (1 : Int32)), .val (.int xx), .val (.int oo), .val (.int ss), .val (.ref b1), .val (.ref w_LEGACY), .val (.int le31), .val (.long v209d7_s0), .second, .val (.long v231d7_s0), .second, .unset, .unset, .unset, .unset, .unset, .unset, .unset] [(.ref b1)])) (fun _ k => XS.aload X35.here hx rfl (hb hby at_268) rfl rfl  k) ?_
                    refine Go.step (g' := (mkF m 271 #[.val (.int p0), .val (.int p1), .val (.int p2), .val (.int (1 : Int32)), .val (.int xx), .val (.int oo), .val (.int ss), .val (.ref b1), .val (.ref w_LEGACY), .val (.int le31), .val (.long v209d7_s0), .second, .val (.long v231d7_s0), .second, .unset, .unset, .unset, .unset, .unset, .unset, .unset] [(.int (1 : Int32)), (.ref b1)])) (fun _ k => XS.iconst X35.here hx rfl (hb hby at_270) k) ?_
                    refine Go.step (g' := (mkF m 273 #[.val (.int p0), .val (.int p1), .val (.int p2), .val (.int (1 : Int32)), .val (.int xx), .val (.int oo), .val (.int ss), .val (.ref b1), .val (.ref w_LEGACY), .val (.int le31), .val (.long v209d7_s0), .second, .val (.long v231d7_s0), .second, .unset, .unset, .unset, .unset, .unset, .unset, .unset] [(.int oo), (.int (1 : Int32)), (.ref b1)])) (fun _ k => XS.iload X35.here hx rfl (hb hby at_271) rfl  k) ?_
                    refine Go.step (g' := (mkF m 275 #[.val (.int p0), .val (.int p1), .val (.int p2), .val (.int (1 : Int32)), .val (.int xx), .val (.int oo), .val (.int ss), .val (.ref b1), .val (.ref w_LEGACY), .val (.int le31), .val (.long v209d7_s0), .second, .val (.long v231d7_s0), .second, .unset, .unset, .unset, .unset, .unset, .unset, .unset] [(.int le31), (.int oo), (.int (1 : Int32)), (.ref b1)])) (fun _ k => XS.iload X35.here hx rfl (hb hby at_273) rfl  k) ?_
                    refine Go.step (g' := (mkF m 277 #[.val (.int p0), .val (.int p1), .val (.int p2), .val (.int (1 : Int32)), .val (.int xx), .val (.int oo), .val (.int ss), .val (.ref b1), .val (.ref w_LEGACY), .val (.int le31), .val (.long v209d7_s0), .second, .val (.long v231d7_s0), .second, .unset, .unset, .unset, .unset, .unset, .unset, .unset] [(.int ss), (.int le31), (.int oo), (.int (1 : Int32)), (.ref b1)])) (fun _ k => XS.iload X35.here hx rfl (hb hby at_275) rfl  k) ?_
                    obtain ⟨_, _, ⟨T36, L36, k36, n36⟩, -, X36, ⟨Lc36, hQ36, l36, y36, z36⟩, st36⟩ := Jvm.LawKit.callS X35 hx (y := (⟨"com/example/ucs_to_octets/ucstooctets/Utf8EncodePinLaw", "untouched", "([BIIIB)Z"⟩ : MethodName)) hown (mvT hZ (hw _ (List.mem_of_getElem? (i := 19) rfl))) (mvT hZ (hw _ (List.mem_of_getElem? (i := 20) rfl))) (mvT hZ (hw _ (List.mem_of_getElem? (i := 21) rfl))) (mvT hZ (hw _ (List.mem_of_getElem? (i := 22) rfl))) (by decide) (backOf (W := 0) (rm3 l Z a0 hw [] b1 (1 : Int32) oo le31 ss gg31 T31.heap Ac31 (by decide)) hZ (hw _ (List.mem_of_getElem? (i := 22) rfl)) (hw _ (List.mem_of_getElem? (i := 21) rfl)) (by decide) (by decide)) (g := (mkF m 277 #[.val (.int p0), .val (.int p1), .val (.int p2), .val (.int (1 : Int32)), .val (.int xx), .val (.int oo), .val (.int ss), .val (.ref b1), .val (.ref w_LEGACY), .val (.int le31), .val (.long v209d7_s0), .second, .val (.long v231d7_s0), .second, .unset, .unset, .unset, .unset, .unset, .unset, .unset] [(.int ss), (.int le31), (.int oo), (.int (1 : Int32)), (.ref b1)])) rfl (by rw [hml]; rfl) (argsL := [(.ref b1), (.int (1 : Int32)), (.int oo), (.int le31), (.int ss)]) (rest := []) (lenOf pd_3 rfl) rfl (by show 2 * 0 + _ ≤ _; exact Nat.le_of_eq rfl) (hb hby at_277) (fun _ _ => ⟨rfl, e35, (by decide : ((0 + 1) + 0) + 0 ≤ _), (by decide : ((0 + 9) + 0) + 0 ≤ _)⟩)
                    dsimp only [Pt.U, Pt.locs, Pt.cells, Pt.slots] at X36 l36 y36 z36 st36 hQ36
                    subst l36 y36 z36
                    obtain ⟨rfl, rfl, e36⟩ := hQ36
                    try rw [List.append_nil] at X36
                    refine Go.step (g' := (mkF m 280 #[.val (.int p0), .val (.int p1), .val (.int p2), .val (.int (1 : Int32)), .val (.int xx), .val (.int oo), .val (.int ss), .val (.ref b1), .val (.ref w_LEGACY), .val (.int le31), .val (.long v209d7_s0), .second, .val (.long v231d7_s0), .second, .unset, .unset, .unset, .unset, .unset, .unset, .unset] [(.int (f3_0 (1 : Int32) oo le31 ss gg31))])) st36 ?_
                    by_cases hc280d7 : (f3_0 (1 : Int32) oo le31 ss gg31) = (0 : Int32)
                    · rw [show (f0_268d7 xx oo ss le31 gg31) = (f0_395d7 xx oo le31 gg31) from if_pos hc280d7]
                      refine Go.step (g' := (mkF m 395 #[.val (.int p0), .val (.int p1), .val (.int p2), .val (.int (1 : Int32)), .val (.int xx), .val (.int oo), .val (.int ss), .val (.ref b1), .val (.ref w_LEGACY), .val (.int le31), .val (.long v209d7_s0), .second, .val (.long v231d7_s0), .second, .unset, .unset, .unset, .unset, .unset, .unset, .unset] [])) (fun _ k => XS.ifYes X36.here hx rfl (pc0 := 280) (pc' := 395) rfl (hb hby at_280) rfl ((if0 _ _).trans (teq hc280d7).1) (by decide) (by decide) k) ?_
                      exact t395d7 T36 X36 e36
                    · rw [show (f0_268d7 xx oo ss le31 gg31) = (f0_283d7 xx oo ss le31 gg31) from if_neg hc280d7]
                      refine Go.step (g' := (mkF m 283 #[.val (.int p0), .val (.int p1), .val (.int p2), .val (.int (1 : Int32)), .val (.int xx), .val (.int oo), .val (.int ss), .val (.ref b1), .val (.ref w_LEGACY), .val (.int le31), .val (.long v209d7_s0), .second, .val (.long v231d7_s0), .second, .unset, .unset, .unset, .unset, .unset, .unset, .unset] [])) (fun _ k => XS.ifNo X36.here hx rfl (hb hby at_280) rfl ((if0 _ _).trans (feq hc280d7).1) k) ?_
                      refine Go.step (g' := (mkF m 285 #[.val (.int p0), .val (.int p1), .val (.int p2), .val (.int (1 : Int32)), .val (.int xx), .val (.int oo), .val (.int ss), .val (.ref b1), .val (.ref w_LEGACY), .val (.int le31), .val (.long v209d7_s0), .second, .val (.long v231d7_s0), .second, .unset, .unset, .unset, .unset, .unset, .unset, .unset] [(.ref b1)])) (fun _ k => XS.aload X36.here hx rfl (hb hby at_283) rfl rfl  k) ?_
                      refine Go.step (g' := (mkF m 286 #[.val (.int p0), .val (.int p1), .val (.int p2), .val (.int (1 : Int32)), .val (.int xx), .val (.int oo), .val (.int ss), .val (.ref b1), .val (.ref w_LEGACY), .val (.int le31), .val (.long v209d7_s0), .second, .val (.long v231d7_s0), .second, .unset, .unset, .unset, .unset, .unset, .unset, .unset] [(.int (2 : Int32)), (.ref b1)])) (fun _ k => XS.iconst X36.here hx rfl (hb hby at_285) k) ?_
                      refine Go.step (g' := (mkF m 288 #[.val (.int p0), .val (.int p1), .val (.int p2), .val (.int (1 : Int32)), .val (.int xx), .val (.int oo), .val (.int ss), .val (.ref b1), .val (.ref w_LEGACY), .val (.int le31), .val (.long v209d7_s0), .second, .val (.long v231d7_s0), .second, .unset, .unset, .unset, .unset, .unset, .unset, .unset] [(.int oo), (.int (2 : Int32)), (.ref b1)])) (fun _ k => XS.iload X36.here hx rfl (hb hby at_286) rfl  k) ?_
                      refine Go.step (g' := (mkF m 290 #[.val (.int p0), .val (.int p1), .val (.int p2), .val (.int (1 : Int32)), .val (.int xx), .val (.int oo), .val (.int ss), .val (.ref b1), .val (.ref w_LEGACY), .val (.int le31), .val (.long v209d7_s0), .second, .val (.long v231d7_s0), .second, .unset, .unset, .unset, .unset, .unset, .unset, .unset] [(.int le31), (.int oo), (.int (2 : Int32)), (.ref b1)])) (fun _ k => XS.iload X36.here hx rfl (hb hby at_288) rfl  k) ?_
                      refine Go.step (g' := (mkF m 292 #[.val (.int p0), .val (.int p1), .val (.int p2), .val (.int (1 : Int32)), .val (.int xx), .val (.int oo), .val (.int ss), .val (.ref b1), .val (.ref w_LEGACY), .val (.int le31), .val (.long v209d7_s0), .second, .val (.long v231d7_s0), .second, .unset, .unset, .unset, .unset, .unset, .unset, .unset] [(.int ss), (.int le31), (.int oo), (.int (2 : Int32)), (.ref b1)])) (fun _ k => XS.iload X36.here hx rfl (hb hby at_290) rfl  k) ?_
                      obtain ⟨_, _, ⟨T37, L37, k37, n37⟩, -, X37, ⟨Lc37, hQ37, l37, y37, z37⟩, st37⟩ := Jvm.LawKit.callS X36 hx (y := (⟨"com/example/ucs_to_octets/ucstooctets/Utf8EncodePinLaw", "untouched", "([BIIIB)Z"⟩ : MethodName)) hown (mvT hZ (hw _ (List.mem_of_getElem? (i := 19) rfl))) (mvT hZ (hw _ (List.mem_of_getElem? (i := 20) rfl))) (mvT hZ (hw _ (List.mem_of_getElem? (i := 21) rfl))) (mvT hZ (hw _ (List.mem_of_getElem? (i := 22) rfl))) (by decide) (backOf (W := 0) (rm3 l Z a0 hw [] b1 (2 : Int32) oo le31 ss gg31 T31.heap Ac31 (by decide)) hZ (hw _ (List.mem_of_getElem? (i := 22) rfl)) (hw _ (List.mem_of_getElem? (i := 21) rfl)) (by decide) (by decide)) (g := (mkF m 292 #[.val (.int p0), .val (.int p1), .val (.int p2), .val (.int (1 : Int32)), .val (.int xx), .val (.int oo), .val (.int ss), .val (.ref b1), .val (.ref w_LEGACY), .val (.int le31), .val (.long v209d7_s0), .second, .val (.long v231d7_s0), .second, .unset, .unset, .unset, .unset, .unset, .unset, .unset] [(.int ss), (.int le31), (.int oo), (.int (2 : Int32)), (.ref b1)])) rfl (by rw [hml]; rfl) (argsL := [(.ref b1), (.int (2 : Int32)), (.int oo), (.int le31), (.int ss)]) (rest := []) (lenOf pd_3 rfl) rfl (by show 2 * 0 + _ ≤ _; exact Nat.le_of_eq rfl) (hb hby at_292) (fun _ _ => ⟨rfl, e36, (by decide : ((0 + 1) + 0) + 0 ≤ _), (by decide : ((0 + 9) + 0) + 0 ≤ _)⟩)
                      dsimp only [Pt.U, Pt.locs, Pt.cells, Pt.slots] at X37 l37 y37 z37 st37 hQ37
                      subst l37 y37 z37
                      obtain ⟨rfl, rfl, e37⟩ := hQ37
                      try rw [List.append_nil] at X37
                      refine Go.step (g' := (mkF m 295 #[.val (.int p0), .val (.int p1), .val (.int p2), .val (.int (1 : Int32)), .val (.int xx), .val (.int oo), .val (.int ss), .val (.ref b1), .val (.ref w_LEGACY), .val (.int le31), .val (.long v209d7_s0), .second, .val (.long v231d7_s0), .second, .unset, .unset, .unset, .unset, .unset, .unset, .unset] [(.int (f3_0 (2 : Int32) oo le31 ss gg31))])) st37 ?_
                      by_cases hc295d7 : (f3_0 (2 : Int32) oo le31 ss gg31) = (0 : Int32)
                      · rw [show (f0_283d7 xx oo ss le31 gg31) = (f0_395d7 xx oo le31 gg31) from if_pos hc295d7]
                        refine Go.step (g' := (mkF m 395 #[.val (.int p0), .val (.int p1), .val (.int p2), .val (.int (1 : Int32)), .val (.int xx), .val (.int oo), .val (.int ss), .val (.ref b1), .val (.ref w_LEGACY), .val (.int le31), .val (.long v209d7_s0), .second, .val (.long v231d7_s0), .second, .unset, .unset, .unset, .unset, .unset, .unset, .unset] [])) (fun _ k => XS.ifYes X37.here hx rfl (pc0 := 295) (pc' := 395) rfl (hb hby at_295) rfl ((if0 _ _).trans (teq hc295d7).1) (by decide) (by decide) k) ?_
                        exact t395d7 T37 X37 e37
                      · rw [show (f0_283d7 xx oo ss le31 gg31) = (f0_298d7 xx oo ss le31 gg31) from if_neg hc295d7]
                        refine Go.step (g' := (mkF m 298 #[.val (.int p0), .val (.int p1), .val (.int p2), .val (.int (1 : Int32)), .val (.int xx), .val (.int oo), .val (.int ss), .val (.ref b1), .val (.ref w_LEGACY), .val (.int le31), .val (.long v209d7_s0), .second, .val (.long v231d7_s0), .second, .unset, .unset, .unset, .unset, .unset, .unset, .unset] [])) (fun _ k => XS.ifNo X37.here hx rfl (hb hby at_295) rfl ((if0 _ _).trans (feq hc295d7).1) k) ?_
                        refine Go.step (g' := (mkF m 300 #[.val (.int p0), .val (.int p1), .val (.int p2), .val (.int (1 : Int32)), .val (.int xx), .val (.int oo), .val (.int ss), .val (.ref b1), .val (.ref w_LEGACY), .val (.int le31), .val (.long v209d7_s0), .second, .val (.long v231d7_s0), .second, .unset, .unset, .unset, .unset, .unset, .unset, .unset] [(.ref b1)])) (fun _ k => XS.aload X37.here hx rfl (hb hby at_298) rfl rfl  k) ?_
                        refine Go.step (g' := (mkF m 301 #[.val (.int p0), .val (.int p1), .val (.int p2), .val (.int (1 : Int32)), .val (.int xx), .val (.int oo), .val (.int ss), .val (.ref b1), .val (.ref w_LEGACY), .val (.int le31), .val (.long v209d7_s0), .second, .val (.long v231d7_s0), .second, .unset, .unset, .unset, .unset, .unset, .unset, .unset] [(.int (3 : Int32)), (.ref b1)])) (fun _ k => XS.iconst X37.here hx rfl (hb hby at_300) k) ?_
                        refine Go.step (g' := (mkF m 303 #[.val (.int p0), .val (.int p1), .val (.int p2), .val (.int (1 : Int32)), .val (.int xx), .val (.int oo), .val (.int ss), .val (.ref b1), .val (.ref w_LEGACY), .val (.int le31), .val (.long v209d7_s0), .second, .val (.long v231d7_s0), .second, .unset, .unset, .unset, .unset, .unset, .unset, .unset] [(.int oo), (.int (3 : Int32)), (.ref b1)])) (fun _ k => XS.iload X37.here hx rfl (hb hby at_301) rfl  k) ?_
                        refine Go.step (g' := (mkF m 305 #[.val (.int p0), .val (.int p1), .val (.int p2), .val (.int (1 : Int32)), .val (.int xx), .val (.int oo), .val (.int ss), .val (.ref b1), .val (.ref w_LEGACY), .val (.int le31), .val (.long v209d7_s0), .second, .val (.long v231d7_s0), .second, .unset, .unset, .unset, .unset, .unset, .unset, .unset] [(.int le31), (.int oo), (.int (3 : Int32)), (.ref b1)])) (fun _ k => XS.iload X37.here hx rfl (hb hby at_303) rfl  k) ?_
                        refine Go.step (g' := (mkF m 307 #[.val (.int p0), .val (.int p1), .val (.int p2), .val (.int (1 : Int32)), .val (.int xx), .val (.int oo), .val (.int ss), .val (.ref b1), .val (.ref w_LEGACY), .val (.int le31), .val (.long v209d7_s0), .second, .val (.long v231d7_s0), .second, .unset, .unset, .unset, .unset, .unset, .unset, .unset] [(.int ss), (.int le31), (.int oo), (.int (3 : Int32)), (.ref b1)])) (fun _ k => XS.iload X37.here hx rfl (hb hby at_305) rfl  k) ?_
                        obtain ⟨_, _, ⟨T38, L38, k38, n38⟩, -, X38, ⟨Lc38, hQ38, l38, y38, z38⟩, st38⟩ := Jvm.LawKit.callS X37 hx (y := (⟨"com/example/ucs_to_octets/ucstooctets/Utf8EncodePinLaw", "untouched", "([BIIIB)Z"⟩ : MethodName)) hown (mvT hZ (hw _ (List.mem_of_getElem? (i := 19) rfl))) (mvT hZ (hw _ (List.mem_of_getElem? (i := 20) rfl))) (mvT hZ (hw _ (List.mem_of_getElem? (i := 21) rfl))) (mvT hZ (hw _ (List.mem_of_getElem? (i := 22) rfl))) (by decide) (backOf (W := 0) (rm3 l Z a0 hw [] b1 (3 : Int32) oo le31 ss gg31 T31.heap Ac31 (by decide)) hZ (hw _ (List.mem_of_getElem? (i := 22) rfl)) (hw _ (List.mem_of_getElem? (i := 21) rfl)) (by decide) (by decide)) (g := (mkF m 307 #[.val (.int p0), .val (.int p1), .val (.int p2), .val (.int (1 : Int32)), .val (.int xx), .val (.int oo), .val (.int ss), .val (.ref b1), .val (.ref w_LEGACY), .val (.int le31), .val (.long v209d7_s0), .second, .val (.long v231d7_s0), .second, .unset, .unset, .unset, .unset, .unset, .unset, .unset] [(.int ss), (.int le31), (.int oo), (.int (3 : Int32)), (.ref b1)])) rfl (by rw [hml]; rfl) (argsL := [(.ref b1), (.int (3 : Int32)), (.int oo), (.int le31), (.int ss)]) (rest := []) (lenOf pd_3 rfl) rfl (by show 2 * 0 + _ ≤ _; exact Nat.le_of_eq rfl) (hb hby at_307) (fun _ _ => ⟨rfl, e37, (by decide : ((0 + 1) + 0) + 0 ≤ _), (by decide : ((0 + 9) + 0) + 0 ≤ _)⟩)
                        dsimp only [Pt.U, Pt.locs, Pt.cells, Pt.slots] at X38 l38 y38 z38 st38 hQ38
                        subst l38 y38 z38
                        obtain ⟨rfl, rfl, e38⟩ := hQ38
                        try rw [List.append_nil] at X38
                        refine Go.step (g' := (mkF m 310 #[.val (.int p0), .val (.int p1), .val (.int p2), .val (.int (1 : Int32)), .val (.int xx), .val (.int oo), .val (.int ss), .val (.ref b1), .val (.ref w_LEGACY), .val (.int le31), .val (.long v209d7_s0), .second, .val (.long v231d7_s0), .second, .unset, .unset, .unset, .unset, .unset, .unset, .unset] [(.int (f3_0 (3 : Int32) oo le31 ss gg31))])) st38 ?_
                        by_cases hc310d7 : (f3_0 (3 : Int32) oo le31 ss gg31) = (0 : Int32)
                        · rw [show (f0_298d7 xx oo ss le31 gg31) = (f0_395d7 xx oo le31 gg31) from if_pos hc310d7]
                          refine Go.step (g' := (mkF m 395 #[.val (.int p0), .val (.int p1), .val (.int p2), .val (.int (1 : Int32)), .val (.int xx), .val (.int oo), .val (.int ss), .val (.ref b1), .val (.ref w_LEGACY), .val (.int le31), .val (.long v209d7_s0), .second, .val (.long v231d7_s0), .second, .unset, .unset, .unset, .unset, .unset, .unset, .unset] [])) (fun _ k => XS.ifYes X38.here hx rfl (pc0 := 310) (pc' := 395) rfl (hb hby at_310) rfl ((if0 _ _).trans (teq hc310d7).1) (by decide) (by decide) k) ?_
                          exact t395d7 T38 X38 e38
                        · rw [show (f0_298d7 xx oo ss le31 gg31) = (f0_313d7 xx oo ss le31 gg31) from if_neg hc310d7]
                          refine Go.step (g' := (mkF m 313 #[.val (.int p0), .val (.int p1), .val (.int p2), .val (.int (1 : Int32)), .val (.int xx), .val (.int oo), .val (.int ss), .val (.ref b1), .val (.ref w_LEGACY), .val (.int le31), .val (.long v209d7_s0), .second, .val (.long v231d7_s0), .second, .unset, .unset, .unset, .unset, .unset, .unset, .unset] [])) (fun _ k => XS.ifNo X38.here hx rfl (hb hby at_310) rfl ((if0 _ _).trans (feq hc310d7).1) k) ?_
                          refine Go.step (g' := (mkF m 315 #[.val (.int p0), .val (.int p1), .val (.int p2), .val (.int (1 : Int32)), .val (.int xx), .val (.int oo), .val (.int ss), .val (.ref b1), .val (.ref w_LEGACY), .val (.int le31), .val (.long v209d7_s0), .second, .val (.long v231d7_s0), .second, .unset, .unset, .unset, .unset, .unset, .unset, .unset] [(.ref b1)])) (fun _ k => XS.aload X38.here hx rfl (hb hby at_313) rfl rfl  k) ?_
                          refine Go.step (g' := (mkF m 316 #[.val (.int p0), .val (.int p1), .val (.int p2), .val (.int (1 : Int32)), .val (.int xx), .val (.int oo), .val (.int ss), .val (.ref b1), .val (.ref w_LEGACY), .val (.int le31), .val (.long v209d7_s0), .second, .val (.long v231d7_s0), .second, .unset, .unset, .unset, .unset, .unset, .unset, .unset] [(.int (4 : Int32)), (.ref b1)])) (fun _ k => XS.iconst X38.here hx rfl (hb hby at_315) k) ?_
                          refine Go.step (g' := (mkF m 318 #[.val (.int p0), .val (.int p1), .val (.int p2), .val (.int (1 : Int32)), .val (.int xx), .val (.int oo), .val (.int ss), .val (.ref b1), .val (.ref w_LEGACY), .val (.int le31), .val (.long v209d7_s0), .second, .val (.long v231d7_s0), .second, .unset, .unset, .unset, .unset, .unset, .unset, .unset] [(.int oo), (.int (4 : Int32)), (.ref b1)])) (fun _ k => XS.iload X38.here hx rfl (hb hby at_316) rfl  k) ?_
                          refine Go.step (g' := (mkF m 320 #[.val (.int p0), .val (.int p1), .val (.int p2), .val (.int (1 : Int32)), .val (.int xx), .val (.int oo), .val (.int ss), .val (.ref b1), .val (.ref w_LEGACY), .val (.int le31), .val (.long v209d7_s0), .second, .val (.long v231d7_s0), .second, .unset, .unset, .unset, .unset, .unset, .unset, .unset] [(.int le31), (.int oo), (.int (4 : Int32)), (.ref b1)])) (fun _ k => XS.iload X38.here hx rfl (hb hby at_318) rfl  k) ?_
                          refine Go.step (g' := (mkF m 322 #[.val (.int p0), .val (.int p1), .val (.int p2), .val (.int (1 : Int32)), .val (.int xx), .val (.int oo), .val (.int ss), .val (.ref b1), .val (.ref w_LEGACY), .val (.int le31), .val (.long v209d7_s0), .second, .val (.long v231d7_s0), .second, .unset, .unset, .unset, .unset, .unset, .unset, .unset] [(.int ss), (.int le31), (.int oo), (.int (4 : Int32)), (.ref b1)])) (fun _ k => XS.iload X38.here hx rfl (hb hby at_320) rfl  k) ?_
                          obtain ⟨_, _, ⟨T39, L39, k39, n39⟩, -, X39, ⟨Lc39, hQ39, l39, y39, z39⟩, st39⟩ := Jvm.LawKit.callS X38 hx (y := (⟨"com/example/ucs_to_octets/ucstooctets/Utf8EncodePinLaw", "untouched", "([BIIIB)Z"⟩ : MethodName)) hown (mvT hZ (hw _ (List.mem_of_getElem? (i := 19) rfl))) (mvT hZ (hw _ (List.mem_of_getElem? (i := 20) rfl))) (mvT hZ (hw _ (List.mem_of_getElem? (i := 21) rfl))) (mvT hZ (hw _ (List.mem_of_getElem? (i := 22) rfl))) (by decide) (backOf (W := 0) (rm3 l Z a0 hw [] b1 (4 : Int32) oo le31 ss gg31 T31.heap Ac31 (by decide)) hZ (hw _ (List.mem_of_getElem? (i := 22) rfl)) (hw _ (List.mem_of_getElem? (i := 21) rfl)) (by decide) (by decide)) (g := (mkF m 322 #[.val (.int p0), .val (.int p1), .val (.int p2), .val (.int (1 : Int32)), .val (.int xx), .val (.int oo), .val (.int ss), .val (.ref b1), .val (.ref w_LEGACY), .val (.int le31), .val (.long v209d7_s0), .second, .val (.long v231d7_s0), .second, .unset, .unset, .unset, .unset, .unset, .unset, .unset] [(.int ss), (.int le31), (.int oo), (.int (4 : Int32)), (.ref b1)])) rfl (by rw [hml]; rfl) (argsL := [(.ref b1), (.int (4 : Int32)), (.int oo), (.int le31), (.int ss)]) (rest := []) (lenOf pd_3 rfl) rfl (by show 2 * 0 + _ ≤ _; exact Nat.le_of_eq rfl) (hb hby at_322) (fun _ _ => ⟨rfl, e38, (by decide : ((0 + 1) + 0) + 0 ≤ _), (by decide : ((0 + 9) + 0) + 0 ≤ _)⟩)
                          dsimp only [Pt.U, Pt.locs, Pt.cells, Pt.slots] at X39 l39 y39 z39 st39 hQ39
                          subst l39 y39 z39
                          obtain ⟨rfl, rfl, e39⟩ := hQ39
                          try rw [List.append_nil] at X39
                          refine Go.step (g' := (mkF m 325 #[.val (.int p0), .val (.int p1), .val (.int p2), .val (.int (1 : Int32)), .val (.int xx), .val (.int oo), .val (.int ss), .val (.ref b1), .val (.ref w_LEGACY), .val (.int le31), .val (.long v209d7_s0), .second, .val (.long v231d7_s0), .second, .unset, .unset, .unset, .unset, .unset, .unset, .unset] [(.int (f3_0 (4 : Int32) oo le31 ss gg31))])) st39 ?_
                          by_cases hc325d7 : (f3_0 (4 : Int32) oo le31 ss gg31) = (0 : Int32)
                          · rw [show (f0_313d7 xx oo ss le31 gg31) = (f0_395d7 xx oo le31 gg31) from if_pos hc325d7]
                            refine Go.step (g' := (mkF m 395 #[.val (.int p0), .val (.int p1), .val (.int p2), .val (.int (1 : Int32)), .val (.int xx), .val (.int oo), .val (.int ss), .val (.ref b1), .val (.ref w_LEGACY), .val (.int le31), .val (.long v209d7_s0), .second, .val (.long v231d7_s0), .second, .unset, .unset, .unset, .unset, .unset, .unset, .unset] [])) (fun _ k => XS.ifYes X39.here hx rfl (pc0 := 325) (pc' := 395) rfl (hb hby at_325) rfl ((if0 _ _).trans (teq hc325d7).1) (by decide) (by decide) k) ?_
                            exact t395d7 T39 X39 e39
                          · rw [show (f0_313d7 xx oo ss le31 gg31) = (f0_328d7 xx oo ss le31 gg31) from if_neg hc325d7]
                            refine Go.step (g' := (mkF m 328 #[.val (.int p0), .val (.int p1), .val (.int p2), .val (.int (1 : Int32)), .val (.int xx), .val (.int oo), .val (.int ss), .val (.ref b1), .val (.ref w_LEGACY), .val (.int le31), .val (.long v209d7_s0), .second, .val (.long v231d7_s0), .second, .unset, .unset, .unset, .unset, .unset, .unset, .unset] [])) (fun _ k => XS.ifNo X39.here hx rfl (hb hby at_325) rfl ((if0 _ _).trans (feq hc325d7).1) k) ?_
                            refine Go.step (g' := (mkF m 330 #[.val (.int p0), .val (.int p1), .val (.int p2), .val (.int (1 : Int32)), .val (.int xx), .val (.int oo), .val (.int ss), .val (.ref b1), .val (.ref w_LEGACY), .val (.int le31), .val (.long v209d7_s0), .second, .val (.long v231d7_s0), .second, .unset, .unset, .unset, .unset, .unset, .unset, .unset] [(.ref b1)])) (fun _ k => XS.aload X39.here hx rfl (hb hby at_328) rfl rfl  k) ?_
                            refine Go.step (g' := (mkF m 331 #[.val (.int p0), .val (.int p1), .val (.int p2), .val (.int (1 : Int32)), .val (.int xx), .val (.int oo), .val (.int ss), .val (.ref b1), .val (.ref w_LEGACY), .val (.int le31), .val (.long v209d7_s0), .second, .val (.long v231d7_s0), .second, .unset, .unset, .unset, .unset, .unset, .unset, .unset] [(.int (5 : Int32)), (.ref b1)])) (fun _ k => XS.iconst X39.here hx rfl (hb hby at_330) k) ?_
                            refine Go.step (g' := (mkF m 333 #[.val (.int p0), .val (.int p1), .val (.int p2), .val (.int (1 : Int32)), .val (.int xx), .val (.int oo), .val (.int ss), .val (.ref b1), .val (.ref w_LEGACY), .val (.int le31), .val (.long v209d7_s0), .second, .val (.long v231d7_s0), .second, .unset, .unset, .unset, .unset, .unset, .unset, .unset] [(.int oo), (.int (5 : Int32)), (.ref b1)])) (fun _ k => XS.iload X39.here hx rfl (hb hby at_331) rfl  k) ?_
                            refine Go.step (g' := (mkF m 335 #[.val (.int p0), .val (.int p1), .val (.int p2), .val (.int (1 : Int32)), .val (.int xx), .val (.int oo), .val (.int ss), .val (.ref b1), .val (.ref w_LEGACY), .val (.int le31), .val (.long v209d7_s0), .second, .val (.long v231d7_s0), .second, .unset, .unset, .unset, .unset, .unset, .unset, .unset] [(.int le31), (.int oo), (.int (5 : Int32)), (.ref b1)])) (fun _ k => XS.iload X39.here hx rfl (hb hby at_333) rfl  k) ?_
                            refine Go.step (g' := (mkF m 337 #[.val (.int p0), .val (.int p1), .val (.int p2), .val (.int (1 : Int32)), .val (.int xx), .val (.int oo), .val (.int ss), .val (.ref b1), .val (.ref w_LEGACY), .val (.int le31), .val (.long v209d7_s0), .second, .val (.long v231d7_s0), .second, .unset, .unset, .unset, .unset, .unset, .unset, .unset] [(.int ss), (.int le31), (.int oo), (.int (5 : Int32)), (.ref b1)])) (fun _ k => XS.iload X39.here hx rfl (hb hby at_335) rfl  k) ?_
                            obtain ⟨_, _, ⟨T40, L40, k40, n40⟩, -, X40, ⟨Lc40, hQ40, l40, y40, z40⟩, st40⟩ := Jvm.LawKit.callS X39 hx (y := (⟨"com/example/ucs_to_octets/ucstooctets/Utf8EncodePinLaw", "untouched", "([BIIIB)Z"⟩ : MethodName)) hown (mvT hZ (hw _ (List.mem_of_getElem? (i := 19) rfl))) (mvT hZ (hw _ (List.mem_of_getElem? (i := 20) rfl))) (mvT hZ (hw _ (List.mem_of_getElem? (i := 21) rfl))) (mvT hZ (hw _ (List.mem_of_getElem? (i := 22) rfl))) (by decide) (backOf (W := 0) (rm3 l Z a0 hw [] b1 (5 : Int32) oo le31 ss gg31 T31.heap Ac31 (by decide)) hZ (hw _ (List.mem_of_getElem? (i := 22) rfl)) (hw _ (List.mem_of_getElem? (i := 21) rfl)) (by decide) (by decide)) (g := (mkF m 337 #[.val (.int p0), .val (.int p1), .val (.int p2), .val (.int (1 : Int32)), .val (.int xx), .val (.int oo), .val (.int ss), .val (.ref b1), .val (.ref w_LEGACY), .val (.int le31), .val (.long v209d7_s0), .second, .val (.long v231d7_s0), .second, .unset, .unset, .unset, .unset, .unset, .unset, .unset] [(.int ss), (.int le31), (.int oo), (.int (5 : Int32)), (.ref b1)])) rfl (by rw [hml]; rfl) (argsL := [(.ref b1), (.int (5 : Int32)), (.int oo), (.int le31), (.int ss)]) (rest := []) (lenOf pd_3 rfl) rfl (by show 2 * 0 + _ ≤ _; exact Nat.le_of_eq rfl) (hb hby at_337) (fun _ _ => ⟨rfl, e39, (by decide : ((0 + 1) + 0) + 0 ≤ _), (by decide : ((0 + 9) + 0) + 0 ≤ _)⟩)
                            dsimp only [Pt.U, Pt.locs, Pt.cells, Pt.slots] at X40 l40 y40 z40 st40 hQ40
                            subst l40 y40 z40
                            obtain ⟨rfl, rfl, e40⟩ := hQ40
                            try rw [List.append_nil] at X40
                            refine Go.step (g' := (mkF m 340 #[.val (.int p0), .val (.int p1), .val (.int p2), .val (.int (1 : Int32)), .val (.int xx), .val (.int oo), .val (.int ss), .val (.ref b1), .val (.ref w_LEGACY), .val (.int le31), .val (.long v209d7_s0), .second, .val (.long v231d7_s0), .second, .unset, .unset, .unset, .unset, .unset, .unset, .unset] [(.int (f3_0 (5 : Int32) oo le31 ss gg31))])) st40 ?_
                            by_cases hc340d7 : (f3_0 (5 : Int32) oo le31 ss gg31) = (0 : Int32)
                            · rw [show (f0_328d7 xx oo ss le31 gg31) = (f0_395d7 xx oo le31 gg31) from if_pos hc340d7]
                              refine Go.step (g' := (mkF m 395 #[.val (.int p0), .val (.int p1), .val (.int p2), .val (.int (1 : Int32)), .val (.int xx), .val (.int oo), .val (.int ss), .val (.ref b1), .val (.ref w_LEGACY), .val (.int le31), .val (.long v209d7_s0), .second, .val (.long v231d7_s0), .second, .unset, .unset, .unset, .unset, .unset, .unset, .unset] [])) (fun _ k => XS.ifYes X40.here hx rfl (pc0 := 340) (pc' := 395) rfl (hb hby at_340) rfl ((if0 _ _).trans (teq hc340d7).1) (by decide) (by decide) k) ?_
                              exact t395d7 T40 X40 e40
                            · rw [show (f0_328d7 xx oo ss le31 gg31) = (f0_343d7 xx oo ss le31 gg31) from if_neg hc340d7]
                              refine Go.step (g' := (mkF m 343 #[.val (.int p0), .val (.int p1), .val (.int p2), .val (.int (1 : Int32)), .val (.int xx), .val (.int oo), .val (.int ss), .val (.ref b1), .val (.ref w_LEGACY), .val (.int le31), .val (.long v209d7_s0), .second, .val (.long v231d7_s0), .second, .unset, .unset, .unset, .unset, .unset, .unset, .unset] [])) (fun _ k => XS.ifNo X40.here hx rfl (hb hby at_340) rfl ((if0 _ _).trans (feq hc340d7).1) k) ?_
                              refine Go.step (g' := (mkF m 345 #[.val (.int p0), .val (.int p1), .val (.int p2), .val (.int (1 : Int32)), .val (.int xx), .val (.int oo), .val (.int ss), .val (.ref b1), .val (.ref w_LEGACY), .val (.int le31), .val (.long v209d7_s0), .second, .val (.long v231d7_s0), .second, .unset, .unset, .unset, .unset, .unset, .unset, .unset] [(.ref b1)])) (fun _ k => XS.aload X40.here hx rfl (hb hby at_343) rfl rfl  k) ?_
                              refine Go.step (g' := (mkF m 347 #[.val (.int p0), .val (.int p1), .val (.int p2), .val (.int (1 : Int32)), .val (.int xx), .val (.int oo), .val (.int ss), .val (.ref b1), .val (.ref w_LEGACY), .val (.int le31), .val (.long v209d7_s0), .second, .val (.long v231d7_s0), .second, .unset, .unset, .unset, .unset, .unset, .unset, .unset] [(.int (6 : Int32)), (.ref b1)])) (fun _ k => XS.bipush X40.here hx rfl (hb hby at_345) k) ?_
                              refine Go.step (g' := (mkF m 349 #[.val (.int p0), .val (.int p1), .val (.int p2), .val (.int (1 : Int32)), .val (.int xx), .val (.int oo), .val (.int ss), .val (.ref b1), .val (.ref w_LEGACY), .val (.int le31), .val (.long v209d7_s0), .second, .val (.long v231d7_s0), .second, .unset, .unset, .unset, .unset, .unset, .unset, .unset] [(.int oo), (.int (6 : Int32)), (.ref b1)])) (fun _ k => XS.iload X40.here hx rfl (hb hby at_347) rfl  k) ?_
                              refine Go.step (g' := (mkF m 351 #[.val (.int p0), .val (.int p1), .val (.int p2), .val (.int (1 : Int32)), .val (.int xx), .val (.int oo), .val (.int ss), .val (.ref b1), .val (.ref w_LEGACY), .val (.int le31), .val (.long v209d7_s0), .second, .val (.long v231d7_s0), .second, .unset, .unset, .unset, .unset, .unset, .unset, .unset] [(.int le31), (.int oo), (.int (6 : Int32)), (.ref b1)])) (fun _ k => XS.iload X40.here hx rfl (hb hby at_349) rfl  k) ?_
                              refine Go.step (g' := (mkF m 353 #[.val (.int p0), .val (.int p1), .val (.int p2), .val (.int (1 : Int32)), .val (.int xx), .val (.int oo), .val (.int ss), .val (.ref b1), .val (.ref w_LEGACY), .val (.int le31), .val (.long v209d7_s0), .second, .val (.long v231d7_s0), .second, .unset, .unset, .unset, .unset, .unset, .unset, .unset] [(.int ss), (.int le31), (.int oo), (.int (6 : Int32)), (.ref b1)])) (fun _ k => XS.iload X40.here hx rfl (hb hby at_351) rfl  k) ?_
                              obtain ⟨_, _, ⟨T41, L41, k41, n41⟩, -, X41, ⟨Lc41, hQ41, l41, y41, z41⟩, st41⟩ := Jvm.LawKit.callS X40 hx (y := (⟨"com/example/ucs_to_octets/ucstooctets/Utf8EncodePinLaw", "untouched", "([BIIIB)Z"⟩ : MethodName)) hown (mvT hZ (hw _ (List.mem_of_getElem? (i := 19) rfl))) (mvT hZ (hw _ (List.mem_of_getElem? (i := 20) rfl))) (mvT hZ (hw _ (List.mem_of_getElem? (i := 21) rfl))) (mvT hZ (hw _ (List.mem_of_getElem? (i := 22) rfl))) (by decide) (backOf (W := 0) (rm3 l Z a0 hw [] b1 (6 : Int32) oo le31 ss gg31 T31.heap Ac31 (by decide)) hZ (hw _ (List.mem_of_getElem? (i := 22) rfl)) (hw _ (List.mem_of_getElem? (i := 21) rfl)) (by decide) (by decide)) (g := (mkF m 353 #[.val (.int p0), .val (.int p1), .val (.int p2), .val (.int (1 : Int32)), .val (.int xx), .val (.int oo), .val (.int ss), .val (.ref b1), .val (.ref w_LEGACY), .val (.int le31), .val (.long v209d7_s0), .second, .val (.long v231d7_s0), .second, .unset, .unset, .unset, .unset, .unset, .unset, .unset] [(.int ss), (.int le31), (.int oo), (.int (6 : Int32)), (.ref b1)])) rfl (by rw [hml]; rfl) (argsL := [(.ref b1), (.int (6 : Int32)), (.int oo), (.int le31), (.int ss)]) (rest := []) (lenOf pd_3 rfl) rfl (by show 2 * 0 + _ ≤ _; exact Nat.le_of_eq rfl) (hb hby at_353) (fun _ _ => ⟨rfl, e40, (by decide : ((0 + 1) + 0) + 0 ≤ _), (by decide : ((0 + 9) + 0) + 0 ≤ _)⟩)
                              dsimp only [Pt.U, Pt.locs, Pt.cells, Pt.slots] at X41 l41 y41 z41 st41 hQ41
                              subst l41 y41 z41
                              obtain ⟨rfl, rfl, e41⟩ := hQ41
                              try rw [List.append_nil] at X41
                              refine Go.step (g' := (mkF m 356 #[.val (.int p0), .val (.int p1), .val (.int p2), .val (.int (1 : Int32)), .val (.int xx), .val (.int oo), .val (.int ss), .val (.ref b1), .val (.ref w_LEGACY), .val (.int le31), .val (.long v209d7_s0), .second, .val (.long v231d7_s0), .second, .unset, .unset, .unset, .unset, .unset, .unset, .unset] [(.int (f3_0 (6 : Int32) oo le31 ss gg31))])) st41 ?_
                              by_cases hc356d7 : (f3_0 (6 : Int32) oo le31 ss gg31) = (0 : Int32)
                              · rw [show (f0_343d7 xx oo ss le31 gg31) = (f0_395d7 xx oo le31 gg31) from if_pos hc356d7]
                                refine Go.step (g' := (mkF m 395 #[.val (.int p0), .val (.int p1), .val (.int p2), .val (.int (1 : Int32)), .val (.int xx), .val (.int oo), .val (.int ss), .val (.ref b1), .val (.ref w_LEGACY), .val (.int le31), .val (.long v209d7_s0), .second, .val (.long v231d7_s0), .second, .unset, .unset, .unset, .unset, .unset, .unset, .unset] [])) (fun _ k => XS.ifYes X41.here hx rfl (pc0 := 356) (pc' := 395) rfl (hb hby at_356) rfl ((if0 _ _).trans (teq hc356d7).1) (by decide) (by decide) k) ?_
                                exact t395d7 T41 X41 e41
                              · rw [show (f0_343d7 xx oo ss le31 gg31) = (f0_359d7 xx oo ss le31 gg31) from if_neg hc356d7]
                                refine Go.step (g' := (mkF m 359 #[.val (.int p0), .val (.int p1), .val (.int p2), .val (.int (1 : Int32)), .val (.int xx), .val (.int oo), .val (.int ss), .val (.ref b1), .val (.ref w_LEGACY), .val (.int le31), .val (.long v209d7_s0), .second, .val (.long v231d7_s0), .second, .unset, .unset, .unset, .unset, .unset, .unset, .unset] [])) (fun _ k => XS.ifNo X41.here hx rfl (hb hby at_356) rfl ((if0 _ _).trans (feq hc356d7).1) k) ?_
                                refine Go.step (g' := (mkF m 361 #[.val (.int p0), .val (.int p1), .val (.int p2), .val (.int (1 : Int32)), .val (.int xx), .val (.int oo), .val (.int ss), .val (.ref b1), .val (.ref w_LEGACY), .val (.int le31), .val (.long v209d7_s0), .second, .val (.long v231d7_s0), .second, .unset, .unset, .unset, .unset, .unset, .unset, .unset] [(.ref b1)])) (fun _ k => XS.aload X41.here hx rfl (hb hby at_359) rfl rfl  k) ?_
                                refine Go.step (g' := (mkF m 363 #[.val (.int p0), .val (.int p1), .val (.int p2), .val (.int (1 : Int32)), .val (.int xx), .val (.int oo), .val (.int ss), .val (.ref b1), .val (.ref w_LEGACY), .val (.int le31), .val (.long v209d7_s0), .second, .val (.long v231d7_s0), .second, .unset, .unset, .unset, .unset, .unset, .unset, .unset] [(.int (7 : Int32)), (.ref b1)])) (fun _ k => XS.bipush X41.here hx rfl (hb hby at_361) k) ?_
                                refine Go.step (g' := (mkF m 365 #[.val (.int p0), .val (.int p1), .val (.int p2), .val (.int (1 : Int32)), .val (.int xx), .val (.int oo), .val (.int ss), .val (.ref b1), .val (.ref w_LEGACY), .val (.int le31), .val (.long v209d7_s0), .second, .val (.long v231d7_s0), .second, .unset, .unset, .unset, .unset, .unset, .unset, .unset] [(.int oo), (.int (7 : Int32)), (.ref b1)])) (fun _ k => XS.iload X41.here hx rfl (hb hby at_363) rfl  k) ?_
                                refine Go.step (g' := (mkF m 367 #[.val (.int p0), .val (.int p1), .val (.int p2), .val (.int (1 : Int32)), .val (.int xx), .val (.int oo), .val (.int ss), .val (.ref b1), .val (.ref w_LEGACY), .val (.int le31), .val (.long v209d7_s0), .second, .val (.long v231d7_s0), .second, .unset, .unset, .unset, .unset, .unset, .unset, .unset] [(.int le31), (.int oo), (.int (7 : Int32)), (.ref b1)])) (fun _ k => XS.iload X41.here hx rfl (hb hby at_365) rfl  k) ?_
                                refine Go.step (g' := (mkF m 369 #[.val (.int p0), .val (.int p1), .val (.int p2), .val (.int (1 : Int32)), .val (.int xx), .val (.int oo), .val (.int ss), .val (.ref b1), .val (.ref w_LEGACY), .val (.int le31), .val (.long v209d7_s0), .second, .val (.long v231d7_s0), .second, .unset, .unset, .unset, .unset, .unset, .unset, .unset] [(.int ss), (.int le31), (.int oo), (.int (7 : Int32)), (.ref b1)])) (fun _ k => XS.iload X41.here hx rfl (hb hby at_367) rfl  k) ?_
                                obtain ⟨_, _, ⟨T42, L42, k42, n42⟩, -, X42, ⟨Lc42, hQ42, l42, y42, z42⟩, st42⟩ := Jvm.LawKit.callS X41 hx (y := (⟨"com/example/ucs_to_octets/ucstooctets/Utf8EncodePinLaw", "untouched", "([BIIIB)Z"⟩ : MethodName)) hown (mvT hZ (hw _ (List.mem_of_getElem? (i := 19) rfl))) (mvT hZ (hw _ (List.mem_of_getElem? (i := 20) rfl))) (mvT hZ (hw _ (List.mem_of_getElem? (i := 21) rfl))) (mvT hZ (hw _ (List.mem_of_getElem? (i := 22) rfl))) (by decide) (backOf (W := 0) (rm3 l Z a0 hw [] b1 (7 : Int32) oo le31 ss gg31 T31.heap Ac31 (by decide)) hZ (hw _ (List.mem_of_getElem? (i := 22) rfl)) (hw _ (List.mem_of_getElem? (i := 21) rfl)) (by decide) (by decide)) (g := (mkF m 369 #[.val (.int p0), .val (.int p1), .val (.int p2), .val (.int (1 : Int32)), .val (.int xx), .val (.int oo), .val (.int ss), .val (.ref b1), .val (.ref w_LEGACY), .val (.int le31), .val (.long v209d7_s0), .second, .val (.long v231d7_s0), .second, .unset, .unset, .unset, .unset, .unset, .unset, .unset] [(.int ss), (.int le31), (.int oo), (.int (7 : Int32)), (.ref b1)])) rfl (by rw [hml]; rfl) (argsL := [(.ref b1), (.int (7 : Int32)), (.int oo), (.int le31), (.int ss)]) (rest := []) (lenOf pd_3 rfl) rfl (by show 2 * 0 + _ ≤ _; exact Nat.le_of_eq rfl) (hb hby at_369) (fun _ _ => ⟨rfl, e41, (by decide : ((0 + 1) + 0) + 0 ≤ _), (by decide : ((0 + 9) + 0) + 0 ≤ _)⟩)
                                dsimp only [Pt.U, Pt.locs, Pt.cells, Pt.slots] at X42 l42 y42 z42 st42 hQ42
                                subst l42 y42 z42
                                obtain ⟨rfl, rfl, e42⟩ := hQ42
                                try rw [List.append_nil] at X42
                                refine Go.step (g' := (mkF m 372 #[.val (.int p0), .val (.int p1), .val (.int p2), .val (.int (1 : Int32)), .val (.int xx), .val (.int oo), .val (.int ss), .val (.ref b1), .val (.ref w_LEGACY), .val (.int le31), .val (.long v209d7_s0), .second, .val (.long v231d7_s0), .second, .unset, .unset, .unset, .unset, .unset, .unset, .unset] [(.int (f3_0 (7 : Int32) oo le31 ss gg31))])) st42 ?_
                                by_cases hc372d7 : (f3_0 (7 : Int32) oo le31 ss gg31) = (0 : Int32)
                                · rw [show (f0_359d7 xx oo ss le31 gg31) = (f0_395d7 xx oo le31 gg31) from if_pos hc372d7]
                                  refine Go.step (g' := (mkF m 395 #[.val (.int p0), .val (.int p1), .val (.int p2), .val (.int (1 : Int32)), .val (.int xx), .val (.int oo), .val (.int ss), .val (.ref b1), .val (.ref w_LEGACY), .val (.int le31), .val (.long v209d7_s0), .second, .val (.long v231d7_s0), .second, .unset, .unset, .unset, .unset, .unset, .unset, .unset] [])) (fun _ k => XS.ifYes X42.here hx rfl (pc0 := 372) (pc' := 395) rfl (hb hby at_372) rfl ((if0 _ _).trans (teq hc372d7).1) (by decide) (by decide) k) ?_
                                  exact t395d7 T42 X42 e42
                                · rw [show (f0_359d7 xx oo ss le31 gg31) = (f0_375d7 xx oo ss le31 gg31) from if_neg hc372d7]
                                  refine Go.step (g' := (mkF m 375 #[.val (.int p0), .val (.int p1), .val (.int p2), .val (.int (1 : Int32)), .val (.int xx), .val (.int oo), .val (.int ss), .val (.ref b1), .val (.ref w_LEGACY), .val (.int le31), .val (.long v209d7_s0), .second, .val (.long v231d7_s0), .second, .unset, .unset, .unset, .unset, .unset, .unset, .unset] [])) (fun _ k => XS.ifNo X42.here hx rfl (hb hby at_372) rfl ((if0 _ _).trans (feq hc372d7).1) k) ?_
                                  refine Go.step (g' := (mkF m 377 #[.val (.int p0), .val (.int p1), .val (.int p2), .val (.int (1 : Int32)), .val (.int xx), .val (.int oo), .val (.int ss), .val (.ref b1), .val (.ref w_LEGACY), .val (.int le31), .val (.long v209d7_s0), .second, .val (.long v231d7_s0), .second, .unset, .unset, .unset, .unset, .unset, .unset, .unset] [(.ref b1)])) (fun _ k => XS.aload X42.here hx rfl (hb hby at_375) rfl rfl  k) ?_
                                  refine Go.step (g' := (mkF m 379 #[.val (.int p0), .val (.int p1), .val (.int p2), .val (.int (1 : Int32)), .val (.int xx), .val (.int oo), .val (.int ss), .val (.ref b1), .val (.ref w_LEGACY), .val (.int le31), .val (.long v209d7_s0), .second, .val (.long v231d7_s0), .second, .unset, .unset, .unset, .unset, .unset, .unset, .unset] [(.int (8 : Int32)), (.ref b1)])) (fun _ k => XS.bipush X42.here hx rfl (hb hby at_377) k) ?_
                                  refine Go.step (g' := (mkF m 381 #[.val (.int p0), .val (.int p1), .val (.int p2), .val (.int (1 : Int32)), .val (.int xx), .val (.int oo), .val (.int ss), .val (.ref b1), .val (.ref w_LEGACY), .val (.int le31), .val (.long v209d7_s0), .second, .val (.long v231d7_s0), .second, .unset, .unset, .unset, .unset, .unset, .unset, .unset] [(.int oo), (.int (8 : Int32)), (.ref b1)])) (fun _ k => XS.iload X42.here hx rfl (hb hby at_379) rfl  k) ?_
                                  refine Go.step (g' := (mkF m 383 #[.val (.int p0), .val (.int p1), .val (.int p2), .val (.int (1 : Int32)), .val (.int xx), .val (.int oo), .val (.int ss), .val (.ref b1), .val (.ref w_LEGACY), .val (.int le31), .val (.long v209d7_s0), .second, .val (.long v231d7_s0), .second, .unset, .unset, .unset, .unset, .unset, .unset, .unset] [(.int le31), (.int oo), (.int (8 : Int32)), (.ref b1)])) (fun _ k => XS.iload X42.here hx rfl (hb hby at_381) rfl  k) ?_
                                  refine Go.step (g' := (mkF m 385 #[.val (.int p0), .val (.int p1), .val (.int p2), .val (.int (1 : Int32)), .val (.int xx), .val (.int oo), .val (.int ss), .val (.ref b1), .val (.ref w_LEGACY), .val (.int le31), .val (.long v209d7_s0), .second, .val (.long v231d7_s0), .second, .unset, .unset, .unset, .unset, .unset, .unset, .unset] [(.int ss), (.int le31), (.int oo), (.int (8 : Int32)), (.ref b1)])) (fun _ k => XS.iload X42.here hx rfl (hb hby at_383) rfl  k) ?_
                                  obtain ⟨_, _, ⟨T43, L43, k43, n43⟩, -, X43, ⟨Lc43, hQ43, l43, y43, z43⟩, st43⟩ := Jvm.LawKit.callS X42 hx (y := (⟨"com/example/ucs_to_octets/ucstooctets/Utf8EncodePinLaw", "untouched", "([BIIIB)Z"⟩ : MethodName)) hown (mvT hZ (hw _ (List.mem_of_getElem? (i := 19) rfl))) (mvT hZ (hw _ (List.mem_of_getElem? (i := 20) rfl))) (mvT hZ (hw _ (List.mem_of_getElem? (i := 21) rfl))) (mvT hZ (hw _ (List.mem_of_getElem? (i := 22) rfl))) (by decide) (backOf (W := 0) (rm3 l Z a0 hw [] b1 (8 : Int32) oo le31 ss gg31 T31.heap Ac31 (by decide)) hZ (hw _ (List.mem_of_getElem? (i := 22) rfl)) (hw _ (List.mem_of_getElem? (i := 21) rfl)) (by decide) (by decide)) (g := (mkF m 385 #[.val (.int p0), .val (.int p1), .val (.int p2), .val (.int (1 : Int32)), .val (.int xx), .val (.int oo), .val (.int ss), .val (.ref b1), .val (.ref w_LEGACY), .val (.int le31), .val (.long v209d7_s0), .second, .val (.long v231d7_s0), .second, .unset, .unset, .unset, .unset, .unset, .unset, .unset] [(.int ss), (.int le31), (.int oo), (.int (8 : Int32)), (.ref b1)])) rfl (by rw [hml]; rfl) (argsL := [(.ref b1), (.int (8 : Int32)), (.int oo), (.int le31), (.int ss)]) (rest := []) (lenOf pd_3 rfl) rfl (by show 2 * 0 + _ ≤ _; exact Nat.le_of_eq rfl) (hb hby at_385) (fun _ _ => ⟨rfl, e42, (by decide : ((0 + 1) + 0) + 0 ≤ _), (by decide : ((0 + 9) + 0) + 0 ≤ _)⟩)
                                  dsimp only [Pt.U, Pt.locs, Pt.cells, Pt.slots] at X43 l43 y43 z43 st43 hQ43
                                  subst l43 y43 z43
                                  obtain ⟨rfl, rfl, e43⟩ := hQ43
                                  try rw [List.append_nil] at X43
                                  refine Go.step (g' := (mkF m 388 #[.val (.int p0), .val (.int p1), .val (.int p2), .val (.int (1 : Int32)), .val (.int xx), .val (.int oo), .val (.int ss), .val (.ref b1), .val (.ref w_LEGACY), .val (.int le31), .val (.long v209d7_s0), .second, .val (.long v231d7_s0), .second, .unset, .unset, .unset, .unset, .unset, .unset, .unset] [(.int (f3_0 (8 : Int32) oo le31 ss gg31))])) st43 ?_
                                  by_cases hc388d7 : (f3_0 (8 : Int32) oo le31 ss gg31) = (0 : Int32)
                                  · rw [show (f0_375d7 xx oo ss le31 gg31) = (f0_395d7 xx oo le31 gg31) from if_pos hc388d7]
                                    refine Go.step (g' := (mkF m 395 #[.val (.int p0), .val (.int p1), .val (.int p2), .val (.int (1 : Int32)), .val (.int xx), .val (.int oo), .val (.int ss), .val (.ref b1), .val (.ref w_LEGACY), .val (.int le31), .val (.long v209d7_s0), .second, .val (.long v231d7_s0), .second, .unset, .unset, .unset, .unset, .unset, .unset, .unset] [])) (fun _ k => XS.ifYes X43.here hx rfl (pc0 := 388) (pc' := 395) rfl (hb hby at_388) rfl ((if0 _ _).trans (teq hc388d7).1) (by decide) (by decide) k) ?_
                                    exact t395d7 T43 X43 e43
                                  · rw [show (f0_375d7 xx oo ss le31 gg31) = (f0_391d7 xx oo le31 gg31) from if_neg hc388d7]
                                    refine Go.step (g' := (mkF m 391 #[.val (.int p0), .val (.int p1), .val (.int p2), .val (.int (1 : Int32)), .val (.int xx), .val (.int oo), .val (.int ss), .val (.ref b1), .val (.ref w_LEGACY), .val (.int le31), .val (.long v209d7_s0), .second, .val (.long v231d7_s0), .second, .unset, .unset, .unset, .unset, .unset, .unset, .unset] [])) (fun _ k => XS.ifNo X43.here hx rfl (hb hby at_388) rfl ((if0 _ _).trans (feq hc388d7).1) k) ?_
                                    refine Go.step (g' := (mkF m 392 #[.val (.int p0), .val (.int p1), .val (.int p2), .val (.int (1 : Int32)), .val (.int xx), .val (.int oo), .val (.int ss), .val (.ref b1), .val (.ref w_LEGACY), .val (.int le31), .val (.long v209d7_s0), .second, .val (.long v231d7_s0), .second, .unset, .unset, .unset, .unset, .unset, .unset, .unset] [(.int (1 : Int32))])) (fun _ k => XS.iconst X43.here hx rfl (hb hby at_391) k) ?_
                                    refine Go.step (g' := (mkF m 396 #[.val (.int p0), .val (.int p1), .val (.int p2), .val (.int (1 : Int32)), .val (.int xx), .val (.int oo), .val (.int ss), .val (.ref b1), .val (.ref w_LEGACY), .val (.int le31), .val (.long v209d7_s0), .second, .val (.long v231d7_s0), .second, .unset, .unset, .unset, .unset, .unset, .unset, .unset] [(.int (1 : Int32))])) (fun _ k => XS.goto X43.here hx rfl (pc0 := 392) (pc' := 396) rfl (hb hby at_392) (by decide) (by decide) k) ?_
                                    rw [show (f0_391d7 xx oo le31 gg31) = (f0_396d7 xx oo le31 gg31 (1 : Int32)) from rfl]
                                    exact t396d7 T43 X43 e43 (1 : Int32)
                · rw [show (f0_242d7 xx oo ss le31 gg31 v231d7_s0) = f0_251d7 from if_neg hc248d7]
                  refine Go.step (g' := (mkF m 251 #[.val (.int p0), .val (.int p1), .val (.int p2), .val (.int (1 : Int32)), .val (.int xx), .val (.int oo), .val (.int ss), .val (.ref b1), .val (.ref w_LEGACY), .val (.int le31), .val (.long v209d7_s0), .second, .val (.long v231d7_s0), .second, .unset, .unset, .unset, .unset, .unset, .unset, .unset] [])) (fun _ k => XS.ifNo X31.here hx rfl (hb hby at_248) rfl ((if0 _ _).trans (flt hc248d7).1) k) ?_
                  exact t251d7 
            by_cases hc214d7 : le31 = (1 : Int32)
            · rw [show (f0_209d7 xx oo ss le31 gg31 v209d7_s0) = (f0_217d7 xx oo ss le31 gg31 v209d7_s0) from if_pos hc214d7]
              refine Go.step (g' := (mkF m 217 #[.val (.int p0), .val (.int p1), .val (.int p2), .val (.int (1 : Int32)), .val (.int xx), .val (.int oo), .val (.int ss), .val (.ref b1), .val (.ref w_LEGACY), .val (.int le31), .val (.long v209d7_s0), .second, .unset, .unset, .unset, .unset, .unset, .unset, .unset, .unset, .unset] [])) (fun _ k => XS.icmpNo X31.here hx rfl (hb hby at_214) rfl (teq hc214d7).2 k) ?_
              refine Go.step (g' := (mkF m 220 #[.val (.int p0), .val (.int p1), .val (.int p2), .val (.int (1 : Int32)), .val (.int xx), .val (.int oo), .val (.int ss), .val (.ref b1), .val (.ref w_LEGACY), .val (.int le31), .val (.long v209d7_s0), .second, .unset, .unset, .unset, .unset, .unset, .unset, .unset, .unset, .unset] [(.long (128 : Int64))])) (fun _ k => X31.ldc2J hx hown (mvT hZ (hw _ (List.mem_of_getElem? (i := 18) rfl))) rfl (hb hby at_217) k) ?_
              refine Go.step (g' := (mkF m 231 #[.val (.int p0), .val (.int p1), .val (.int p2), .val (.int (1 : Int32)), .val (.int xx), .val (.int oo), .val (.int ss), .val (.ref b1), .val (.ref w_LEGACY), .val (.int le31), .val (.long v209d7_s0), .second, .unset, .unset, .unset, .unset, .unset, .unset, .unset, .unset, .unset] [(.long (128 : Int64))])) (fun _ k => XS.goto X31.here hx rfl (pc0 := 220) (pc' := 231) rfl (hb hby at_220) (by decide) (by decide) k) ?_
              rw [show (f0_217d7 xx oo ss le31 gg31 v209d7_s0) = (f0_231d7 xx oo ss le31 gg31 v209d7_s0 (128 : Int64)) from rfl]
              exact t231d7 (128 : Int64)
            · rw [show (f0_209d7 xx oo ss le31 gg31 v209d7_s0) = (f0_223d7 xx oo ss le31 gg31 v209d7_s0) from if_neg hc214d7]
              refine Go.step (g' := (mkF m 223 #[.val (.int p0), .val (.int p1), .val (.int p2), .val (.int (1 : Int32)), .val (.int xx), .val (.int oo), .val (.int ss), .val (.ref b1), .val (.ref w_LEGACY), .val (.int le31), .val (.long v209d7_s0), .second, .unset, .unset, .unset, .unset, .unset, .unset, .unset, .unset, .unset] [])) (fun _ k => XS.icmpYes X31.here hx rfl (pc0 := 214) (pc' := 223) rfl (hb hby at_214) rfl (feq hc214d7).2 (by decide) (by decide) k) ?_
              refine Go.step (g' := (mkF m 224 #[.val (.int p0), .val (.int p1), .val (.int p2), .val (.int (1 : Int32)), .val (.int xx), .val (.int oo), .val (.int ss), .val (.ref b1), .val (.ref w_LEGACY), .val (.int le31), .val (.long v209d7_s0), .second, .unset, .unset, .unset, .unset, .unset, .unset, .unset, .unset, .unset] [(.long (1 : Int64))])) (fun _ k => XS.lconst X31.here hx rfl (hb hby at_223) k) ?_
              refine Go.step (g' := (mkF m 225 #[.val (.int p0), .val (.int p1), .val (.int p2), .val (.int (1 : Int32)), .val (.int xx), .val (.int oo), .val (.int ss), .val (.ref b1), .val (.ref w_LEGACY), .val (.int le31), .val (.long v209d7_s0), .second, .unset, .unset, .unset, .unset, .unset, .unset, .unset, .unset, .unset] [(.int (5 : Int32)), (.long (1 : Int64))])) (fun _ k => XS.iconst X31.here hx rfl (hb hby at_224) k) ?_
              refine Go.step (g' := (mkF m 227 #[.val (.int p0), .val (.int p1), .val (.int p2), .val (.int (1 : Int32)), .val (.int xx), .val (.int oo), .val (.int ss), .val (.ref b1), .val (.ref w_LEGACY), .val (.int le31), .val (.long v209d7_s0), .second, .unset, .unset, .unset, .unset, .unset, .unset, .unset, .unset, .unset] [(.int le31), (.int (5 : Int32)), (.long (1 : Int64))])) (fun _ k => XS.iload X31.here hx rfl (hb hby at_225) rfl  k) ?_
              refine Go.step (g' := (mkF m 228 #[.val (.int p0), .val (.int p1), .val (.int p2), .val (.int (1 : Int32)), .val (.int xx), .val (.int oo), .val (.int ss), .val (.ref b1), .val (.ref w_LEGACY), .val (.int le31), .val (.long v209d7_s0), .second, .unset, .unset, .unset, .unset, .unset, .unset, .unset, .unset, .unset] [(.int ((5 : Int32) * le31)), (.long (1 : Int64))])) (fun _ k => XS.imul X31.here hx rfl (hb hby at_227) rfl k) ?_
              refine Go.step (g' := (mkF m 229 #[.val (.int p0), .val (.int p1), .val (.int p2), .val (.int (1 : Int32)), .val (.int xx), .val (.int oo), .val (.int ss), .val (.ref b1), .val (.ref w_LEGACY), .val (.int le31), .val (.long v209d7_s0), .second, .unset, .unset, .unset, .unset, .unset, .unset, .unset, .unset, .unset] [(.int (1 : Int32)), (.int ((5 : Int32) * le31)), (.long (1 : Int64))])) (fun _ k => XS.iconst X31.here hx rfl (hb hby at_228) k) ?_
              refine Go.step (g' := (mkF m 230 #[.val (.int p0), .val (.int p1), .val (.int p2), .val (.int (1 : Int32)), .val (.int xx), .val (.int oo), .val (.int ss), .val (.ref b1), .val (.ref w_LEGACY), .val (.int le31), .val (.long v209d7_s0), .second, .unset, .unset, .unset, .unset, .unset, .unset, .unset, .unset, .unset] [(.int (((5 : Int32) * le31) + (1 : Int32))), (.long (1 : Int64))])) (fun _ k => XS.iadd X31.here hx rfl (hb hby at_229) rfl k) ?_
              refine Go.step (g' := (mkF m 231 #[.val (.int p0), .val (.int p1), .val (.int p2), .val (.int (1 : Int32)), .val (.int xx), .val (.int oo), .val (.int ss), .val (.ref b1), .val (.ref w_LEGACY), .val (.int le31), .val (.long v209d7_s0), .second, .unset, .unset, .unset, .unset, .unset, .unset, .unset, .unset, .unset] [(.long ((1 : Int64) <<< ((((5 : Int32) * le31) + (1 : Int32)) &&& 0x3f).toInt64))])) (fun _ k => XS.lshl X31.here hx rfl (hb hby at_230) rfl k) ?_
              rw [show (f0_223d7 xx oo ss le31 gg31 v209d7_s0) = (f0_231d7 xx oo ss le31 gg31 v209d7_s0 ((1 : Int64) <<< ((((5 : Int32) * le31) + (1 : Int32)) &&& 0x3f).toInt64)) from rfl]
              exact t231d7 ((1 : Int64) <<< ((((5 : Int32) * le31) + (1 : Int32)) &&& 0x3f).toInt64)
          by_cases hc180d7 : le31 = (1 : Int32)
          · rw [show (f0_177d7 xx oo ss le31 gg31) = (f0_183d7 xx oo ss le31 gg31) from if_pos hc180d7]
            refine Go.step (g' := (mkF m 183 #[.val (.int p0), .val (.int p1), .val (.int p2), .val (.int (1 : Int32)), .val (.int xx), .val (.int oo), .val (.int ss), .val (.ref b1), .val (.ref w_LEGACY), .val (.int le31), .unset, .unset, .unset, .unset, .unset, .unset, .unset, .unset, .unset, .unset, .unset] [])) (fun _ k => XS.icmpNo X31.here hx rfl (hb hby at_180) rfl (teq hc180d7).2 k) ?_
            refine Go.step (g' := (mkF m 184 #[.val (.int p0), .val (.int p1), .val (.int p2), .val (.int (1 : Int32)), .val (.int xx), .val (.int oo), .val (.int ss), .val (.ref b1), .val (.ref w_LEGACY), .val (.int le31), .unset, .unset, .unset, .unset, .unset, .unset, .unset, .unset, .unset, .unset, .unset] [(.long (0 : Int64))])) (fun _ k => XS.lconst X31.here hx rfl (hb hby at_183) k) ?_
            refine Go.step (g' := (mkF m 209 #[.val (.int p0), .val (.int p1), .val (.int p2), .val (.int (1 : Int32)), .val (.int xx), .val (.int oo), .val (.int ss), .val (.ref b1), .val (.ref w_LEGACY), .val (.int le31), .unset, .unset, .unset, .unset, .unset, .unset, .unset, .unset, .unset, .unset, .unset] [(.long (0 : Int64))])) (fun _ k => XS.goto X31.here hx rfl (pc0 := 184) (pc' := 209) rfl (hb hby at_184) (by decide) (by decide) k) ?_
            rw [show (f0_183d7 xx oo ss le31 gg31) = (f0_209d7 xx oo ss le31 gg31 (0 : Int64)) from rfl]
            exact t209d7 (0 : Int64)
          · rw [show (f0_177d7 xx oo ss le31 gg31) = (f0_187d7 xx oo ss le31 gg31) from if_neg hc180d7]
            refine Go.step (g' := (mkF m 187 #[.val (.int p0), .val (.int p1), .val (.int p2), .val (.int (1 : Int32)), .val (.int xx), .val (.int oo), .val (.int ss), .val (.ref b1), .val (.ref w_LEGACY), .val (.int le31), .unset, .unset, .unset, .unset, .unset, .unset, .unset, .unset, .unset, .unset, .unset] [])) (fun _ k => XS.icmpYes X31.here hx rfl (pc0 := 180) (pc' := 187) rfl (hb hby at_180) rfl (feq hc180d7).2 (by decide) (by decide) k) ?_
            refine Go.step (g' := (mkF m 189 #[.val (.int p0), .val (.int p1), .val (.int p2), .val (.int (1 : Int32)), .val (.int xx), .val (.int oo), .val (.int ss), .val (.ref b1), .val (.ref w_LEGACY), .val (.int le31), .unset, .unset, .unset, .unset, .unset, .unset, .unset, .unset, .unset, .unset, .unset] [(.int le31)])) (fun _ k => XS.iload X31.here hx rfl (hb hby at_187) rfl  k) ?_
            refine Go.step (g' := (mkF m 190 #[.val (.int p0), .val (.int p1), .val (.int p2), .val (.int (1 : Int32)), .val (.int xx), .val (.int oo), .val (.int ss), .val (.ref b1), .val (.ref w_LEGACY), .val (.int le31), .unset, .unset, .unset, .unset, .unset, .unset, .unset, .unset, .unset, .unset, .unset] [(.int (2 : Int32)), (.int le31)])) (fun _ k => XS.iconst X31.here hx rfl (hb hby at_189) k) ?_
            by_cases hc190d7 : le31 = (2 : Int32)
            · rw [show (f0_187d7 xx oo ss le31 gg31) = (f0_193d7 xx oo ss le31 gg31) from if_pos hc190d7]
              refine Go.step (g' := (mkF m 193 #[.val (.int p0), .val (.int p1), .val (.int p2), .val (.int (1 : Int32)), .val (.int xx), .val (.int oo), .val (.int ss), .val (.ref b1), .val (.ref w_LEGACY), .val (.int le31), .unset, .unset, .unset, .unset, .unset, .unset, .unset, .unset, .unset, .unset, .unset] [])) (fun _ k => XS.icmpNo X31.here hx rfl (hb hby at_190) rfl (teq hc190d7).2 k) ?_
              refine Go.step (g' := (mkF m 196 #[.val (.int p0), .val (.int p1), .val (.int p2), .val (.int (1 : Int32)), .val (.int xx), .val (.int oo), .val (.int ss), .val (.ref b1), .val (.ref w_LEGACY), .val (.int le31), .unset, .unset, .unset, .unset, .unset, .unset, .unset, .unset, .unset, .unset, .unset] [(.long (128 : Int64))])) (fun _ k => X31.ldc2J hx hown (mvT hZ (hw _ (List.mem_of_getElem? (i := 18) rfl))) rfl (hb hby at_193) k) ?_
              refine Go.step (g' := (mkF m 209 #[.val (.int p0), .val (.int p1), .val (.int p2), .val (.int (1 : Int32)), .val (.int xx), .val (.int oo), .val (.int ss), .val (.ref b1), .val (.ref w_LEGACY), .val (.int le31), .unset, .unset, .unset, .unset, .unset, .unset, .unset, .unset, .unset, .unset, .unset] [(.long (128 : Int64))])) (fun _ k => XS.goto X31.here hx rfl (pc0 := 196) (pc' := 209) rfl (hb hby at_196) (by decide) (by decide) k) ?_
              rw [show (f0_193d7 xx oo ss le31 gg31) = (f0_209d7 xx oo ss le31 gg31 (128 : Int64)) from rfl]
              exact t209d7 (128 : Int64)
            · rw [show (f0_187d7 xx oo ss le31 gg31) = (f0_199d7 xx oo ss le31 gg31) from if_neg hc190d7]
              refine Go.step (g' := (mkF m 199 #[.val (.int p0), .val (.int p1), .val (.int p2), .val (.int (1 : Int32)), .val (.int xx), .val (.int oo), .val (.int ss), .val (.ref b1), .val (.ref w_LEGACY), .val (.int le31), .unset, .unset, .unset, .unset, .unset, .unset, .unset, .unset, .unset, .unset, .unset] [])) (fun _ k => XS.icmpYes X31.here hx rfl (pc0 := 190) (pc' := 199) rfl (hb hby at_190) rfl (feq hc190d7).2 (by decide) (by decide) k) ?_
              refine Go.step (g' := (mkF m 200 #[.val (.int p0), .val (.int p1), .val (.int p2), .val (.int (1 : Int32)), .val (.int xx), .val (.int oo), .val (.int ss), .val (.ref b1), .val (.ref w_LEGACY), .val (.int le31), .unset, .unset, .unset, .unset, .unset, .unset, .unset, .unset, .unset, .unset, .unset] [(.long (1 : Int64))])) (fun _ k => XS.lconst X31.here hx rfl (hb hby at_199) k) ?_
              refine Go.step (g' := (mkF m 201 #[.val (.int p0), .val (.int p1), .val (.int p2), .val (.int (1 : Int32)), .val (.int xx), .val (.int oo), .val (.int ss), .val (.ref b1), .val (.ref w_LEGACY), .val (.int le31), .unset, .unset, .unset, .unset, .unset, .unset, .unset, .unset, .unset, .unset, .unset] [(.int (5 : Int32)), (.long (1 : Int64))])) (fun _ k => XS.iconst X31.here hx rfl (hb hby at_200) k) ?_
              refine Go.step (g' := (mkF m 203 #[.val (.int p0), .val (.int p1), .val (.int p2), .val (.int (1 : Int32)), .val (.int xx), .val (.int oo), .val (.int ss), .val (.ref b1), .val (.ref w_LEGACY), .val (.int le31), .unset, .unset, .unset, .unset, .unset, .unset, .unset, .unset, .unset, .unset, .unset] [(.int le31), (.int (5 : Int32)), (.long (1 : Int64))])) (fun _ k => XS.iload X31.here hx rfl (hb hby at_201) rfl  k) ?_
              refine Go.step (g' := (mkF m 204 #[.val (.int p0), .val (.int p1), .val (.int p2), .val (.int (1 : Int32)), .val (.int xx), .val (.int oo), .val (.int ss), .val (.ref b1), .val (.ref w_LEGACY), .val (.int le31), .unset, .unset, .unset, .unset, .unset, .unset, .unset, .unset, .unset, .unset, .unset] [(.int (1 : Int32)), (.int le31), (.int (5 : Int32)), (.long (1 : Int64))])) (fun _ k => XS.iconst X31.here hx rfl (hb hby at_203) k) ?_
              refine Go.step (g' := (mkF m 205 #[.val (.int p0), .val (.int p1), .val (.int p2), .val (.int (1 : Int32)), .val (.int xx), .val (.int oo), .val (.int ss), .val (.ref b1), .val (.ref w_LEGACY), .val (.int le31), .unset, .unset, .unset, .unset, .unset, .unset, .unset, .unset, .unset, .unset, .unset] [(.int (le31 - (1 : Int32))), (.int (5 : Int32)), (.long (1 : Int64))])) (fun _ k => XS.isub X31.here hx rfl (hb hby at_204) rfl k) ?_
              refine Go.step (g' := (mkF m 206 #[.val (.int p0), .val (.int p1), .val (.int p2), .val (.int (1 : Int32)), .val (.int xx), .val (.int oo), .val (.int ss), .val (.ref b1), .val (.ref w_LEGACY), .val (.int le31), .unset, .unset, .unset, .unset, .unset, .unset, .unset, .unset, .unset, .unset, .unset] [(.int ((5 : Int32) * (le31 - (1 : Int32)))), (.long (1 : Int64))])) (fun _ k => XS.imul X31.here hx rfl (hb hby at_205) rfl k) ?_
              refine Go.step (g' := (mkF m 207 #[.val (.int p0), .val (.int p1), .val (.int p2), .val (.int (1 : Int32)), .val (.int xx), .val (.int oo), .val (.int ss), .val (.ref b1), .val (.ref w_LEGACY), .val (.int le31), .unset, .unset, .unset, .unset, .unset, .unset, .unset, .unset, .unset, .unset, .unset] [(.int (1 : Int32)), (.int ((5 : Int32) * (le31 - (1 : Int32)))), (.long (1 : Int64))])) (fun _ k => XS.iconst X31.here hx rfl (hb hby at_206) k) ?_
              refine Go.step (g' := (mkF m 208 #[.val (.int p0), .val (.int p1), .val (.int p2), .val (.int (1 : Int32)), .val (.int xx), .val (.int oo), .val (.int ss), .val (.ref b1), .val (.ref w_LEGACY), .val (.int le31), .unset, .unset, .unset, .unset, .unset, .unset, .unset, .unset, .unset, .unset, .unset] [(.int (((5 : Int32) * (le31 - (1 : Int32))) + (1 : Int32))), (.long (1 : Int64))])) (fun _ k => XS.iadd X31.here hx rfl (hb hby at_207) rfl k) ?_
              refine Go.step (g' := (mkF m 209 #[.val (.int p0), .val (.int p1), .val (.int p2), .val (.int (1 : Int32)), .val (.int xx), .val (.int oo), .val (.int ss), .val (.ref b1), .val (.ref w_LEGACY), .val (.int le31), .unset, .unset, .unset, .unset, .unset, .unset, .unset, .unset, .unset, .unset, .unset] [(.long ((1 : Int64) <<< ((((5 : Int32) * (le31 - (1 : Int32))) + (1 : Int32)) &&& 0x3f).toInt64))])) (fun _ k => XS.lshl X31.here hx rfl (hb hby at_208) rfl k) ?_
              rw [show (f0_199d7 xx oo ss le31 gg31) = (f0_209d7 xx oo ss le31 gg31 ((1 : Int64) <<< ((((5 : Int32) * (le31 - (1 : Int32))) + (1 : Int32)) &&& 0x3f).toInt64)) from rfl]
              exact t209d7 ((1 : Int64) <<< ((((5 : Int32) * (le31 - (1 : Int32))) + (1 : Int32)) &&& 0x3f).toInt64)
    by_cases hc36d7 : xx < (55296 : Int32)
    · rw [show (f0_32d7 xx) = f0_48d7 from if_pos hc36d7]
      refine Go.step (g' := (mkF m 48 #[.val (.int p0), .val (.int p1), .val (.int p2), .val (.int (1 : Int32)), .val (.int xx), .unset, .unset, .unset, .unset, .unset, .unset, .unset, .unset, .unset, .unset, .unset, .unset, .unset, .unset, .unset, .unset] [])) (fun _ k => XS.icmpYes X0.here hx rfl (pc0 := 36) (pc' := 48) rfl (hb hby at_36) rfl (tlt hc36d7).1 (by decide) (by decide) k) ?_
      exact t48d7 (by first | exact Or.inl (by assumption) | exact Or.inr (by assumption))
    · rw [show (f0_32d7 xx) = (f0_39d7 xx) from if_neg hc36d7]
      refine Go.step (g' := (mkF m 39 #[.val (.int p0), .val (.int p1), .val (.int p2), .val (.int (1 : Int32)), .val (.int xx), .unset, .unset, .unset, .unset, .unset, .unset, .unset, .unset, .unset, .unset, .unset, .unset, .unset, .unset, .unset, .unset] [])) (fun _ k => XS.icmpNo X0.here hx rfl (hb hby at_36) rfl (flt hc36d7).1 k) ?_
      refine Go.step (g' := (mkF m 41 #[.val (.int p0), .val (.int p1), .val (.int p2), .val (.int (1 : Int32)), .val (.int xx), .unset, .unset, .unset, .unset, .unset, .unset, .unset, .unset, .unset, .unset, .unset, .unset, .unset, .unset, .unset, .unset] [(.int xx)])) (fun _ k => XS.iload X0.here hx rfl (hb hby at_39) rfl  k) ?_
      refine Go.step (g' := (mkF m 43 #[.val (.int p0), .val (.int p1), .val (.int p2), .val (.int (1 : Int32)), .val (.int xx), .unset, .unset, .unset, .unset, .unset, .unset, .unset, .unset, .unset, .unset, .unset, .unset, .unset, .unset, .unset, .unset] [(.int (57343 : Int32)), (.int xx)])) (fun _ k => X0.ldcI hx hown (mvT hZ (hw _ (List.mem_of_getElem? (i := 33) rfl))) rfl (hb hby at_41) k) ?_
      by_cases hc43d7 : (57343 : Int32) < xx
      · rw [show (f0_39d7 xx) = f0_48d7 from if_pos hc43d7]
        refine Go.step (g' := (mkF m 48 #[.val (.int p0), .val (.int p1), .val (.int p2), .val (.int (1 : Int32)), .val (.int xx), .unset, .unset, .unset, .unset, .unset, .unset, .unset, .unset, .unset, .unset, .unset, .unset, .unset, .unset, .unset, .unset] [])) (fun _ k => XS.icmpYes X0.here hx rfl (pc0 := 43) (pc' := 48) rfl (hb hby at_43) rfl (tlt hc43d7).2.2.1 (by decide) (by decide) k) ?_
        exact t48d7 (by first | exact Or.inl (by assumption) | exact Or.inr (by assumption))
      · rw [show (f0_39d7 xx) = f0_46d7 from if_neg hc43d7]
        refine Go.step (g' := (mkF m 46 #[.val (.int p0), .val (.int p1), .val (.int p2), .val (.int (1 : Int32)), .val (.int xx), .unset, .unset, .unset, .unset, .unset, .unset, .unset, .unset, .unset, .unset, .unset, .unset, .unset, .unset, .unset, .unset] [])) (fun _ k => XS.icmpNo X0.here hx rfl (hb hby at_43) rfl (flt hc43d7).2.2.1 k) ?_
        refine Go.step (g' := (mkF m 47 #[.val (.int p0), .val (.int p1), .val (.int p2), .val (.int (1 : Int32)), .val (.int xx), .unset, .unset, .unset, .unset, .unset, .unset, .unset, .unset, .unset, .unset, .unset, .unset, .unset, .unset, .unset, .unset] [(.int (1 : Int32))])) (fun _ k => XS.iconst X0.here hx rfl (hb hby at_46) k) ?_
        exact Go.retN X0 hx hlk (t := .boolean) Bd.returns (by simp) (hb hby at_47) (by decide) (by decide) ⟨rfl, N0⟩
set_option maxRecDepth 65536 in
set_option maxHeartbeats 40000000 in
theorem comes_1 {Post : Tables → Env → Array Value → State → Outcome → State → Prop} (hpost : ∀ tb e args s v u, (limb_1_1.after args s (.returned v) u = true ∧ limb_1_2.after args s (.returned v) u = true) → FrameEnd s (.returned v) u (Jvm.fieldLocs frame_1_writes args s ++ Jvm.arrayLocs frame_1_arrays args s ++ Jvm.staticLocs frame_1_statics s) 16 128 → Post tb e args s (.returned v) u) :
    ArmFor flags0 classFile x code maxLocals ret World_1 tables_1 room_1 Calls_1 rest_1 Pre_1 Post := by
  intro l hfl _ _ p e ha hc hk s m args below hf hA hF happ hP
  obtain ⟨hcalls, hrest, hpre⟩ := hP
  obtain ⟨-, -, -, hnamed, -, -, -, hat⟩ := (Spec.applies_iff hf).mp happ
  obtain ⟨hg, hn⟩ := and_e (Cond.before_iff.mp (show (Jvm.Cond.and given_1 narrow_1).before args s = true from hpre))
  obtain ⟨gc, hg⟩ := and_e hg
  obtain ⟨g0, hg⟩ := and_e hg
  obtain ⟨g1, hg⟩ := and_e hg
  have g2 := hg
  obtain ⟨w0, w1, w2, rfl⟩ : ∃ w0 w1 w2 : Value, args = #[w0, w1, w2] := by
    have hs : args.size = 3 := by simpa [Cond.value, given_1] using gc
    obtain ⟨L⟩ := args
    match L, hs with
    | [w0, w1, w2], _ => exact ⟨w0, w1, w2, rfl⟩
  have hw := fun d (hd : d ∈ tables_1) => atoms_spec (ws := Jvm.Cond.code x code maxLocals ret :: tables_1) hat d (List.mem_cons_of_mem _ hd)
  have hfit : Fit s := fun {y c} hc i hi => by
    obtain ⟨ha, rfl⟩ := Array.getElem?_eq_some_iff.mp hc
    have q := List.all_eq_true.mp ((Array.all_eq_true_iff_forall_mem.mp hF) _ (Array.getElem_mem ha)) i (List.mem_range.mpr hi)
    simpa [Array.getElem?_eq_getElem hi] using q
  obtain ⟨i0, ei0⟩ := is_v g0
  obtain rfl : w0 = (.int i0) := Option.some.inj ei0
  obtain ⟨i1, ei1⟩ := is_v g1
  obtain rfl : w1 = (.int i1) := Option.some.inj ei1
  obtain ⟨i2, ei2⟩ := is_v g2
  obtain rfl : w2 = (.int i2) := Option.some.inj ei2
  obtain ⟨na0, nb0⟩ := and_e hn
  obtain ⟨na1, nb1⟩ := and_e nb0
  obtain ⟨na2, nb2⟩ := and_e nb1
  obtain ⟨w_LEGACY, ev_LEGACY⟩ := exa_v na0
  have E_LEGACY : Exa s s.heap w_LEGACY "com/example/ucs_to_octets/ucstooctets/CodeSpace" := Exa.start ev_LEGACY na0
  have S_LEGACY : Sta s s.heap "com/example/ucs_to_octets/ucstooctets/CodeSpace" "LEGACY" "Lcom/example/ucs_to_octets/ucstooctets/CodeSpace;" (.ref w_LEGACY) := Sta.start ev_LEGACY (Or.inr ⟨(hw _ (List.mem_of_getElem? (i := 4) rfl)), (hw _ (List.mem_of_getElem? (i := 5) rfl))⟩)
  obtain ⟨w_UNICODE, ev_UNICODE⟩ := exa_v na2
  have E_UNICODE : Exa s s.heap w_UNICODE "com/example/ucs_to_octets/ucstooctets/CodeSpace" := Exa.start ev_UNICODE na2
  have S_UNICODE : Sta s s.heap "com/example/ucs_to_octets/ucstooctets/CodeSpace" "UNICODE" "Lcom/example/ucs_to_octets/ucstooctets/CodeSpace;" (.ref w_UNICODE) := Sta.start ev_UNICODE (Or.inr ⟨(hw _ (List.mem_of_getElem? (i := 4) rfl)), (hw _ (List.mem_of_getElem? (i := 31) rfl))⟩)
  have O_LEGACY := own_ord ev_LEGACY na1
  have F_LEGACY : Fld s s.heap w_LEGACY "com/example/ucs_to_octets/ucstooctets/CodeSpace" "highest" "I" (.int (2147483647 : Int32)) := Fld.start O_LEGACY
  have O_UNICODE := own_ord ev_UNICODE nb2
  have F_UNICODE : Fld s s.heap w_UNICODE "com/example/ucs_to_octets/ucstooctets/CodeSpace" "highest" "I" (.int (1114111 : Int32)) := Fld.start O_UNICODE
  obtain ⟨n, o, h1, h2, h3, v, L, rfl, hQ, hq⟩ := rm0 l s _ hw tables_1 i0 i1 i2 w_LEGACY w_UNICODE s.heap s.heap.size (Nat.le_refl _) S_LEGACY S_UNICODE E_LEGACY E_UNICODE F_LEGACY F_UNICODE p e ha hc hk s m _ below hf ((Spec.applies_iff_loose hf).mp happ).1 ⟨rfl, State.Warmed39.refl s, rfl⟩ trivial
  obtain ⟨rfl, N⟩ := hQ
  rw [law_eq] at *
  refine ⟨n, _, h1, h2, h3, hpost _ _ _ _ _ _ ⟨Cond.after_iff.mpr rfl, Cond.after_iff.mpr (eq_i res_at (Term.int_eval (1)) rfl)⟩ ⟨hq.1, hq.2.1, (hq.2.2.sift fun y hy => Or.inr (N y hy)).mono (by decide) (by decide)⟩⟩
theorem main_1_1 : Claimed_1_1 := comes_1 fun _ _ _ _ _ _ h hF => ⟨h.1, hF⟩
theorem main_1_2 : Claimed_1_2 := comes_1 fun _ _ _ _ _ _ h hF => ⟨h.2, hF⟩
end Jvm.Pilot.@@N@@
namespace Jvm.Pilot.@@N@@
open Jvm Jvm.ClassFile Sem Op Lib Jvm.Free Jvm.Stand Jvm.Pilot.@@N@@.Jvm.D
/-! MADE BY PROGRAM (witnessworld.py) out of the Statement's table words and the real class files: 13 classes; the members and pool entries that the words name. The judged class is class 1, her method 1. -/
namespace start1
open Jvm.ClassFile
def u (s : String) : CpInfo := .utf8 (stringToUtf16 s)
/-- a pool by its gaps: so many unusable entries, then the entry; so many at the end -/
def gap : Nat → List CpInfo → List CpInfo
  | 0, r => r
  | n + 1, r => .unusable :: gap n r
def poolList (es : List (Nat × CpInfo)) (last : Nat) : List CpInfo := es.foldr (fun e r => gap e.1 (e.2 :: r)) (gap last [])
def pool (es : List (Nat × CpInfo)) (last : Nat) : Array CpInfo := ⟨poolList es last⟩
def fileOf (pool : Array CpInfo) (this : Nat) (attrs : Array Attribute := #[]) (ms : Array MethodInfo := #[]) (fl : Nat := 33) (sup : Nat := 0) (ifs : Array Nat := #[]) (fds : Array FieldInfo := #[]) : ClassFile where
  minorVersion := 0
  majorVersion := 65
  constantPool := pool
  accessFlags := fl
  thisClass := this
  superClass := sup
  interfaces := ifs
  fields := fds
  methods := ms
  attributes := attrs
def plain (name : String) (sup : Option ClassId) : Class where
  name := name
  kind := .ordinary
  loader := none
  accessFlags := 33
  super := sup
  interfaces := #[]
  cf := none
  fields := #[]
  methods := #[]
  instanceTypes := #[]
  staticTypes := #[]
  resolved := #[]
  callSites := []
  init := .initialized
  statics := none
  mirror := none

def pool0 : Array CpInfo := pool [(5, u "<init>"), (0, u "()V"), (1, .class_ 10), (1, u "java/lang/Object")] 113

def k0m0 : Method := { name := "<init>", desc := "()V", sig := { parameters := [], returnType := none }, accessFlags := 1, code := none }
/-- java/lang/Object -/
def k0 : Class := { plain "java/lang/Object" none with
  accessFlags := 33
  interfaces := #[]
  cf := some (fileOf pool0 8 #[] #[{ accessFlags := 1, nameIndex := 5, descriptorIndex := 6, attributes := #[] }] 33 0 #[] #[])
  fields := #[]
  methods := #[k0m0]
  instanceTypes := #[]
  staticTypes := #[]
  resolved := Array.replicate 124 none
  statics := none }

def pool1 : Array CpInfo := pool [(2, .class_ 4), (1, u "java/lang/Object"), (0, u "<init>"), (0, u "()V"), (0, .integer 2147483647), (0, .integer 1114112), (0, .integer 55296), (0, .integer 57343), (0, .fieldref 12 13), (0, .class_ 14), (0, .nameAndType 15 16), (0, u "com/example/ucs_to_octets/ucstooctets/CodeSpace"), (0, u "LEGACY"), (0, u "Lcom/example/ucs_to_octets/ucstooctets/CodeSpace;"), (0, .fieldref 12 18), (0, .nameAndType 19 16), (0, u "UNICODE"), (0, .methodref 21 22), (0, .class_ 23), (0, .nameAndType 24 25), (0, u "com/example/ucs_to_octets/ucstooctets/Utf8"), (0, u "encode"), (0, u "(I[BILcom/example/ucs_to_octets/ucstooctets/CodeSpace;)I"), (0, .long 128), (1, .methodref 29 30), (0, .class_ 31), (0, .nameAndType 32 33), (0, u "com/example/ucs_to_octets/ucstooctets/Utf8EncodePinLaw"), (0, u "untouched"), (0, u "([BIIIB)Z"), (0, .integer 65280), (0, .methodref 29 36), (0, .nameAndType 37 38), (0, u "tailOk"), (0, u "([BIII)Z"), (0, .methodref 29 40), (0, .nameAndType 41 42), (0, u "add"), (0, u "(J[BIII)J"), (2, u "law"), (0, u "(III)Z")] 5

def k1m0 : Method := { name := "<init>", desc := "()V", sig := { parameters := [], returnType := none }, accessFlags := 1, code := none }
def k1c1 : Code := { maxStack := 6, maxLocals := 21, code := code, exceptionTable := #[], attributes := #[] }
def k1m1 : Method := { name := "law", desc := "(III)Z", sig := { parameters := [.int, .int, .int], returnType := some .boolean }, accessFlags := 9, code := some k1c1 }
def k1c2 : Code := { maxStack := 3, maxLocals := 5, code := method_3_code, exceptionTable := #[], attributes := #[] }
def k1m2 : Method := { name := "untouched", desc := "([BIIIB)Z", sig := { parameters := [(.array .byte), .int, .int, .int, .byte], returnType := some .boolean }, accessFlags := 10, code := some k1c2 }
def k1c3 : Code := { maxStack := 3, maxLocals := 4, code := method_4_code, exceptionTable := #[], attributes := #[] }
def k1m3 : Method := { name := "tailOk", desc := "([BIII)Z", sig := { parameters := [(.array .byte), .int, .int, .int], returnType := some .boolean }, accessFlags := 10, code := some k1c3 }
def k1c4 : Code := { maxStack := 5, maxLocals := 6, code := method_5_code, exceptionTable := #[], attributes := #[] }
def k1m4 : Method := { name := "add", desc := "(J[BIII)J", sig := { parameters := [.long, (.array .byte), .int, .int, .int], returnType := some .long }, accessFlags := 10, code := some k1c4 }
/-- com/example/ucs_to_octets/ucstooctets/Utf8EncodePinLaw -/
def k1 : Class := { plain "com/example/ucs_to_octets/ucstooctets/Utf8EncodePinLaw" (some 0) with
  accessFlags := 49
  interfaces := #[]
  cf := some (fileOf pool1 29 #[] #[{ accessFlags := 1, nameIndex := 5, descriptorIndex := 6, attributes := #[] }, { accessFlags := 9, nameIndex := 45, descriptorIndex := 46, attributes := #[] }, { accessFlags := 10, nameIndex := 32, descriptorIndex := 33, attributes := #[] }, { accessFlags := 10, nameIndex := 37, descriptorIndex := 38, attributes := #[] }, { accessFlags := 10, nameIndex := 41, descriptorIndex := 42, attributes := #[] }] 49 2 #[] #[])
  fields := #[]
  methods := #[k1m0, k1m1, k1m2, k1m3, k1m4]
  instanceTypes := #[]
  staticTypes := #[]
  resolved := Array.replicate 52 none
  statics := none }

def pool2 : Array CpInfo := pool [(1, .class_ 2), (0, u "java/lang/constant/Constable"), (0, .class_ 4), (0, u "java/lang/Object")] 6

/-- java/lang/constant/Constable -/
def k2 : Class := { plain "java/lang/constant/Constable" (some 0) with
  accessFlags := 1537
  interfaces := #[]
  cf := some (fileOf pool2 1 #[] #[] 1537 3 #[] #[])
  fields := #[]
  methods := #[]
  instanceTypes := #[]
  staticTypes := #[]
  resolved := Array.replicate 11 none
  statics := none }

def pool3 : Array CpInfo := pool [(1, .class_ 2), (0, u "java/lang/Comparable"), (0, .class_ 4), (0, u "java/lang/Object")] 7

/-- java/lang/Comparable -/
def k3 : Class := { plain "java/lang/Comparable" (some 0) with
  accessFlags := 1537
  interfaces := #[]
  cf := some (fileOf pool3 1 #[] #[] 1537 3 #[] #[])
  fields := #[]
  methods := #[]
  instanceTypes := #[]
  staticTypes := #[]
  resolved := Array.replicate 12 none
  statics := none }

def pool4 : Array CpInfo := pool [(1, .class_ 2), (0, u "java/io/Serializable"), (0, .class_ 4), (0, u "java/lang/Object")] 2

/-- java/io/Serializable -/
def k4 : Class := { plain "java/io/Serializable" (some 0) with
  accessFlags := 1537
  interfaces := #[]
  cf := some (fileOf pool4 1 #[] #[] 1537 3 #[] #[])
  fields := #[]
  methods := #[]
  instanceTypes := #[]
  staticTypes := #[]
  resolved := Array.replicate 7 none
  statics := none }

def pool5 : Array CpInfo := pool [(2, .class_ 4), (1, u "java/lang/Enum"), (0, u "name"), (0, u "Ljava/lang/String;"), (2, u "ordinal"), (0, u "I"), (1, .class_ 14), (1, u "java/lang/Object"), (4, u "hash"), (86, .class_ 108), (1, u "java/lang/Enum$EnumDesc"), (2, .class_ 112), (0, u "java/lang/constant/Constable"), (0, .class_ 114), (0, u "java/lang/Comparable"), (0, .class_ 116), (0, u "java/io/Serializable")] 87

/-- java/lang/Enum -/
def k5 : Class := { plain "java/lang/Enum" (some 0) with
  accessFlags := 1057
  interfaces := #[2, 3, 4]
  cf := some (fileOf pool5 2 #[.nestMembers #[106]] #[] 1057 12 #[111, 113, 115] #[{ accessFlags := 18, nameIndex := 5, descriptorIndex := 6, attributes := #[] }, { accessFlags := 18, nameIndex := 9, descriptorIndex := 10, attributes := #[] }, { accessFlags := 2, nameIndex := 19, descriptorIndex := 10, attributes := #[] }])
  fields := #[{ name := "name", type := (.object "java/lang/String"), accessFlags := 18, slot := 0, constantValue := 0 }, { name := "ordinal", type := .int, accessFlags := 18, slot := 1, constantValue := 0 }, { name := "hash", type := .int, accessFlags := 2, slot := 2, constantValue := 0 }]
  methods := #[]
  instanceTypes := #[(.object "java/lang/String"), .int, .int]
  staticTypes := #[]
  resolved := Array.replicate 204 none
  statics := none }

def pool6 : Array CpInfo := pool [(1, .class_ 2), (0, u "com/example/ucs_to_octets/ucstooctets/CodeSpace"), (2, u "UNICODE"), (0, u "Lcom/example/ucs_to_octets/ucstooctets/CodeSpace;"), (2, u "LEGACY"), (2, u "$VALUES"), (0, u "[Lcom/example/ucs_to_octets/ucstooctets/CodeSpace;"), (6, .class_ 22), (1, u "java/lang/Enum"), (6, .fieldref 1 30), (0, .nameAndType 31 32), (0, u "highest"), (0, u "I"), (0, .integer 55296), (0, .integer 57343), (11, u "MIN_SURROGATE"), (1, u "MAX_SURROGATE"), (8, u "contains"), (0, u "(I)Z")] 6

def k6c0 : Code := { maxStack := 2, maxLocals := 2, code := prog_2_method_5_code, exceptionTable := #[], attributes := #[] }
def k6m0 : Method := { name := "contains", desc := "(I)Z", sig := { parameters := [.int], returnType := some .boolean }, accessFlags := 1, code := some k6c0 }
/-- com/example/ucs_to_octets/ucstooctets/CodeSpace -/
def k6 : Class := { plain "com/example/ucs_to_octets/ucstooctets/CodeSpace" (some 5) with
  accessFlags := 16433
  interfaces := #[]
  cf := some (fileOf pool6 1 #[] #[{ accessFlags := 1, nameIndex := 57, descriptorIndex := 58, attributes := #[] }] 16433 20 #[] #[{ accessFlags := 16409, nameIndex := 5, descriptorIndex := 6, attributes := #[] }, { accessFlags := 16409, nameIndex := 9, descriptorIndex := 6, attributes := #[] }, { accessFlags := 26, nameIndex := 46, descriptorIndex := 32, attributes := #[] }, { accessFlags := 26, nameIndex := 48, descriptorIndex := 32, attributes := #[] }, { accessFlags := 18, nameIndex := 31, descriptorIndex := 32, attributes := #[] }, { accessFlags := 4122, nameIndex := 12, descriptorIndex := 13, attributes := #[] }])
  fields := #[{ name := "UNICODE", type := (.object "com/example/ucs_to_octets/ucstooctets/CodeSpace"), accessFlags := 16409, slot := 0, constantValue := 0 }, { name := "LEGACY", type := (.object "com/example/ucs_to_octets/ucstooctets/CodeSpace"), accessFlags := 16409, slot := 1, constantValue := 0 }, { name := "MIN_SURROGATE", type := .int, accessFlags := 26, slot := 2, constantValue := 0 }, { name := "MAX_SURROGATE", type := .int, accessFlags := 26, slot := 3, constantValue := 0 }, { name := "highest", type := .int, accessFlags := 18, slot := 3, constantValue := 0 }, { name := "$VALUES", type := (.array (.object "com/example/ucs_to_octets/ucstooctets/CodeSpace")), accessFlags := 4122, slot := 4, constantValue := 0 }]
  methods := #[k6m0]
  instanceTypes := #[(.object "java/lang/String"), .int, .int, .int]
  staticTypes := #[(.object "com/example/ucs_to_octets/ucstooctets/CodeSpace"), (.object "com/example/ucs_to_octets/ucstooctets/CodeSpace"), .int, .int, (.array (.object "com/example/ucs_to_octets/ucstooctets/CodeSpace"))]
  resolved := Array.replicate 65 none
  statics := some 0 }

def pool7 : Array CpInfo := pool [(2, .class_ 4), (1, u "java/lang/Object"), (0, u "<init>"), (0, u "()V"), (1, .class_ 10), (1, u "com/example/ucs_to_octets/ucstooctets/CodeSpace"), (3, .class_ 16), (1, u "com/example/ucs_to_octets/ucstooctets/Utf8"), (0, u "encode"), (0, u "(I[BILcom/example/ucs_to_octets/ucstooctets/CodeSpace;)I"), (0, .methodref 8 20), (0, .nameAndType 21 22), (0, u "contains"), (0, u "(I)Z"), (19, .integer 65536), (0, .integer 2097152), (0, .methodref 14 45), (0, .nameAndType 46 47), (0, u "encodeAboveFourOctets"), (0, u "(I[BI)I"), (0, .integer 67108864), (9, .class_ 59), (0, u "com/example/ucs_to_octets/ucstooctets/Utf8$Writer"), (33, .class_ 94), (0, u "com/example/ucs_to_octets/ucstooctets/Utf8$Decoder"), (80, u "MAX_LENGTH"), (0, u "I"), (2, u "TAIL_MIN"), (1, u "TAIL_MAX"), (1, u "RULE_FIELD_BITS"), (1, u "RULE_FIELD"), (1, u "OCTET_VALUES"), (1, u "EMPTY_LOWEST"), (0, u "EMPTY_HIGHEST")] 60

def k7m0 : Method := { name := "<init>", desc := "()V", sig := { parameters := [], returnType := none }, accessFlags := 2, code := none }
def k7c1 : Code := { maxStack := 5, maxLocals := 5, code := prog_32_method_3_code, exceptionTable := #[], attributes := #[] }
def k7m1 : Method := { name := "encode", desc := "(I[BILcom/example/ucs_to_octets/ucstooctets/CodeSpace;)I", sig := { parameters := [.int, (.array .byte), .int, (.object "com/example/ucs_to_octets/ucstooctets/CodeSpace")], returnType := some .int }, accessFlags := 8, code := some k7c1 }
def k7c2 : Code := { maxStack := 5, maxLocals := 4, code := prog_32_method_4_code, exceptionTable := #[], attributes := #[] }
def k7m2 : Method := { name := "encodeAboveFourOctets", desc := "(I[BI)I", sig := { parameters := [.int, (.array .byte), .int], returnType := some .int }, accessFlags := 10, code := some k7c2 }
/-- com/example/ucs_to_octets/ucstooctets/Utf8 -/
def k7 : Class := { plain "com/example/ucs_to_octets/ucstooctets/Utf8" (some 0) with
  accessFlags := 33
  interfaces := #[]
  cf := some (fileOf pool7 14 #[.nestMembers #[93, 58]] #[{ accessFlags := 2, nameIndex := 5, descriptorIndex := 6, attributes := #[] }, { accessFlags := 8, nameIndex := 17, descriptorIndex := 18, attributes := #[] }, { accessFlags := 10, nameIndex := 46, descriptorIndex := 47, attributes := #[] }] 33 2 #[] #[{ accessFlags := 24, nameIndex := 175, descriptorIndex := 176, attributes := #[] }, { accessFlags := 26, nameIndex := 179, descriptorIndex := 176, attributes := #[] }, { accessFlags := 26, nameIndex := 181, descriptorIndex := 176, attributes := #[] }, { accessFlags := 26, nameIndex := 183, descriptorIndex := 176, attributes := #[] }, { accessFlags := 26, nameIndex := 185, descriptorIndex := 176, attributes := #[] }, { accessFlags := 26, nameIndex := 187, descriptorIndex := 176, attributes := #[] }, { accessFlags := 26, nameIndex := 189, descriptorIndex := 176, attributes := #[] }, { accessFlags := 26, nameIndex := 190, descriptorIndex := 176, attributes := #[] }])
  fields := #[{ name := "MAX_LENGTH", type := .int, accessFlags := 24, slot := 0, constantValue := 0 }, { name := "TAIL_MIN", type := .int, accessFlags := 26, slot := 1, constantValue := 0 }, { name := "TAIL_MAX", type := .int, accessFlags := 26, slot := 2, constantValue := 0 }, { name := "RULE_FIELD_BITS", type := .int, accessFlags := 26, slot := 3, constantValue := 0 }, { name := "RULE_FIELD", type := .int, accessFlags := 26, slot := 4, constantValue := 0 }, { name := "OCTET_VALUES", type := .int, accessFlags := 26, slot := 5, constantValue := 0 }, { name := "EMPTY_LOWEST", type := .int, accessFlags := 26, slot := 6, constantValue := 0 }, { name := "EMPTY_HIGHEST", type := .int, accessFlags := 26, slot := 7, constantValue := 0 }]
  methods := #[k7m0, k7m1, k7m2]
  instanceTypes := #[]
  staticTypes := #[.int, .int, .int, .int, .int, .int, .int, .int]
  resolved := Array.replicate 251 none
  statics := none }

def pool8 : Array CpInfo := pool [(1, u "java/lang/Cloneable"), (0, .class_ 1), (0, u "java/lang/Object"), (0, .class_ 3)] 3

/-- java/lang/Cloneable -/
def k8 : Class := { plain "java/lang/Cloneable" (some 0) with
  accessFlags := 1537
  interfaces := #[]
  cf := some (fileOf pool8 2 #[] #[] 1537 4 #[] #[])
  fields := #[]
  methods := #[]
  instanceTypes := #[]
  staticTypes := #[]
  resolved := Array.replicate 8 none
  statics := none }

/-- the primitive byte -/
def k9 : Class := { plain "byte" none with kind := .primitive 'B', accessFlags := 0x411 }
/-- [B -/
def k10 : Class := { plain "[B" (some 0) with kind := .array 9 .byte, interfaces := #[8, 4], accessFlags := 1041 }

/-- the primitive int -/
def k11 : Class := { plain "int" none with kind := .primitive 'I', accessFlags := 0x411 }
/-- [I -/
def k12 : Class := { plain "[I" (some 0) with kind := .array 11 .int, interfaces := #[8, 4], accessFlags := 1041 }

def heap : Heap := #[{ cls := 6, slots := #[.ref 1, .ref 2, .int 0, .int 0, .null], vm := .statics 6 },
  { cls := 6, slots := #[.null, .int 0, .int 0, .int 1114111], vm := .none },
  { cls := 6, slots := #[.null, .int 1, .int 0, .int 2147483647], vm := .none }]
def classes : Array Class := #[k0, k1, k2, k3, k4, k5, k6, k7, k8, k9, k10, k11, k12]
def interned : List (Array UInt16 × Addr) := []
def slotsUsed : Nat := 13
def theMethod : MethodId := ⟨1, 1⟩
def args0 : Array Value := #[.int 65, .int 0, .int 1]
def aboutOver (below : List Frame) : State where
  vm := { classes := classes, interned := interned.toArray }
  heap := heap
  slotsUsed := slotsUsed
  threads := #[{ frames := .invoking theMethod args0 :: below }]
def below0 : List Frame := [.native { method := ⟨0, 0⟩, args := #[] }]
def about1 : State := aboutOver below0
def p0 : Program := .bare "" "" ""
def e0 : Env := launch0.env 0 0 0
theorem w_frames : about1.frames = Frame.invoking theMethod args0 :: below0 := rfl
set_option maxRecDepth 65536 in
theorem w_args : argsFit about1.vm theMethod args0 = true := by decide +kernel
set_option maxRecDepth 65536 in
theorem w_heap : heapFits about1 = true := by decide +kernel
set_option maxRecDepth 65536 in
theorem w_runnable : about1.curStatus? = some .runnable := by decide +kernel
set_option maxRecDepth 65536 in
theorem w_alone : about1.alone = true := by decide +kernel
set_option maxRecDepth 65536 in
theorem w_named : about1.methodNamed? x = some theMethod := by decide +kernel
set_option maxRecDepth 65536 in
theorem w_hears : about1.hears theMethod below0 = true := by decide +kernel
set_option maxRecDepth 65536 in
theorem w_ripe : about1.ripe theMethod args0 below0 = true := by decide +kernel
theorem w_running : about1.status = .running := rfl
set_option maxRecDepth 65536 in
theorem w_room : about1.hasRoom e0.platform room_1 = true :=
  launch0.hasRoom_least _ room_1 (by decide +kernel) (by decide +kernel) (by decide +kernel) (by decide +kernel) (by decide +kernel) (by decide +kernel)
theorem allAtoms_all (ts : List Jvm.Cond) (a : Array Jvm.Value) (st : Jvm.State) : (allAtoms ts).before a st = ts.all (fun c => c.before a st) := by
  induction ts with
  | nil => rfl
  | cons c t ih =>
    show (Jvm.Cond.and c (allAtoms t)).before a st = _
    rw [Jvm.Cond.before_and, ih, List.all_cons]
def words1 : List Jvm.Cond := Jvm.Cond.code x code maxLocals ret :: tables_1
/-- a 'code' word, met by the world's own term for the bytes: nothing is compared byte by byte -/
theorem code_word {y : MethodName} {bytes : ByteArray} {mx : Nat} {rt : Option FieldType} {a : Array Value} {s : State} {m : MethodId} {meth : Method} {c : Code} (h1 : s.methodNamed? y = some m) (h2 : s.vm.method? m = some meth) (h3 : meth.code = some c) (h4 : c.code = bytes)
    (h5 : (c.maxLocals == mx && c.exceptionTable.isEmpty && decide (c.maxStack ≤ mostOperands) && decide (meth.sig.returnType = rt) && !meth.locks && decide (parseMethodDescriptor y.desc = some meth.sig)) = true) : (Jvm.Cond.code y bytes mx rt).before a s = true := by
  simp only [Bool.and_eq_true, beq_iff_eq, Bool.not_eq_true', decide_eq_true_eq] at h5
  obtain ⟨⟨⟨⟨⟨g1, g2⟩, g3⟩, g4⟩, g5⟩, g6⟩ := h5
  simp [Cond.before, Cond.holds, Cond.value, h1, h2, h3, h4, g1, g2, g3, g4, g5, g6]
def isCode : Jvm.Cond → Bool
  | .code _ _ _ _ => true
  | _ => false
theorem all_split {L : List Jvm.Cond} {P : Jvm.Cond → Bool} (h1 : L.all (fun c => isCode c || P c) = true) (h2 : ∀ c ∈ L.filter isCode, P c = true) : L.all P = true := by
  refine List.all_eq_true.mpr fun c hc => ?_
  have h := List.all_eq_true.mp h1 c hc
  rcases Bool.eq_false_or_eq_true (isCode c) with hi | hi
  · exact h2 c (List.mem_filter.mpr ⟨hc, hi⟩)
  · simpa [hi] using h
set_option maxRecDepth 65536 in
theorem w_c0 : (Jvm.Cond.code x code maxLocals ret).before args0 about1 = true := code_word (m := ⟨1, 1⟩) (meth := k1m1) (c := k1c1) (by decide +kernel) rfl rfl rfl (by decide +kernel)
set_option maxRecDepth 65536 in
theorem w_c1 : (Jvm.Cond.code ({ cls := "com/example/ucs_to_octets/ucstooctets/Utf8", name := "encode", desc := "(I[BILcom/example/ucs_to_octets/ucstooctets/CodeSpace;)I" } : Jvm.MethodName) prog_32_method_3_code (5 : Nat) (Option.some Jvm.ClassFile.FieldType.int)).before args0 about1 = true := code_word (m := ⟨7, 1⟩) (meth := k7m1) (c := k7c1) (by decide +kernel) rfl rfl rfl (by decide +kernel)
set_option maxRecDepth 65536 in
theorem w_c2 : (Jvm.Cond.code ({ cls := "com/example/ucs_to_octets/ucstooctets/CodeSpace", name := "contains", desc := "(I)Z" } : Jvm.MethodName) prog_2_method_5_code (2 : Nat) (Option.some Jvm.ClassFile.FieldType.boolean)).before args0 about1 = true := code_word (m := ⟨6, 0⟩) (meth := k6m0) (c := k6c0) (by decide +kernel) rfl rfl rfl (by decide +kernel)
set_option maxRecDepth 65536 in
theorem w_c3 : (Jvm.Cond.code ({ cls := "com/example/ucs_to_octets/ucstooctets/Utf8EncodePinLaw", name := "untouched", desc := "([BIIIB)Z" } : Jvm.MethodName) method_3_code (5 : Nat) (Option.some Jvm.ClassFile.FieldType.boolean)).before args0 about1 = true := code_word (m := ⟨1, 2⟩) (meth := k1m2) (c := k1c2) (by decide +kernel) rfl rfl rfl (by decide +kernel)
set_option maxRecDepth 65536 in
theorem w_c4 : (Jvm.Cond.code ({ cls := "com/example/ucs_to_octets/ucstooctets/Utf8EncodePinLaw", name := "tailOk", desc := "([BIII)Z" } : Jvm.MethodName) method_4_code (4 : Nat) (Option.some Jvm.ClassFile.FieldType.boolean)).before args0 about1 = true := code_word (m := ⟨1, 3⟩) (meth := k1m3) (c := k1c3) (by decide +kernel) rfl rfl rfl (by decide +kernel)
set_option maxRecDepth 65536 in
theorem w_c5 : (Jvm.Cond.code ({ cls := "com/example/ucs_to_octets/ucstooctets/Utf8EncodePinLaw", name := "add", desc := "(J[BIII)J" } : Jvm.MethodName) method_5_code (6 : Nat) (Option.some Jvm.ClassFile.FieldType.long)).before args0 about1 = true := code_word (m := ⟨1, 4⟩) (meth := k1m4) (c := k1c4) (by decide +kernel) rfl rfl rfl (by decide +kernel)
set_option maxRecDepth 65536 in
theorem w_c6 : (Jvm.Cond.code ({ cls := "com/example/ucs_to_octets/ucstooctets/Utf8", name := "encodeAboveFourOctets", desc := "(I[BI)I" } : Jvm.MethodName) prog_32_method_4_code (4 : Nat) (Option.some Jvm.ClassFile.FieldType.int)).before args0 about1 = true := code_word (m := ⟨7, 2⟩) (meth := k7m2) (c := k7c2) (by decide +kernel) rfl rfl rfl (by decide +kernel)
def codes1 : List Jvm.Cond := [Jvm.Cond.code x code maxLocals ret, Jvm.Cond.code ({ cls := "com/example/ucs_to_octets/ucstooctets/Utf8", name := "encode", desc := "(I[BILcom/example/ucs_to_octets/ucstooctets/CodeSpace;)I" } : Jvm.MethodName) prog_32_method_3_code (5 : Nat) (Option.some Jvm.ClassFile.FieldType.int), Jvm.Cond.code ({ cls := "com/example/ucs_to_octets/ucstooctets/CodeSpace", name := "contains", desc := "(I)Z" } : Jvm.MethodName) prog_2_method_5_code (2 : Nat) (Option.some Jvm.ClassFile.FieldType.boolean), Jvm.Cond.code ({ cls := "com/example/ucs_to_octets/ucstooctets/Utf8EncodePinLaw", name := "untouched", desc := "([BIIIB)Z" } : Jvm.MethodName) method_3_code (5 : Nat) (Option.some Jvm.ClassFile.FieldType.boolean), Jvm.Cond.code ({ cls := "com/example/ucs_to_octets/ucstooctets/Utf8EncodePinLaw", name := "tailOk", desc := "([BIII)Z" } : Jvm.MethodName) method_4_code (4 : Nat) (Option.some Jvm.ClassFile.FieldType.boolean), Jvm.Cond.code ({ cls := "com/example/ucs_to_octets/ucstooctets/Utf8EncodePinLaw", name := "add", desc := "(J[BIII)J" } : Jvm.MethodName) method_5_code (6 : Nat) (Option.some Jvm.ClassFile.FieldType.long), Jvm.Cond.code ({ cls := "com/example/ucs_to_octets/ucstooctets/Utf8", name := "encodeAboveFourOctets", desc := "(I[BI)I" } : Jvm.MethodName) prog_32_method_4_code (4 : Nat) (Option.some Jvm.ClassFile.FieldType.int)]
set_option maxRecDepth 65536 in
theorem codes_eq : words1.filter isCode = codes1 := rfl
theorem w_codes : ∀ c ∈ words1.filter isCode, c.before args0 about1 = true := by
  rw [codes_eq]
  intro c hc
  simp only [codes1, List.mem_cons, List.not_mem_nil, or_false] at hc
  rcases hc with rfl | rfl | rfl | rfl | rfl | rfl | rfl
  · exact w_c0
  · exact w_c1
  · exact w_c2
  · exact w_c3
  · exact w_c4
  · exact w_c5
  · exact w_c6
set_option maxRecDepth 65536 in
theorem w_t1 : (words1.take 24).all (fun c => isCode c || c.before args0 about1) = true := by decide +kernel
set_option maxRecDepth 65536 in
theorem w_t2 : (words1.drop 24).all (fun c => isCode c || c.before args0 about1) = true := by decide +kernel
theorem w_tables : (allAtoms (Jvm.Cond.code x code maxLocals ret :: tables_1)).before args0 about1 = true := by
  rw [allAtoms_all]
  show words1.all (fun c => c.before args0 about1) = true
  refine all_split ?_ w_codes
  rw [← List.take_append_drop 24 words1, List.all_append, w_t1, w_t2]
  rfl
set_option maxRecDepth 65536 in
theorem w_case : (Jvm.Cond.and given_1 narrow_1).before args0 about1 = true := by decide +kernel
theorem w_applies : (headSpec (Jvm.Cond.code x code maxLocals ret :: tables_1) room_1).applies x e0.platform about1 = true :=
  (Spec.applies_iff w_frames).mpr ⟨w_running, w_runnable, w_alone, w_named, w_hears, w_ripe, w_room, w_tables⟩
theorem atStart : AtStart classFile x code maxLocals ret World_1 tables_1 room_1 Calls_1 rest_1 Pre_1 launch0 p0 e0 about1 theMethod args0 below0 :=
  ⟨lists_1, trivial, launch0.admits_env _ _ _, launch0.least_env, fairChoices_fair.cas, fairChoices_fair.clock, w_frames, w_args, w_heap, w_applies, trivial, trivial, w_case⟩
end start1
theorem witness_1 : WitnessClaimed_1 := ⟨start1.p0, start1.e0, start1.about1, start1.theMethod, start1.args0, start1.below0, start1.atStart⟩
end Jvm.Pilot.@@N@@
