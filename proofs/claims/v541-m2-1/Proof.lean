import JvmDerived
import JvmDerived.Pilot.@@N@@Statement
import JvmDerived.Pilot.@@N@@Code
set_option linter.unusedVariables false
set_option linter.unusedSimpArgs false
namespace Jvm.Pilot.@@N@@
open Jvm Jvm.ClassFile Sem Op Lib Jvm.Free Jvm.Stand Jvm.LawKit Jvm.RoadKit Bundle Jvm.Pilot.@@N@@.Jvm.D
set_option maxRecDepth 65536
/-! the run still has to be led to its end from A: the goal of a walk, taken step by step -/
def own_Go (p : Program) (e : Env) (below : List Frame) (s : State) (Q : Option Value → Heap → List Loc → Prop) (C S : Nat) (A : State) : Prop :=
  ∃ s₂ o, Steps p.tables e below A s₂ ∧ s₂.status = .running ∧ Ended s₂ below o ∧ ∃ v L, o = .returned v ∧ Q v s₂.heap L ∧ FrameEnd s o s₂ L C S
section OwnA
variable {p : Program} {l : Launch} {e : Env} {R : Room} {s : State} {m : MethodId} {args : Array Value} {below : List Frame} {meth : Method} {c : Code} {T : State} {locs : List Loc} {cells slots : Nat} {Q : Option Value → Heap → List Loc → Prop} {C S : Nat}
theorem own_st {A B : State} (h : ∀ t, Steps p.tables e below B t → Steps p.tables e below A t) (g : own_Go p e below s Q C S B) : own_Go p e below s Q C S A := by
  obtain ⟨s₂, o, h1, r⟩ := g
  exact ⟨s₂, o, h _ h1, r⟩
theorem own_ss {A B : State} (h : Steps p.tables e below A B) (g : own_Go p e below s Q C S B) : own_Go p e below s Q C S A := own_st (fun _ k => h.trans k) g
theorem own_cut {P G : Prop} (a : P → G) (b : P) : G := a b
theorem own_leave (X : Stand p l e R s m args below meth c T locs cells slots) {v : Option Value} (hv : meth.sig.returnType = none → v = none) (hlk : meth.locks = false) (hQ : Q v T.heap locs) (hc : cells ≤ C) (hs : slots ≤ S) {A : State}
    (hr : ∀ fs, (∀ (f : JFrame) (acts : List Action), f.method = m → f.locked = none → f.entered = [] → (doReturn e (T.setTop f) acts v).1 = T.setFrames fs) → Steps p.tables e below A (T.setFrames fs)) : own_Go p e below s Q C S A := by
  obtain ⟨fs, hr', hrun, hended, hW, hsame⟩ := X.leave (v := v) hv hlk
  exact ⟨_, _, hr fs hr', hrun, hended, _, _, rfl, hQ, ⟨_, rfl⟩, hW, hsame.mono hc hs⟩
theorem own_retV (X : Stand p l e R s m args below meth c T locs cells slots) (hx : p.tables.exec = Jvm.exec) (hlk : meth.locks = false) (hret : meth.sig.returnType = none) {pc : Nat} {Ls : Array Slot} (hd : decode c.code pc = .ok (.return_, 1)) (hc : cells ≤ C) (hs : slots ≤ S) (hQ : Q none T.heap locs) :
    own_Go p e below s Q C S (T.setTop (mkF m pc Ls [])) := own_leave X (fun _ => rfl) hlk hQ hc hs fun _ hr => X.returnOut hx hret hd hr
theorem own_retI (X : Stand p l e R s m args below meth c T locs cells slots) (hx : p.tables.exec = Jvm.exec) (hlk : meth.locks = false) (hret : meth.sig.returnType = some .int) {pc : Nat} {Ls : Array Slot} {z : Int32} {rest : List Value} (hd : decode c.code pc = .ok (.ireturn, 1)) (hc : cells ≤ C) (hs : slots ≤ S) (hQ : Q (some (.int z)) T.heap locs) :
    own_Go p e below s Q C S (T.setTop (mkF m pc Ls (.int z :: rest))) := own_leave X (fun h => by rw [hret] at h; cases h) hlk hQ hc hs fun _ hr => retOut X hx hret rfl (Or.inl ⟨rfl, Or.inl rfl, _, rfl⟩) hd hr
theorem own_retJ (X : Stand p l e R s m args below meth c T locs cells slots) (hx : p.tables.exec = Jvm.exec) (hlk : meth.locks = false) (hret : meth.sig.returnType = some .long) {pc : Nat} {Ls : Array Slot} {z : Int64} {rest : List Value} (hd : decode c.code pc = .ok (.lreturn, 1)) (hc : cells ≤ C) (hs : slots ≤ S) (hQ : Q (some (.long z)) T.heap locs) :
    own_Go p e below s Q C S (T.setTop (mkF m pc Ls (.long z :: rest))) := own_leave X (fun h => by rw [hret] at h; cases h) hlk hQ hc hs fun _ hr => retOut X hx hret rfl (Or.inr (Or.inl ⟨rfl, rfl, _, rfl⟩)) hd hr
theorem own_retR (X : Stand p l e R s m args below meth c T locs cells slots) (hx : p.tables.exec = Jvm.exec) (hlk : meth.locks = false) {t : FieldType} (hret : meth.sig.returnType = some t) (ht : t.isReference = true) {pc : Nat} {Ls : Array Slot} {w : Value} {rest : List Value} (hn : narrow t w = w) (hw : w.isRef = true) (hd : decode c.code pc = .ok (.areturn, 1)) (hc : cells ≤ C) (hs : slots ≤ S) (hQ : Q (some w) T.heap locs) :
    own_Go p e below s Q C S (T.setTop (mkF m pc Ls (w :: rest))) := own_leave X (fun h => by rw [hret] at h; cases h) hlk hQ hc hs fun _ hr => retOut X hx hret hn (Or.inr (Or.inr (Or.inr (Or.inr ⟨rfl, ht, hw⟩)))) hd hr
theorem own_retN (X : Stand p l e R s m args below meth c T locs cells slots) (hx : p.tables.exec = Jvm.exec) (hlk : meth.locks = false) {t : FieldType} (hret : meth.sig.returnType = some t) (ht : t = .boolean ∨ t = .byte ∨ t = .char ∨ t = .short) {pc : Nat} {Ls : Array Slot} {z z' : Int32} {rest : List Value} (hz : nar t z = z') (hd : decode c.code pc = .ok (.ireturn, 1)) (hc : cells ≤ C) (hs : slots ≤ S) (hQ : Q (some (.int z')) T.heap locs) :
    own_Go p e below s Q C S (T.setTop (mkF m pc Ls (.int z :: rest))) := by
  subst hz
  exact own_leave X (fun h => by rw [hret] at h; cases h) hlk hQ hc hs fun _ hr => retN X hx hret ht hd hr
/-! arrays by the whole list of what they hold -/
variable {Z : State} {h h' : Heap} {a b : Addr} {ty : FieldType} {vs : List Value}
def own_A (Z : State) (h : Heap) (a : Addr) (ty : FieldType) (vs : List Value) : Prop := ∃ c : Cell, Arr Z h a c ty ∧ c.slots.toList = vs
theorem own_A.lt (F : own_A Z h a ty vs) : a < h.size := by obtain ⟨c, A, -⟩ := F; exact A.lt
theorem own_A.ext (F : own_A Z h a ty vs) (E : Ext h h') : own_A Z h' a ty vs := by obtain ⟨c, A, q⟩ := F; exact ⟨c, A.ext E, q⟩
theorem own_A.other {sl : Nat} {v : Value} (F : own_A Z h a ty vs) (W : Wr h h' b sl v) (q : a ≠ b) : own_A Z h' a ty vs := by obtain ⟨c, A, r⟩ := F; exact ⟨c, A.other W q, r⟩
theorem own_A.keep {ws : List Addr} (F : own_A Z h a ty vs) (K : Keep h h' ws) (q : a ∉ ws) : own_A Z h' a ty vs := by obtain ⟨c, A, r⟩ := F; exact ⟨c, ⟨K.2.1 a c A.1 q, A.2⟩, r⟩
theorem own_A.set {i : Nat} {v : Value} (F : own_A Z h a ty vs) (W : Wr h h' a i v) : own_A Z h' a ty (vs.set i v) := by
  obtain ⟨c, A, rfl⟩ := F
  exact ⟨_, A.same W, by simp [Cell.setSlot]⟩
theorem own_ix {j : Int32} {i : Nat} (hj : j.toInt = (i : Int)) : ¬ j < 0 ∧ j.toNatClampNeg = i := by
  refine ⟨?_, ?_⟩
  · rw [Int32.lt_iff_toInt_lt, hj]
    show ¬ ((i : Int) < 0)
    omega
  · have h1 : j.toNatClampNeg = j.toInt.toNat := rfl
    rw [h1, hj]; rfl
theorem own_in {cl : Cell} {j : Int32} {i : Nat} {v : Value} (hj : j.toInt = (i : Int)) (hv : cl.slots.toList[i]? = some v) : ¬ (j < 0 ∨ cl.slots.size ≤ j.toNatClampNeg) ∧ cl.slots[j.toNatClampNeg]? = some v := by
  obtain ⟨n0, n1⟩ := own_ix hj
  rw [n1]
  rw [Array.getElem?_toList] at hv
  refine ⟨?_, hv⟩
  have h2 := (Array.getElem?_eq_some_iff.mp hv).1
  rintro (q | q)
  · exact n0 q
  · omega
theorem own_ldI (X : Stand p l e R s m args below meth c T locs cells slots) (hx : p.tables.exec = Jvm.exec) (hZ : Z.Warmed39 s.vm) (eT : T.heap = h) (A : own_A Z h a .int vs) {j : Int32} {i : Nat} {v : Value} (hj : j.toInt = (i : Int)) (hv : vs[i]? = some v) {g : JFrame} (hg : g.method = m) {rest : List Value} (hs : g.stack = .int j :: .ref a :: rest) (hd : decode c.code g.pc = .ok (.iaload, 1)) {t : State}
    (k : Steps p.tables e below (T.setTop { g with pc := g.pc + 1, stack := v :: rest }) t) : Steps p.tables e below (T.setTop g) t := by
  obtain ⟨cl, A, rfl⟩ := A
  exact X.iaload hx (by rw [eT]; exact A.1) (State.isArrayOf_alike hZ.alike A.2.1) A.2.2 (own_in hj hv).1 (own_in hj hv).2 hg hs hd _ k
theorem own_ldJ (X : Stand p l e R s m args below meth c T locs cells slots) (hx : p.tables.exec = Jvm.exec) (hZ : Z.Warmed39 s.vm) (eT : T.heap = h) (A : own_A Z h a .long vs) {j : Int32} {i : Nat} {v : Value} (hj : j.toInt = (i : Int)) (hv : vs[i]? = some v) {g : JFrame} (hg : g.method = m) {rest : List Value} (hs : g.stack = .int j :: .ref a :: rest) (hd : decode c.code g.pc = .ok (.laload, 1)) {t : State}
    (k : Steps p.tables e below (T.setTop { g with pc := g.pc + 1, stack := v :: rest }) t) : Steps p.tables e below (T.setTop g) t := by
  obtain ⟨cl, A, rfl⟩ := A
  exact X.laload hx (by rw [eT]; exact A.1) (State.isArrayOf_alike hZ.alike A.2.1) A.2.2 (own_in hj hv).1 (own_in hj hv).2 hg hs hd _ k
theorem own_ldB (X : Stand p l e R s m args below meth c T locs cells slots) (hx : p.tables.exec = Jvm.exec) (hZ : Z.Warmed39 s.vm) (eT : T.heap = h) (A : own_A Z h a .byte vs) {j : Int32} {i : Nat} {v : Value} (hj : j.toInt = (i : Int)) (hv : vs[i]? = some v) {g : JFrame} (hg : g.method = m) {rest : List Value} (hs : g.stack = .int j :: .ref a :: rest) (hd : decode c.code g.pc = .ok (.baload, 1)) {t : State}
    (k : Steps p.tables e below (T.setTop { g with pc := g.pc + 1, stack := v :: rest }) t) : Steps p.tables e below (T.setTop g) t := by
  obtain ⟨cl, A, rfl⟩ := A
  exact X.baloadBytes hx (by rw [eT]; exact A.1) (State.isArrayOf_alike hZ.alike A.2.1) A.2.2 (own_in hj hv).1 (own_in hj hv).2 hg hs hd _ k
theorem own_ldZ (X : Stand p l e R s m args below meth c T locs cells slots) (hx : p.tables.exec = Jvm.exec) (hZ : Z.Warmed39 s.vm) (eT : T.heap = h) (A : own_A Z h a .boolean vs) {j : Int32} {i : Nat} {v : Value} (hj : j.toInt = (i : Int)) (hv : vs[i]? = some v) {g : JFrame} (hg : g.method = m) {rest : List Value} (hs : g.stack = .int j :: .ref a :: rest) (hd : decode c.code g.pc = .ok (.baload, 1)) {t : State}
    (k : Steps p.tables e below (T.setTop { g with pc := g.pc + 1, stack := v :: rest }) t) : Steps p.tables e below (T.setTop g) t := by
  obtain ⟨cl, A, rfl⟩ := A
  exact X.baloadBooleans hx (by rw [eT]; exact A.1) (State.isArrayOf_alike hZ.alike A.2.1) A.2.2 (own_in hj hv).1 (own_in hj hv).2 hg hs hd _ k
theorem own_ldS (X : Stand p l e R s m args below meth c T locs cells slots) (hx : p.tables.exec = Jvm.exec) (hZ : Z.Warmed39 s.vm) (eT : T.heap = h) (A : own_A Z h a .short vs) {j : Int32} {i : Nat} {v : Value} (hj : j.toInt = (i : Int)) (hv : vs[i]? = some v) {g : JFrame} (hg : g.method = m) {rest : List Value} (hs : g.stack = .int j :: .ref a :: rest) (hd : decode c.code g.pc = .ok (.saload, 1)) {t : State}
    (k : Steps p.tables e below (T.setTop { g with pc := g.pc + 1, stack := v :: rest }) t) : Steps p.tables e below (T.setTop g) t := by
  obtain ⟨cl, A, rfl⟩ := A
  exact X.saload hx (by rw [eT]; exact A.1) (State.isArrayOf_alike hZ.alike A.2.1) A.2.2 (own_in hj hv).1 (own_in hj hv).2 hg hs hd _ k
theorem own_ldC (X : Stand p l e R s m args below meth c T locs cells slots) (hx : p.tables.exec = Jvm.exec) (hZ : Z.Warmed39 s.vm) (eT : T.heap = h) (A : own_A Z h a .char vs) {j : Int32} {i : Nat} {v : Value} (hj : j.toInt = (i : Int)) (hv : vs[i]? = some v) {g : JFrame} (hg : g.method = m) {rest : List Value} (hs : g.stack = .int j :: .ref a :: rest) (hd : decode c.code g.pc = .ok (.caload, 1)) {t : State}
    (k : Steps p.tables e below (T.setTop { g with pc := g.pc + 1, stack := v :: rest }) t) : Steps p.tables e below (T.setTop g) t := by
  obtain ⟨cl, A, rfl⟩ := A
  exact X.caload hx (by rw [eT]; exact A.1) (State.isArrayOf_alike hZ.alike A.2.1) A.2.2 (own_in hj hv).1 (own_in hj hv).2 hg hs hd _ k
theorem own_ldR (X : Stand p l e R s m args below meth c T locs cells slots) (hx : p.tables.exec = Jvm.exec) (hZ : Z.Warmed39 s.vm) (eT : T.heap = h) (A : own_A Z h a ty vs) (hty : ty.isReference = true) {j : Int32} {i : Nat} {v : Value} (hj : j.toInt = (i : Int)) (hv : vs[i]? = some v) {g : JFrame} (hg : g.method = m) {rest : List Value} (hs : g.stack = .int j :: .ref a :: rest) (hd : decode c.code g.pc = .ok (.aaload, 1)) {t : State}
    (k : Steps p.tables e below (T.setTop { g with pc := g.pc + 1, stack := v :: rest }) t) : Steps p.tables e below (T.setTop g) t := by
  obtain ⟨cl, A, rfl⟩ := A
  exact X.aaload hx (by rw [eT]; exact A.1) (State.isArrayOf_alike hZ.alike A.2.1) hty A.2.2 (own_in hj hv).1 (own_in hj hv).2 hg hs hd _ k
theorem own_stI (X : Stand p l e R s m args below meth c T locs cells slots) (hx : p.tables.exec = Jvm.exec) (hZ : Z.Warmed39 s.vm) (eT : T.heap = h) (A : own_A Z h a .int vs) {j x : Int32} {i : Nat} (hj : j.toInt = (i : Int)) (hi : i < vs.length) {g : JFrame} (hg : g.method = m) {rest : List Value} (hs : g.stack = .int x :: .int j :: .ref a :: rest) (hd : decode c.code g.pc = .ok (.iastore, 1)) :
    ∃ T' h', Stand p l e R s m args below meth c T' (locs ++ [⟨a, i⟩]) cells slots ∧ T'.heap = h' ∧ Wr h h' a i (.int x) ∧ own_A Z h' a .int (vs.set i (.int x)) ∧ ∀ target, Steps p.tables e below (T'.setTop { g with pc := g.pc + 1, stack := rest }) target → Steps p.tables e below (T.setTop g) target := by
  obtain ⟨cl, A, rfl⟩ := A
  have hin := (own_in (cl := cl) (v := cl.slots.toList[i]) hj (List.getElem?_eq_getElem hi)).1
  obtain ⟨T', h', X', e', W', st⟩ := stI X hx hZ eT A (j := j) (x := x) hin hg hs hd
  rw [(own_ix hj).2] at X' W'
  exact ⟨T', h', X', e', W', own_A.set ⟨cl, A, rfl⟩ W', st⟩
theorem own_stJ (X : Stand p l e R s m args below meth c T locs cells slots) (hx : p.tables.exec = Jvm.exec) (hZ : Z.Warmed39 s.vm) (eT : T.heap = h) (A : own_A Z h a .long vs) {j : Int32} {x : Int64} {i : Nat} (hj : j.toInt = (i : Int)) (hi : i < vs.length) {g : JFrame} (hg : g.method = m) {rest : List Value} (hs : g.stack = .long x :: .int j :: .ref a :: rest) (hd : decode c.code g.pc = .ok (.lastore, 1)) :
    ∃ T' h', Stand p l e R s m args below meth c T' (locs ++ [⟨a, i⟩]) cells slots ∧ T'.heap = h' ∧ Wr h h' a i (.long x) ∧ own_A Z h' a .long (vs.set i (.long x)) ∧ ∀ target, Steps p.tables e below (T'.setTop { g with pc := g.pc + 1, stack := rest }) target → Steps p.tables e below (T.setTop g) target := by
  obtain ⟨cl, A, rfl⟩ := A
  have hin := (own_in (cl := cl) (v := cl.slots.toList[i]) hj (List.getElem?_eq_getElem hi)).1
  obtain ⟨T', h', X', e', W', st⟩ := stJ X hx hZ eT A (j := j) (x := x) hin hg hs hd
  rw [(own_ix hj).2] at X' W'
  exact ⟨T', h', X', e', W', own_A.set ⟨cl, A, rfl⟩ W', st⟩
theorem own_stB (X : Stand p l e R s m args below meth c T locs cells slots) (hx : p.tables.exec = Jvm.exec) (hZ : Z.Warmed39 s.vm) (eT : T.heap = h) (A : own_A Z h a .byte vs) {j x : Int32} {i : Nat} (hj : j.toInt = (i : Int)) (hi : i < vs.length) {g : JFrame} (hg : g.method = m) {rest : List Value} (hs : g.stack = .int x :: .int j :: .ref a :: rest) (hd : decode c.code g.pc = .ok (.bastore, 1)) :
    ∃ T' h', Stand p l e R s m args below meth c T' (locs ++ [⟨a, i⟩]) cells slots ∧ T'.heap = h' ∧ Wr h h' a i (.int x.toInt8.toInt32) ∧ own_A Z h' a .byte (vs.set i (.int x.toInt8.toInt32)) ∧ ∀ target, Steps p.tables e below (T'.setTop { g with pc := g.pc + 1, stack := rest }) target → Steps p.tables e below (T.setTop g) target := by
  obtain ⟨cl, A, rfl⟩ := A
  have hin := (own_in (cl := cl) (v := cl.slots.toList[i]) hj (List.getElem?_eq_getElem hi)).1
  obtain ⟨T', h', X', e', W', st⟩ := stB X hx hZ eT A (j := j) (x := x) hin hg hs hd
  rw [(own_ix hj).2] at X' W'
  exact ⟨T', h', X', e', W', own_A.set ⟨cl, A, rfl⟩ W', st⟩
theorem own_stS (X : Stand p l e R s m args below meth c T locs cells slots) (hx : p.tables.exec = Jvm.exec) (hZ : Z.Warmed39 s.vm) (eT : T.heap = h) (A : own_A Z h a .short vs) {j x : Int32} {i : Nat} (hj : j.toInt = (i : Int)) (hi : i < vs.length) {g : JFrame} (hg : g.method = m) {rest : List Value} (hs : g.stack = .int x :: .int j :: .ref a :: rest) (hd : decode c.code g.pc = .ok (.sastore, 1)) :
    ∃ T' h', Stand p l e R s m args below meth c T' (locs ++ [⟨a, i⟩]) cells slots ∧ T'.heap = h' ∧ Wr h h' a i (.int x.toInt16.toInt32) ∧ own_A Z h' a .short (vs.set i (.int x.toInt16.toInt32)) ∧ ∀ target, Steps p.tables e below (T'.setTop { g with pc := g.pc + 1, stack := rest }) target → Steps p.tables e below (T.setTop g) target := by
  obtain ⟨cl, A, rfl⟩ := A
  have hin := (own_in (cl := cl) (v := cl.slots.toList[i]) hj (List.getElem?_eq_getElem hi)).1
  obtain ⟨T', h', X', e', W', st⟩ := stS X hx hZ eT A (j := j) (x := x) hin hg hs hd
  rw [(own_ix hj).2] at X' W'
  exact ⟨T', h', X', e', W', own_A.set ⟨cl, A, rfl⟩ W', st⟩
theorem own_stC (X : Stand p l e R s m args below meth c T locs cells slots) (hx : p.tables.exec = Jvm.exec) (hZ : Z.Warmed39 s.vm) (eT : T.heap = h) (A : own_A Z h a .char vs) {j x : Int32} {i : Nat} (hj : j.toInt = (i : Int)) (hi : i < vs.length) {g : JFrame} (hg : g.method = m) {rest : List Value} (hs : g.stack = .int x :: .int j :: .ref a :: rest) (hd : decode c.code g.pc = .ok (.castore, 1)) :
    ∃ T' h', Stand p l e R s m args below meth c T' (locs ++ [⟨a, i⟩]) cells slots ∧ T'.heap = h' ∧ Wr h h' a i (.int x.toUInt32.toUInt16.toUInt32.toInt32) ∧ own_A Z h' a .char (vs.set i (.int x.toUInt32.toUInt16.toUInt32.toInt32)) ∧ ∀ target, Steps p.tables e below (T'.setTop { g with pc := g.pc + 1, stack := rest }) target → Steps p.tables e below (T.setTop g) target := by
  obtain ⟨cl, A, rfl⟩ := A
  have hin := (own_in (cl := cl) (v := cl.slots.toList[i]) hj (List.getElem?_eq_getElem hi)).1
  obtain ⟨T', h', X', e', W', st⟩ := stC X hx hZ eT A (j := j) (x := x) hin hg hs hd
  rw [(own_ix hj).2] at X' W'
  exact ⟨T', h', X', e', W', own_A.set ⟨cl, A, rfl⟩ W', st⟩
theorem own_newP {a0 : Array Value} (X : Stand p l e R s m args below meth c T locs cells slots) (hx : p.tables.exec = Jvm.exec) (hZ : Z.Warmed39 s.vm) {aty : ArrayType} (w : (Cond.arrayClass (newarray.typeOf aty)).before a0 Z = true) (eT : T.heap = h) {g : JFrame} (hg : g.method = m) (hd : decode c.code g.pc = .ok (.newarray aty, 2)) {n : Int32} {rest : List Value} (hs : g.stack = .int n :: rest)
    {k cap : Nat} (hk : n.toInt = (k : Int)) (hcap : k ≤ cap) (hb : cap * 8 ≤ 536870912) (hc : cells + 1 ≤ R.cells) (hl : slots + cap ≤ R.slots) {ad : String} (had : "[" ++ (newarray.typeOf aty).toString = ad) :
    ∃ T' h', Stand p l e R s m args below meth c T' locs (cells + 1) (slots + cap) ∧ T'.heap = h' ∧ Ext h h' ∧ own_A Z h' h.size (newarray.typeOf aty) (List.replicate k (defaultValue (newarray.typeOf aty))) ∧ Exa Z h' h.size ad ∧
      ∀ target, Steps p.tables e below (T'.setTop { g with pc := g.pc + 2, stack := .ref h.size :: rest }) target → Steps p.tables e below (T.setTop g) target := by
  obtain ⟨n0, n1⟩ := own_ix hk
  obtain ⟨T', h', cA, X', e', E', A', x', st⟩ := newPE X hx hZ w eT hg hd hs n0 (cap := cap) (by rw [n1]; exact hcap) hb hc hl had
  exact ⟨T', h', X', e', E', ⟨_, A', by simp [newA, n1]⟩, x', st⟩
theorem own_clone {a0 : Array Value} (X : Stand p l e R s m args below meth c T locs cells slots) (hx : p.tables.exec = Jvm.exec) (hZ : Z.Warmed39 s.vm) {own ad : String} {index : Nat} (hown : s.vm.findClass own = some m.cls)
    (w1 : (Cond.methodLink own index ⟨ad, "clone", "()Ljava/lang/Object;"⟩).before a0 Z = true) (w2 : (Cond.sameMethod ad "java/lang/Object" "clone" "()Ljava/lang/Object;").before a0 Z = true) (w3 : (Cond.native ⟨"java/lang/Object", "clone", "()Ljava/lang/Object;"⟩).before a0 Z = true)
    (w4 : (Cond.instanceMethod ⟨"java/lang/Object", "clone", "()Ljava/lang/Object;"⟩).before a0 Z = true) (w5 : (Cond.selects ad ⟨ad, "clone", "()Ljava/lang/Object;"⟩ ⟨"java/lang/Object", "clone", "()Ljava/lang/Object;"⟩).before a0 Z = true) (w6 : (Cond.castable ad "java/lang/Cloneable").before a0 Z = true)
    (eT : T.heap = h) (A : own_A Z h a ty vs) (E : Exa Z h a ad) (hf : ∀ v ∈ vs, fits ty v = true) {g : JFrame} (hg : g.method = m) (hsize : g.locals.size = c.maxLocals) {rest : List Value} (hst : g.stack = .ref a :: rest) (hd : decode c.code g.pc = .ok (.invokevirtual index, 3))
    (hfr : 1 ≤ R.frames) {W cap : Nat} (hW : 2 * g.monitorRoom + (rest.map fun v => v.category).sum ≤ W) (hl : W + 14 ≤ R.locals) (hcap : vs.length ≤ cap) (hc : cells + 1 ≤ R.cells) (hsl : slots + cap ≤ R.slots) :
    ∃ T' h', Stand p l e R s m args below meth c T' locs (cells + 1) (slots + cap) ∧ T'.heap = h' ∧ Ext h h' ∧ own_A Z h' h.size ty vs ∧ Exa Z h' h.size ad ∧
      ∀ target, Steps p.tables e below (T'.setTop { g with pc := g.pc + 3, stack := .ref h.size :: rest }) target → Steps p.tables e below (T.setTop g) target := by
  obtain ⟨cl, A, rfl⟩ := A
  have FC : FitC Z cl := fitC_of A fun i hi v hv => hf v (by
    rw [← Array.getElem?_toList] at hv
    exact List.mem_of_getElem? hv)
  obtain ⟨T', h', X', e', ex, A', E', st⟩ := cloneA X hx hZ hown w1 w2 w3 w4 w5 w6 eT A E FC hg hsize hst hd hfr hW hl (by simpa using hcap) hc hsl
  exact ⟨T', h', X', e', ex, ⟨_, A', rfl⟩, E', st⟩
def own_Ov (C : String) (Z : State) (h : Heap) (a : Addr) : Prop := ∃ c : Cell, h[a]? = some c ∧ Ovr Z c.cls C
theorem own_Ov.lt {C : String} (F : own_Ov C Z h a) : a < h.size := by obtain ⟨c, q, -⟩ := F; exact (Array.getElem?_eq_some_iff.mp q).1
theorem own_Ov.ext {C : String} (F : own_Ov C Z h a) (E : Ext h h') : own_Ov C Z h' a := by obtain ⟨c, q, r⟩ := F; exact ⟨c, E.2 _ _ q, r⟩
theorem own_Ov.other {C : String} {sl : Nat} {v : Value} (F : own_Ov C Z h a) (W : Wr h h' b sl v) (ne : a ≠ b) : own_Ov C Z h' a := by
  obtain ⟨c, q, r⟩ := F
  obtain ⟨c', q', -, -, -, e, -⟩ := wr_at W q
  exact ⟨c', q', by rw [e ne]; exact r⟩
theorem own_Ov.keep {C : String} {ws : List Addr} (F : own_Ov C Z h a) (K : Keep h h' ws) (ne : a ∉ ws) : own_Ov C Z h' a := by obtain ⟨c, q, r⟩ := F; exact ⟨c, K.2.1 _ _ q ne, r⟩
theorem own_newR {a0 : Array Value} (X : Stand p l e R s m args below meth c T locs cells slots) (hx : p.tables.exec = Jvm.exec) (hZ : Z.Warmed39 s.vm) {own C : String} {index : Nat} (hown : s.vm.findClass own = some m.cls) (w1 : (Cond.classLink own index C).before a0 Z = true) (w2 : (Cond.arrayOver (.object C)).before a0 Z = true) (eT : T.heap = h) {g : JFrame} (hg : g.method = m) (hd : decode c.code g.pc = .ok (.anewarray index, 3)) {n : Int32} {rest : List Value} (hs : g.stack = .int n :: rest)
    {k cap : Nat} (hk : n.toInt = (k : Int)) (hcap : k ≤ cap) (hb : cap * 8 ≤ 536870912) (hc : cells + 1 ≤ R.cells) (hl : slots + cap ≤ R.slots) {ad : String} (had : "[" ++ (FieldType.object C).toString = ad) :
    ∃ T' h', Stand p l e R s m args below meth c T' locs (cells + 1) (slots + cap) ∧ T'.heap = h' ∧ Ext h h' ∧ own_A Z h' h.size (.object C) (List.replicate k .null) ∧ Exa Z h' h.size ad ∧ own_Ov C Z h' h.size ∧
      ∀ target, Steps p.tables e below (T'.setTop { g with pc := g.pc + 3, stack := .ref h.size :: rest }) target → Steps p.tables e below (T.setTop g) target := by
  obtain ⟨n0, n1⟩ := own_ix hk
  obtain ⟨T', h', cA, X', e', E', A', x', O', st⟩ := newRE X hx hZ hown w1 w2 eT hg hd hs n0 (cap := cap) (by rw [n1]; exact hcap) hb hc hl had
  exact ⟨T', h', X', e', E', ⟨_, A', by simp [newA, n1, defaultValue]⟩, x', ⟨_, A'.1, O'⟩, st⟩
theorem own_stR {C : String} (X : Stand p l e R s m args below meth c T locs cells slots) (hx : p.tables.exec = Jvm.exec) (hZ : Z.Warmed39 s.vm) (eT : T.heap = h) (A : own_A Z h a (.object C) vs) (O : own_Ov C Z h a) {y : Addr} (I : Ins Z h y C true) {j : Int32} {i : Nat} (hj : j.toInt = (i : Int)) (hi : i < vs.length) {g : JFrame} (hg : g.method = m) {rest : List Value} (hs : g.stack = .ref y :: .int j :: .ref a :: rest) (hd : decode c.code g.pc = .ok (.aastore, 1)) :
    ∃ T' h', Stand p l e R s m args below meth c T' (locs ++ [⟨a, i⟩]) cells slots ∧ T'.heap = h' ∧ Wr h h' a i (.ref y) ∧ own_A Z h' a (.object C) (vs.set i (.ref y)) ∧ ∀ target, Steps p.tables e below (T'.setTop { g with pc := g.pc + 1, stack := rest }) target → Steps p.tables e below (T.setTop g) target := by
  obtain ⟨cl, A, rfl⟩ := A
  obtain ⟨c2, q, r⟩ := O
  cases A.1.symm.trans q
  have hin := (own_in (cl := cl) (v := cl.slots.toList[i]) hj (List.getElem?_eq_getElem hi)).1
  obtain ⟨T', h', X', e', W', st⟩ := stR X hx hZ eT A (j := j) (v := .ref y) hin rfl (Sto.of A r I) hg hs hd
  rw [(own_ix hj).2] at X' W'
  exact ⟨T', h', X', e', W', own_A.set ⟨cl, A, rfl⟩ W', st⟩
theorem own_len (X : Stand p l e R s m args below meth c T locs cells slots) (hx : p.tables.exec = Jvm.exec) (hZ : Z.Warmed39 s.vm) (eT : T.heap = h) (A : own_A Z h a ty vs) {n : Int32} (hn : n.toInt = (vs.length : Int)) {g : JFrame} (hg : g.method = m) {rest : List Value} (hs : g.stack = .ref a :: rest) (hd : decode c.code g.pc = .ok (.arraylength, 1)) {t : State}
    (k : Steps p.tables e below (T.setTop { g with pc := g.pc + 1, stack := .int n :: rest }) t) : Steps p.tables e below (T.setTop g) t := by
  obtain ⟨cl, A, rfl⟩ := A
  have h1 := n.toInt_lt
  have h2 : cl.slots.size.toInt32 = n := by
    refine Int32.toInt_inj.mp ?_
    rw [hn]
    have h3 : cl.slots.toList.length = cl.slots.size := by simp
    rw [h3] at hn ⊢
    exact len_toInt (by omega)
  refine X.arraylength hx (by rw [eT]; exact A.1) (State.isArrayOf_alike hZ.alike A.2.1) hg hs hd _ ?_
  rw [h2]; exact k
theorem own_lrem (X : Stand p l e R s m args below meth c T locs cells slots) (hx : p.tables.exec = Jvm.exec) {g : JFrame} (hg : g.method = m) {x y : Int64} {rest : List Value} (hd : decode c.code g.pc = .ok (.lrem, 1)) (hs : g.stack = .long y :: .long x :: rest) (hy : y ≠ 0) {t : State}
    (k : Steps p.tables e below (T.setTop { g with pc := g.pc + 1, stack := .long (x % y) :: rest }) t) : Steps p.tables e below (T.setTop g) t := XS.lrem X.here hx hg hd hs hy (by rw [lrem_mod]; exact k)
end OwnA
theorem own_Sta.keep {Z : State} {h h' : Heap} {ws : List Addr} {C n d : String} {v : Value} (F : Sta Z h C n d v) (K : Keep h h' ws) (q : ∀ st ∈ ws, ∀ cell : Cell, h[st]? = some cell → cell.vm.isStatics = false) : Sta Z h' C n d v := by
  obtain ⟨cf, i, k, f, st, cell, h1, h2, h3, h4, h5, h6, h7⟩ := F
  refine ⟨cf, i, k, f, st, cell, h1, h2, h3, h4, K.2.1 st cell h5 fun hm => ?_, h6, h7⟩
  rw [q st hm cell h5] at h6
  cases h6
theorem own_z_eq_t {c : Prop} [Decidable c] (h : ¬ c) : ifCond.holds .eq (if c then (1 : Int32) else 0) = true := by rw [if_neg h]; rfl
theorem own_z_eq_f {c : Prop} [Decidable c] (h : c) : ifCond.holds .eq (if c then (1 : Int32) else 0) = false := by rw [if_pos h]; rfl
theorem own_z_ne_t {c : Prop} [Decidable c] (h : c) : ifCond.holds .ne (if c then (1 : Int32) else 0) = true := by rw [if_pos h]; rfl
theorem own_z_ne_f {c : Prop} [Decidable c] (h : ¬ c) : ifCond.holds .ne (if c then (1 : Int32) else 0) = false := by rw [if_neg h]; rfl
theorem own_z_nar {c : Prop} [Decidable c] : nar .boolean (if c then (1 : Int32) else 0) = if c then (1 : Int32) else 0 := by split <;> rfl
/-- two slots that hold nothing or a long, whose value nobody reads again -/
def own_Two (a b : Slot) : Prop := (a = .unset ∧ b = .unset) ∨ ∃ z, a = .val (.long z) ∧ b = .second
theorem own_plainE {Z : State} {h : Heap} {a : Addr} {C : String} (F : Exa Z h a C) : ∀ cell : Cell, h[a]? = some cell → cell.vm.isStatics = false := fun cell hc => by
  obtain ⟨c, k, h1, -, -, h4, -⟩ := F
  cases h1.symm.trans hc
  exact h4
theorem own_plainA {Z : State} {h : Heap} {a : Addr} {ty : FieldType} {vs : List Value} (F : own_A Z h a ty vs) : ∀ cell : Cell, h[a]? = some cell → cell.vm.isStatics = false := fun cell hc => by
  obtain ⟨c, A, -⟩ := F
  cases A.1.symm.trans hc
  exact A.plain
theorem own_pop2 {tb : Tables} [Ours tb] {e : Env} {below : List Frame} {T target : State} {m : MethodId} {c : Code} {g : JFrame} (h : At T m c below) (hx : tb.exec = Jvm.exec) (hg : g.method = m) {x : Int64} {rest : List Value} (hd : decode c.code g.pc = .ok (.pop2, 1)) (hs : g.stack = .long x :: rest)
    (hr : Steps tb e below (T.setTop { g with pc := g.pc + 1, stack := rest }) target) : Steps tb e below (T.setTop g) target := by
  subst hg
  jvm_step h [h.top, hx, hd, hs, Value.category]
  exact hr
theorem own_min1 {i : Int32} {n : Nat} (h0 : 0 ≤ i.toInt) (h1 : i.toInt < (n : Int)) (hn : n < 1000) : (i + 1).toInt.toNat = i.toInt.toNat + 1 ∧ (i + 1).toInt = i.toInt + 1 := by
  have h2 := c_iadd i 1
  have h3 := rng32 (i + 1)
  have h4 : (1 : Int32).toInt = 1 := rfl
  omega
theorem own_ltN {i : Int32} {n : Nat} (hn : n < 1000) : i < n.toInt32 ↔ i.toInt < (n : Int) := by
  rw [Int32.lt_iff_toInt_lt, len_toInt (by omega)]
theorem own_getI {bs : List Int32} {i : Nat} (h : i < bs.length) : (bs.map Value.int)[i]? = some (.int (bs.getD i 0)) := by
  simp [List.getElem?_map, h]
theorem own_nat {i : Int32} (h : 0 ≤ i.toInt) : i.toInt = ((i.toInt.toNat : Nat) : Int) := by omega
theorem w_0 {a0 : Array Value} {Z : State} (hw : ∀ d ∈ tables_1, d.before a0 Z = true) : (Jvm.Cond.methodLink "com/example/marshal_lock/marshallock/internal/AttemptRepliesIsFirstHoldPinLaw" (7 : Nat) ({ cls := "com/example/marshal_lock/marshallock/internal/AttemptReplies", name := "isFirstHold", desc := "(J)Z" } : Jvm.MethodName)).before a0 Z = true := hw _ (List.mem_of_getElem? (i := 0) rfl)
theorem w_1 {a0 : Array Value} {Z : State} (hw : ∀ d ∈ tables_1, d.before a0 Z = true) : (Jvm.Cond.static ({ cls := "com/example/marshal_lock/marshallock/internal/AttemptReplies", name := "isFirstHold", desc := "(J)Z" } : Jvm.MethodName)).before a0 Z = true := hw _ (List.mem_of_getElem? (i := 1) rfl)
theorem w_2 {a0 : Array Value} {Z : State} (hw : ∀ d ∈ tables_1, d.before a0 Z = true) : (Jvm.Cond.initialized "com/example/marshal_lock/marshallock/internal/AttemptReplies").before a0 Z = true := hw _ (List.mem_of_getElem? (i := 2) rfl)
theorem w_3 {a0 : Array Value} {Z : State} (hw : ∀ d ∈ tables_1, d.before a0 Z = true) : (Jvm.Cond.code ({ cls := "com/example/marshal_lock/marshallock/internal/AttemptReplies", name := "isFirstHold", desc := "(J)Z" } : Jvm.MethodName) prog_3_method_3_code (2 : Nat) (Option.some Jvm.ClassFile.FieldType.boolean)).before a0 Z = true := hw _ (List.mem_of_getElem? (i := 3) rfl)
theorem w_4 {a0 : Array Value} {Z : State} (hw : ∀ d ∈ tables_1, d.before a0 Z = true) : (Jvm.Cond.methodLink "com/example/marshal_lock/marshallock/internal/AttemptRepliesIsFirstHoldPinLaw" (13 : Nat) ({ cls := "com/example/marshal_lock/marshallock/internal/AttemptReplies", name := "held", desc := "(J)Z" } : Jvm.MethodName)).before a0 Z = true := hw _ (List.mem_of_getElem? (i := 4) rfl)
theorem w_5 {a0 : Array Value} {Z : State} (hw : ∀ d ∈ tables_1, d.before a0 Z = true) : (Jvm.Cond.static ({ cls := "com/example/marshal_lock/marshallock/internal/AttemptReplies", name := "held", desc := "(J)Z" } : Jvm.MethodName)).before a0 Z = true := hw _ (List.mem_of_getElem? (i := 5) rfl)
theorem w_6 {a0 : Array Value} {Z : State} (hw : ∀ d ∈ tables_1, d.before a0 Z = true) : (Jvm.Cond.code ({ cls := "com/example/marshal_lock/marshallock/internal/AttemptReplies", name := "held", desc := "(J)Z" } : Jvm.MethodName) prog_3_method_2_code (2 : Nat) (Option.some Jvm.ClassFile.FieldType.boolean)).before a0 Z = true := hw _ (List.mem_of_getElem? (i := 6) rfl)
theorem w_7 {a0 : Array Value} {Z : State} (hw : ∀ d ∈ tables_1, d.before a0 Z = true) : (Jvm.Cond.constantLong "com/example/marshal_lock/marshallock/internal/AttemptRepliesIsFirstHoldPinLaw" (16 : Nat) (2 : Int64)).before a0 Z = true := hw _ (List.mem_of_getElem? (i := 7) rfl)
theorem w_8 {a0 : Array Value} {Z : State} (hw : ∀ d ∈ tables_1, d.before a0 Z = true) : (Jvm.Cond.constantLong "com/example/marshal_lock/marshallock/internal/AttemptRepliesIsFirstHoldPinLaw" (18 : Nat) (-1 : Int64)).before a0 Z = true := hw _ (List.mem_of_getElem? (i := 8) rfl)
theorem own_pn1 : plainName "com/example/marshal_lock/marshallock/internal/AttemptReplies" = true := by first | (simp [plainName, overriddenIn]; done) | decide +kernel
theorem d1_0 : decode prog_3_method_3_code 0 = .ok (.lload_n 0, 1) := by decide +kernel
theorem d1_1 : decode prog_3_method_3_code 1 = .ok (.lconst 1, 1) := by decide +kernel
theorem d1_2 : decode prog_3_method_3_code 2 = .ok (.lcmp, 1) := by decide +kernel
theorem d1_3 : decode prog_3_method_3_code 3 = .ok (.ifCond .ne 7, 3) := by decide +kernel
theorem d1_6 : decode prog_3_method_3_code 6 = .ok (.iconst 1, 1) := by decide +kernel
theorem d1_7 : decode prog_3_method_3_code 7 = .ok (.goto 4, 3) := by decide +kernel
theorem d1_10 : decode prog_3_method_3_code 10 = .ok (.iconst 0, 1) := by decide +kernel
theorem d1_11 : decode prog_3_method_3_code 11 = .ok (.ireturn, 1) := by decide +kernel
theorem ef_1 (m : MethodId) (x0 : Int64) : entryFrame m #[(.long x0)] 2 = mkF m 0 #[.val (.long x0), .second] [] := by first | (simp [entryFrame, mkF, argsToLocals, Value.category]; done) | rfl
def own_f1 (q1 : Int64) : Int32 := (if q1 = (1 : Int64) then (1 : Int32) else (0 : Int32))
def Q1 (Z : State) (q1 : Int64) (h0 : Heap) (n0 : Nat) (v : Option Value) (h : Heap) (L : List Loc) : Prop := v = some (.int (own_f1 q1)) ∧ Fr n0 L ∧ h = h0
set_option maxHeartbeats 40000000 in
theorem rm1 (l : Launch) (Z : State) (a0 : Array Value) (hw : ∀ d ∈ tables_1, d.before a0 Z = true) (ws : List Jvm.Cond) (q1 : Int64) (h0 : Heap) (n0 : Nat) (Z0 : n0 ≤ h0.size) :
    MetFree l (⟨"com/example/marshal_lock/marshallock/internal/AttemptReplies", "isFirstHold", "(J)Z"⟩ : MethodName) (head1 (Jvm.Cond.code (⟨"com/example/marshal_lock/marshallock/internal/AttemptReplies", "isFirstHold", "(J)Z"⟩ : MethodName) prog_3_method_3_code 2 (some .boolean) :: ws) ({ frames := 0, cells := 0, slots := 0, locals := 0 } : Room)) (fun a U => a = #[(.long q1)] ∧ Z.Warmed39 U.vm ∧ U.heap = h0) (fun _ _ _ _ _ => True) (fun _ U o U' => ∃ v L, o = .returned v ∧ Q1 Z q1 h0 n0 v U'.heap L ∧ FrameEnd U o U' L ({ frames := 0, cells := 0, slots := 0, locals := 0 } : Room).cells ({ frames := 0, cells := 0, slots := 0, locals := 0 } : Room).slots) := by
  refine MetFree.of_bodySF (plainFor_of_name own_pn1) hisR ?_
  intro p e s m args below meth c s₁ Bd hml0 hP hK
  obtain ⟨rfl, hZ, hh⟩ := hP
  have hx := Bd.exec
  have hby := Bd.bytes
  have hml : c.maxLocals = 2 := hml0
  have hlk : meth.locks = false := BodyLoose.notSynchronized Bd
  have hown : s.vm.findClass "com/example/marshal_lock/marshallock/internal/AttemptReplies" = some m.cls := findClass_of_methodNamed Bd.named
  have hnm := (name_of_methodNamed Bd.named Bd.method).1
  have X0 : Stand p l e ({ frames := 0, cells := 0, slots := 0, locals := 0 } : Room) s m #[(.long q1)] below meth c s₁ [] 0 0 := Stand.of_body Bd
  have e0 : s₁.heap = h0 := by rw [← hh, Bd.state]; rfl
  have N0 := Fr.nil n0
  show own_Go p e below s (Q1 Z q1 h0 n0) ({ frames := 0, cells := 0, slots := 0, locals := 0 } : Room).cells ({ frames := 0, cells := 0, slots := 0, locals := 0 } : Room).slots _
  refine own_st (B := s₁.setTop (mkF m 0 #[.val (.long q1), .second] [])) (fun t k => castTop (ef_1 m (q1)) k) ?_
  refine own_st (B := s₁.setTop (mkF m 1 #[.val (.long q1), .second] [(.long q1)])) (fun t k => XS.lloadN X0.here hx rfl (hb hby d1_0) rfl k) ?_
  refine own_st (B := s₁.setTop (mkF m 2 #[.val (.long q1), .second] [(.long (1 : Int64)), (.long q1)])) (fun t k => XS.lconst X0.here hx rfl (hb hby d1_1) k) ?_
  refine own_st (B := s₁.setTop (mkF m 3 #[.val (.long q1), .second] [(.int (XT.cmpL q1 (1 : Int64)))])) (fun t k => XS.lcmp X0.here hx rfl (hb hby d1_2) rfl k) ?_
  by_cases hc1 : q1 = (1 : Int64)
  · refine own_st (B := s₁.setTop (mkF m 6 #[.val (.long q1), .second] [])) (fun t k => XS.ifNo X0.here hx rfl (hb hby d1_3) rfl (XT.ll_ne_f hc1) k) ?_
    refine own_st (B := s₁.setTop (mkF m 7 #[.val (.long q1), .second] [(.int (1 : Int32))])) (fun t k => XS.iconst X0.here hx rfl (hb hby d1_6) k) ?_
    refine own_st (B := s₁.setTop (mkF m 11 #[.val (.long q1), .second] [(.int (1 : Int32))])) (fun t k => XS.goto X0.here hx rfl (pc0 := 7) (pc' := 11) rfl (hb hby d1_7) (by decide) (by decide) k) ?_
    refine own_retN X0 hx hlk (t := .boolean) Bd.returns (by simp) (z' := (1 : Int32)) rfl (hb hby d1_11) (by decide) (by decide) ?_
    show Q1 Z q1 h0 n0 _ s₁.heap _
    rw [e0]
    exact ⟨(by unfold own_f1; rw [if_pos hc1]), N0, rfl⟩
  · refine own_st (B := s₁.setTop (mkF m 10 #[.val (.long q1), .second] [])) (fun t k => XS.ifYes X0.here hx rfl (pc0 := 3) (pc' := 10) rfl (hb hby d1_3) rfl (XT.ll_ne_t hc1) (by decide) (by decide) k) ?_
    refine own_st (B := s₁.setTop (mkF m 11 #[.val (.long q1), .second] [(.int (0 : Int32))])) (fun t k => XS.iconst X0.here hx rfl (hb hby d1_10) k) ?_
    refine own_retN X0 hx hlk (t := .boolean) Bd.returns (by simp) (z' := (0 : Int32)) rfl (hb hby d1_11) (by decide) (by decide) ?_
    show Q1 Z q1 h0 n0 _ s₁.heap _
    rw [e0]
    exact ⟨(by unfold own_f1; rw [if_neg hc1]), N0, rfl⟩
theorem d2_0 : decode prog_3_method_2_code 0 = .ok (.lload_n 0, 1) := by decide +kernel
theorem d2_1 : decode prog_3_method_2_code 1 = .ok (.lconst 0, 1) := by decide +kernel
theorem d2_2 : decode prog_3_method_2_code 2 = .ok (.lcmp, 1) := by decide +kernel
theorem d2_3 : decode prog_3_method_2_code 3 = .ok (.ifCond .le 7, 3) := by decide +kernel
theorem d2_6 : decode prog_3_method_2_code 6 = .ok (.iconst 1, 1) := by decide +kernel
theorem d2_7 : decode prog_3_method_2_code 7 = .ok (.goto 4, 3) := by decide +kernel
theorem d2_10 : decode prog_3_method_2_code 10 = .ok (.iconst 0, 1) := by decide +kernel
theorem d2_11 : decode prog_3_method_2_code 11 = .ok (.ireturn, 1) := by decide +kernel
theorem ef_2 (m : MethodId) (x0 : Int64) : entryFrame m #[(.long x0)] 2 = mkF m 0 #[.val (.long x0), .second] [] := by first | (simp [entryFrame, mkF, argsToLocals, Value.category]; done) | rfl
def own_f2 (q1 : Int64) : Int32 := (if (0 : Int64) < q1 then (1 : Int32) else (0 : Int32))
def Q2 (Z : State) (q1 : Int64) (h0 : Heap) (n0 : Nat) (v : Option Value) (h : Heap) (L : List Loc) : Prop := v = some (.int (own_f2 q1)) ∧ Fr n0 L ∧ h = h0
set_option maxHeartbeats 40000000 in
theorem rm2 (l : Launch) (Z : State) (a0 : Array Value) (hw : ∀ d ∈ tables_1, d.before a0 Z = true) (ws : List Jvm.Cond) (q1 : Int64) (h0 : Heap) (n0 : Nat) (Z0 : n0 ≤ h0.size) :
    MetFree l (⟨"com/example/marshal_lock/marshallock/internal/AttemptReplies", "held", "(J)Z"⟩ : MethodName) (head1 (Jvm.Cond.code (⟨"com/example/marshal_lock/marshallock/internal/AttemptReplies", "held", "(J)Z"⟩ : MethodName) prog_3_method_2_code 2 (some .boolean) :: ws) ({ frames := 0, cells := 0, slots := 0, locals := 0 } : Room)) (fun a U => a = #[(.long q1)] ∧ Z.Warmed39 U.vm ∧ U.heap = h0) (fun _ _ _ _ _ => True) (fun _ U o U' => ∃ v L, o = .returned v ∧ Q2 Z q1 h0 n0 v U'.heap L ∧ FrameEnd U o U' L ({ frames := 0, cells := 0, slots := 0, locals := 0 } : Room).cells ({ frames := 0, cells := 0, slots := 0, locals := 0 } : Room).slots) := by
  refine MetFree.of_bodySF (plainFor_of_name own_pn1) hisR ?_
  intro p e s m args below meth c s₁ Bd hml0 hP hK
  obtain ⟨rfl, hZ, hh⟩ := hP
  have hx := Bd.exec
  have hby := Bd.bytes
  have hml : c.maxLocals = 2 := hml0
  have hlk : meth.locks = false := BodyLoose.notSynchronized Bd
  have hown : s.vm.findClass "com/example/marshal_lock/marshallock/internal/AttemptReplies" = some m.cls := findClass_of_methodNamed Bd.named
  have hnm := (name_of_methodNamed Bd.named Bd.method).1
  have X0 : Stand p l e ({ frames := 0, cells := 0, slots := 0, locals := 0 } : Room) s m #[(.long q1)] below meth c s₁ [] 0 0 := Stand.of_body Bd
  have e0 : s₁.heap = h0 := by rw [← hh, Bd.state]; rfl
  have N0 := Fr.nil n0
  show own_Go p e below s (Q2 Z q1 h0 n0) ({ frames := 0, cells := 0, slots := 0, locals := 0 } : Room).cells ({ frames := 0, cells := 0, slots := 0, locals := 0 } : Room).slots _
  refine own_st (B := s₁.setTop (mkF m 0 #[.val (.long q1), .second] [])) (fun t k => castTop (ef_2 m (q1)) k) ?_
  refine own_st (B := s₁.setTop (mkF m 1 #[.val (.long q1), .second] [(.long q1)])) (fun t k => XS.lloadN X0.here hx rfl (hb hby d2_0) rfl k) ?_
  refine own_st (B := s₁.setTop (mkF m 2 #[.val (.long q1), .second] [(.long (0 : Int64)), (.long q1)])) (fun t k => XS.lconst X0.here hx rfl (hb hby d2_1) k) ?_
  refine own_st (B := s₁.setTop (mkF m 3 #[.val (.long q1), .second] [(.int (XT.cmpL q1 (0 : Int64)))])) (fun t k => XS.lcmp X0.here hx rfl (hb hby d2_2) rfl k) ?_
  by_cases hc1 : (0 : Int64) < q1
  · refine own_st (B := s₁.setTop (mkF m 6 #[.val (.long q1), .second] [])) (fun t k => XS.ifNo X0.here hx rfl (hb hby d2_3) rfl (XT.ll_le_f hc1) k) ?_
    refine own_st (B := s₁.setTop (mkF m 7 #[.val (.long q1), .second] [(.int (1 : Int32))])) (fun t k => XS.iconst X0.here hx rfl (hb hby d2_6) k) ?_
    refine own_st (B := s₁.setTop (mkF m 11 #[.val (.long q1), .second] [(.int (1 : Int32))])) (fun t k => XS.goto X0.here hx rfl (pc0 := 7) (pc' := 11) rfl (hb hby d2_7) (by decide) (by decide) k) ?_
    refine own_retN X0 hx hlk (t := .boolean) Bd.returns (by simp) (z' := (1 : Int32)) rfl (hb hby d2_11) (by decide) (by decide) ?_
    show Q2 Z q1 h0 n0 _ s₁.heap _
    rw [e0]
    exact ⟨(by unfold own_f2; rw [if_pos hc1]), N0, rfl⟩
  · refine own_st (B := s₁.setTop (mkF m 10 #[.val (.long q1), .second] [])) (fun t k => XS.ifYes X0.here hx rfl (pc0 := 3) (pc' := 10) rfl (hb hby d2_3) rfl (XT.ll_le_t hc1) (by decide) (by decide) k) ?_
    refine own_st (B := s₁.setTop (mkF m 11 #[.val (.long q1), .second] [(.int (0 : Int32))])) (fun t k => XS.iconst X0.here hx rfl (hb hby d2_10) k) ?_
    refine own_retN X0 hx hlk (t := .boolean) Bd.returns (by simp) (z' := (0 : Int32)) rfl (hb hby d2_11) (by decide) (by decide) ?_
    show Q2 Z q1 h0 n0 _ s₁.heap _
    rw [e0]
    exact ⟨(by unfold own_f2; rw [if_neg hc1]), N0, rfl⟩
theorem own_first (q : Int64) : own_f1 q = if q.toInt = 1 then 1 else 0 := by
  unfold own_f1
  simp only [← Int64.toInt_inj]
  rfl
theorem own_held (q : Int64) : own_f2 q = if 0 < q.toInt then 1 else 0 := by
  unfold own_f2
  simp only [Int64.lt_iff_toInt_lt]
  rfl
theorem own_held0 (q : Int64) : own_f2 q = 0 ↔ q.toInt ≤ 0 := by
  rw [own_held]
  split <;> simp <;> omega
theorem own_no {q : Int64} (h : own_f2 q = 0) : own_f1 q = 0 := by
  rw [own_held0] at h
  rw [own_first, if_neg]; omega
theorem own_yes {q : Int64} (h : ¬ (own_f2 q = 0)) (h' : own_f2 (q - 1) = 0) : own_f1 q = 1 := by
  rw [own_held0] at h h'
  have h1 := c_lsub q 1
  have h2 := rng64 q
  have h3 : (1 : Int64).toInt = 1 := rfl
  have h4 := rng64 (q - 1)
  rw [own_first, if_pos]; omega
theorem own_late {q : Int64} (h : ¬ (own_f2 q = 0)) (h' : ¬ (own_f2 (q - 1) = 0)) : own_f1 q = 0 := by
  rw [own_held0] at h h'
  have h1 := c_lsub q 1
  have h2 := rng64 q
  have h3 : (1 : Int64).toInt = 1 := rfl
  have h4 := rng64 (q - 1)
  rw [own_first, if_neg]; omega
theorem own_pd1 : parseMethodDescriptor "(J)Z" = some ⟨[.long], some .boolean⟩ := by decide +kernel
theorem own_pn2 : plainName "com/example/marshal_lock/marshallock/internal/AttemptRepliesIsFirstHoldPinLaw" = true := by first | (simp [plainName, overriddenIn]; done) | decide +kernel
theorem ef_0 (m : MethodId) (x0 : Int64) : entryFrame m #[(.long x0)] maxLocals = mkF m 0 #[.val (.long x0), .second, .unset, .unset, .unset] [] := by first | (simp [entryFrame, mkF, argsToLocals, Value.category, maxLocals]; done) | rfl
def Q0 (Z : State) (arg0 : Int64) (h0 : Heap) (n0 : Nat) (v : Option Value) (h : Heap) (L : List Loc) : Prop := v = some (.int 1) ∧ Fr n0 L
set_option maxHeartbeats 40000000 in
theorem rm0 (l : Launch) (Z : State) (a0 : Array Value) (hw : ∀ d ∈ tables_1, d.before a0 Z = true) (ws : List Jvm.Cond) (arg0 : Int64) (h0 : Heap) (n0 : Nat) (Z0 : n0 ≤ h0.size) :
    MetFree l x (head1 (Jvm.Cond.code x code maxLocals ret :: ws) room_1) (fun a U => a = #[(.long arg0)] ∧ Z.Warmed39 U.vm ∧ U.heap = h0) (fun _ _ _ _ _ => True) (fun _ U o U' => ∃ v L, o = .returned v ∧ Q0 Z arg0 h0 n0 v U'.heap L ∧ FrameEnd U o U' L 0 0) := by
  refine MetFree.of_bodySF (plainFor_of_name own_pn2) hisR ?_
  intro p e s m args below meth c s₁ Bd hml0 hP hK
  obtain ⟨rfl, hZ, hh⟩ := hP
  have hx := Bd.exec
  have hby := Bd.bytes
  have hml : c.maxLocals = 5 := hml0
  have hlk : meth.locks = false := BodyLoose.notSynchronized Bd
  have hown : s.vm.findClass "com/example/marshal_lock/marshallock/internal/AttemptRepliesIsFirstHoldPinLaw" = some m.cls := findClass_of_methodNamed Bd.named
  have hnm := (name_of_methodNamed Bd.named Bd.method).1
  have X0 : Stand p l e room_1 s m #[(.long arg0)] below meth c s₁ [] 0 0 := Stand.of_body Bd
  have e0 : s₁.heap = h0 := by rw [← hh, Bd.state]; rfl
  have N0 := Fr.nil n0
  show own_Go p e below s (Q0 Z arg0 h0 n0) 0 0 _
  refine own_st (B := s₁.setTop (mkF m 0 #[.val (.long arg0), .second, .unset, .unset, .unset] [])) (fun t k => castTop (ef_0 m (arg0)) k) ?_
  refine own_st (B := s₁.setTop (mkF m 1 #[.val (.long arg0), .second, .unset, .unset, .unset] [(.long arg0)])) (fun t k => XS.lloadN X0.here hx rfl (hb hby at_0) rfl k) ?_
  obtain ⟨_, _, ⟨T1, L1, k1, j1⟩, -, X1, ⟨Lc1, hQ1, l1, y1_, z1_⟩, st1⟩ := Jvm.LawKit.callS X0 hx (y := (⟨"com/example/marshal_lock/marshallock/internal/AttemptReplies", "isFirstHold", "(J)Z"⟩ : MethodName)) hown (mvT hZ (w_0 hw)) (mvT hZ (w_1 hw)) (mvT hZ (w_2 hw)) (mvT hZ (w_3 hw)) (by decide) (backOf (W := 0) (rm1 l Z a0 hw [] arg0 h0 n0 Z0 ) hZ (w_3 hw) (w_2 hw) (by decide) (by decide)) (g := (mkF m 1 #[.val (.long arg0), .second, .unset, .unset, .unset] [(.long arg0)])) rfl (by rw [hml]; rfl) (argsL := [(.long arg0)]) (rest := []) (lenOf own_pd1 rfl) rfl (by show 2 * 0 + _ ≤ _; exact Nat.le_of_eq rfl) (hb hby at_1) (fun _ _ => ⟨rfl, e0, (by decide : 0 + 0 ≤ _), (by decide : 0 + 0 ≤ _)⟩)
  dsimp only [Pt.U, Pt.locs, Pt.cells, Pt.slots] at X1 l1 y1_ z1_ st1 hQ1
  subst l1 y1_ z1_
  obtain ⟨rfl, N1q, e1q⟩ := hQ1
  have N1 := Fr.app N0 N1q
  refine own_st (B := T1.setTop (mkF m 4 #[.val (.long arg0), .second, .unset, .unset, .unset] [(.int (own_f1 arg0))])) (fun t k => st1 t k) ?_
  obtain ⟨v2, ev2⟩ : ∃ z : Int32, z = (own_f1 arg0) := ⟨_, rfl⟩
  rw [← ev2]
  refine own_st (B := T1.setTop (mkF m 5 #[.val (.long arg0), .second, .val (.int v2), .unset, .unset] [])) (fun t k => XS.istoreN X1.here hx rfl (hb hby at_4) rfl (l' := #[.val (.long arg0), .second, .val (.int v2), .unset, .unset]) rfl k) ?_
  refine own_st (B := T1.setTop (mkF m 6 #[.val (.long arg0), .second, .val (.int v2), .unset, .unset] [(.long arg0)])) (fun t k => XS.lloadN X1.here hx rfl (hb hby at_5) rfl k) ?_
  obtain ⟨_, _, ⟨T3, L3, k3, j3⟩, -, X3, ⟨Lc3, hQ3, l3, y3_, z3_⟩, st3⟩ := Jvm.LawKit.callS X1 hx (y := (⟨"com/example/marshal_lock/marshallock/internal/AttemptReplies", "held", "(J)Z"⟩ : MethodName)) hown (mvT hZ (w_4 hw)) (mvT hZ (w_5 hw)) (mvT hZ (w_2 hw)) (mvT hZ (w_6 hw)) (by decide) (backOf (W := 0) (rm2 l Z a0 hw [] arg0 h0 n0 Z0 ) hZ (w_6 hw) (w_2 hw) (by decide) (by decide)) (g := (mkF m 6 #[.val (.long arg0), .second, .val (.int v2), .unset, .unset] [(.long arg0)])) rfl (by rw [hml]; rfl) (argsL := [(.long arg0)]) (rest := []) (lenOf own_pd1 rfl) rfl (by show 2 * 0 + _ ≤ _; exact Nat.le_of_eq rfl) (hb hby at_6) (fun _ _ => ⟨rfl, e1q, (by decide : 0 + 0 ≤ _), (by decide : 0 + 0 ≤ _)⟩)
  dsimp only [Pt.U, Pt.locs, Pt.cells, Pt.slots] at X3 l3 y3_ z3_ st3 hQ3
  subst l3 y3_ z3_
  obtain ⟨rfl, N3q, e3q⟩ := hQ3
  have N3 := Fr.app N1 N3q
  refine own_st (B := T3.setTop (mkF m 9 #[.val (.long arg0), .second, .val (.int v2), .unset, .unset] [(.int (own_f2 arg0))])) (fun t k => st3 t k) ?_
  by_cases hc4 : (own_f2 arg0) = (0 : Int32)
  · refine own_st (B := T3.setTop (mkF m 25 #[.val (.long arg0), .second, .val (.int v2), .unset, .unset] [])) (fun t k => XS.ifYes X3.here hx rfl (pc0 := 9) (pc' := 25) rfl (hb hby at_9) rfl (XT.i0_eq_t hc4) (by decide) (by decide) k) ?_
    refine own_st (B := T3.setTop (mkF m 26 #[.val (.long arg0), .second, .val (.int v2), .unset, .unset] [(.int (0 : Int32))])) (fun t k => XS.iconst X3.here hx rfl (hb hby at_25) k) ?_
    refine own_st (B := T3.setTop (mkF m 27 #[.val (.long arg0), .second, .val (.int v2), .val (.int (0 : Int32)), .unset] [])) (fun t k => XS.istoreN X3.here hx rfl (hb hby at_26) rfl (l' := #[.val (.long arg0), .second, .val (.int v2), .val (.int (0 : Int32)), .unset]) rfl k) ?_
    refine own_st (B := T3.setTop (mkF m 28 #[.val (.long arg0), .second, .val (.int v2), .val (.int (0 : Int32)), .unset] [(.long (1 : Int64))])) (fun t k => XS.lconst X3.here hx rfl (hb hby at_27) k) ?_
    obtain ⟨_, _, ⟨T5, L5, k5, j5⟩, -, X5, ⟨Lc5, hQ5, l5, y5_, z5_⟩, st5⟩ := Jvm.LawKit.callS X3 hx (y := (⟨"com/example/marshal_lock/marshallock/internal/AttemptReplies", "isFirstHold", "(J)Z"⟩ : MethodName)) hown (mvT hZ (w_0 hw)) (mvT hZ (w_1 hw)) (mvT hZ (w_2 hw)) (mvT hZ (w_3 hw)) (by decide) (backOf (W := 0) (rm1 l Z a0 hw [] (1 : Int64) h0 n0 Z0 ) hZ (w_3 hw) (w_2 hw) (by decide) (by decide)) (g := (mkF m 28 #[.val (.long arg0), .second, .val (.int v2), .val (.int (0 : Int32)), .unset] [(.long (1 : Int64))])) rfl (by rw [hml]; rfl) (argsL := [(.long (1 : Int64))]) (rest := []) (lenOf own_pd1 rfl) rfl (by show 2 * 0 + _ ≤ _; exact Nat.le_of_eq rfl) (hb hby at_28) (fun _ _ => ⟨rfl, e3q, (by decide : 0 + 0 ≤ _), (by decide : 0 + 0 ≤ _)⟩)
    dsimp only [Pt.U, Pt.locs, Pt.cells, Pt.slots] at X5 l5 y5_ z5_ st5 hQ5
    subst l5 y5_ z5_
    obtain ⟨rfl, N5q, e5q⟩ := hQ5
    have N5 := Fr.app N3 N5q
    refine own_st (B := T5.setTop (mkF m 31 #[.val (.long arg0), .second, .val (.int v2), .val (.int (0 : Int32)), .unset] [(.int (own_f1 (1 : Int64)))])) (fun t k => st5 t k) ?_
    have hc6 : ¬ ((own_f1 (1 : Int64)) = (0 : Int32)) := by
      decide
    refine own_st (B := T5.setTop (mkF m 34 #[.val (.long arg0), .second, .val (.int v2), .val (.int (0 : Int32)), .unset] [])) (fun t k => XS.ifNo X5.here hx rfl (hb hby at_31) rfl (XT.i0_eq_f hc6) k) ?_
    refine own_st (B := T5.setTop (mkF m 35 #[.val (.long arg0), .second, .val (.int v2), .val (.int (0 : Int32)), .unset] [(.long (0 : Int64))])) (fun t k => XS.lconst X5.here hx rfl (hb hby at_34) k) ?_
    obtain ⟨_, _, ⟨T7, L7, k7, j7⟩, -, X7, ⟨Lc7, hQ7, l7, y7_, z7_⟩, st7⟩ := Jvm.LawKit.callS X5 hx (y := (⟨"com/example/marshal_lock/marshallock/internal/AttemptReplies", "isFirstHold", "(J)Z"⟩ : MethodName)) hown (mvT hZ (w_0 hw)) (mvT hZ (w_1 hw)) (mvT hZ (w_2 hw)) (mvT hZ (w_3 hw)) (by decide) (backOf (W := 0) (rm1 l Z a0 hw [] (0 : Int64) h0 n0 Z0 ) hZ (w_3 hw) (w_2 hw) (by decide) (by decide)) (g := (mkF m 35 #[.val (.long arg0), .second, .val (.int v2), .val (.int (0 : Int32)), .unset] [(.long (0 : Int64))])) rfl (by rw [hml]; rfl) (argsL := [(.long (0 : Int64))]) (rest := []) (lenOf own_pd1 rfl) rfl (by show 2 * 0 + _ ≤ _; exact Nat.le_of_eq rfl) (hb hby at_35) (fun _ _ => ⟨rfl, e5q, (by decide : 0 + 0 ≤ _), (by decide : 0 + 0 ≤ _)⟩)
    dsimp only [Pt.U, Pt.locs, Pt.cells, Pt.slots] at X7 l7 y7_ z7_ st7 hQ7
    subst l7 y7_ z7_
    obtain ⟨rfl, N7q, e7q⟩ := hQ7
    have N7 := Fr.app N5 N7q
    refine own_st (B := T7.setTop (mkF m 38 #[.val (.long arg0), .second, .val (.int v2), .val (.int (0 : Int32)), .unset] [(.int (own_f1 (0 : Int64)))])) (fun t k => st7 t k) ?_
    have hc8 : (own_f1 (0 : Int64)) = (0 : Int32) := by
      decide
    refine own_st (B := T7.setTop (mkF m 41 #[.val (.long arg0), .second, .val (.int v2), .val (.int (0 : Int32)), .unset] [])) (fun t k => XS.ifNo X7.here hx rfl (hb hby at_38) rfl (XT.i0_ne_f hc8) k) ?_
    refine own_st (B := T7.setTop (mkF m 44 #[.val (.long arg0), .second, .val (.int v2), .val (.int (0 : Int32)), .unset] [(.long (2 : Int64))])) (fun t k => X7.ldc2Long hx hown (mvT hZ (w_7 hw)) (g := (mkF m 41 #[.val (.long arg0), .second, .val (.int v2), .val (.int (0 : Int32)), .unset] [])) rfl (hb hby at_41) _ k) ?_
    obtain ⟨_, _, ⟨T9, L9, k9, j9⟩, -, X9, ⟨Lc9, hQ9, l9, y9_, z9_⟩, st9⟩ := Jvm.LawKit.callS X7 hx (y := (⟨"com/example/marshal_lock/marshallock/internal/AttemptReplies", "isFirstHold", "(J)Z"⟩ : MethodName)) hown (mvT hZ (w_0 hw)) (mvT hZ (w_1 hw)) (mvT hZ (w_2 hw)) (mvT hZ (w_3 hw)) (by decide) (backOf (W := 0) (rm1 l Z a0 hw [] (2 : Int64) h0 n0 Z0 ) hZ (w_3 hw) (w_2 hw) (by decide) (by decide)) (g := (mkF m 44 #[.val (.long arg0), .second, .val (.int v2), .val (.int (0 : Int32)), .unset] [(.long (2 : Int64))])) rfl (by rw [hml]; rfl) (argsL := [(.long (2 : Int64))]) (rest := []) (lenOf own_pd1 rfl) rfl (by show 2 * 0 + _ ≤ _; exact Nat.le_of_eq rfl) (hb hby at_44) (fun _ _ => ⟨rfl, e7q, (by decide : 0 + 0 ≤ _), (by decide : 0 + 0 ≤ _)⟩)
    dsimp only [Pt.U, Pt.locs, Pt.cells, Pt.slots] at X9 l9 y9_ z9_ st9 hQ9
    subst l9 y9_ z9_
    obtain ⟨rfl, N9q, e9q⟩ := hQ9
    have N9 := Fr.app N7 N9q
    refine own_st (B := T9.setTop (mkF m 47 #[.val (.long arg0), .second, .val (.int v2), .val (.int (0 : Int32)), .unset] [(.int (own_f1 (2 : Int64)))])) (fun t k => st9 t k) ?_
    have hc10 : (own_f1 (2 : Int64)) = (0 : Int32) := by
      decide
    refine own_st (B := T9.setTop (mkF m 50 #[.val (.long arg0), .second, .val (.int v2), .val (.int (0 : Int32)), .unset] [])) (fun t k => XS.ifNo X9.here hx rfl (hb hby at_47) rfl (XT.i0_ne_f hc10) k) ?_
    refine own_st (B := T9.setTop (mkF m 53 #[.val (.long arg0), .second, .val (.int v2), .val (.int (0 : Int32)), .unset] [(.long (-1 : Int64))])) (fun t k => X9.ldc2Long hx hown (mvT hZ (w_8 hw)) (g := (mkF m 50 #[.val (.long arg0), .second, .val (.int v2), .val (.int (0 : Int32)), .unset] [])) rfl (hb hby at_50) _ k) ?_
    obtain ⟨_, _, ⟨T11, L11, k11, j11⟩, -, X11, ⟨Lc11, hQ11, l11, y11_, z11_⟩, st11⟩ := Jvm.LawKit.callS X9 hx (y := (⟨"com/example/marshal_lock/marshallock/internal/AttemptReplies", "isFirstHold", "(J)Z"⟩ : MethodName)) hown (mvT hZ (w_0 hw)) (mvT hZ (w_1 hw)) (mvT hZ (w_2 hw)) (mvT hZ (w_3 hw)) (by decide) (backOf (W := 0) (rm1 l Z a0 hw [] (-1 : Int64) h0 n0 Z0 ) hZ (w_3 hw) (w_2 hw) (by decide) (by decide)) (g := (mkF m 53 #[.val (.long arg0), .second, .val (.int v2), .val (.int (0 : Int32)), .unset] [(.long (-1 : Int64))])) rfl (by rw [hml]; rfl) (argsL := [(.long (-1 : Int64))]) (rest := []) (lenOf own_pd1 rfl) rfl (by show 2 * 0 + _ ≤ _; exact Nat.le_of_eq rfl) (hb hby at_53) (fun _ _ => ⟨rfl, e9q, (by decide : 0 + 0 ≤ _), (by decide : 0 + 0 ≤ _)⟩)
    dsimp only [Pt.U, Pt.locs, Pt.cells, Pt.slots] at X11 l11 y11_ z11_ st11 hQ11
    subst l11 y11_ z11_
    obtain ⟨rfl, N11q, e11q⟩ := hQ11
    have N11 := Fr.app N9 N11q
    refine own_st (B := T11.setTop (mkF m 56 #[.val (.long arg0), .second, .val (.int v2), .val (.int (0 : Int32)), .unset] [(.int (own_f1 (-1 : Int64)))])) (fun t k => st11 t k) ?_
    have hc12 : (own_f1 (-1 : Int64)) = (0 : Int32) := by
      decide
    refine own_st (B := T11.setTop (mkF m 59 #[.val (.long arg0), .second, .val (.int v2), .val (.int (0 : Int32)), .unset] [])) (fun t k => XS.ifNo X11.here hx rfl (hb hby at_56) rfl (XT.i0_ne_f hc12) k) ?_
    refine own_st (B := T11.setTop (mkF m 60 #[.val (.long arg0), .second, .val (.int v2), .val (.int (0 : Int32)), .unset] [(.int (1 : Int32))])) (fun t k => XS.iconst X11.here hx rfl (hb hby at_59) k) ?_
    refine own_st (B := T11.setTop (mkF m 64 #[.val (.long arg0), .second, .val (.int v2), .val (.int (0 : Int32)), .unset] [(.int (1 : Int32))])) (fun t k => XS.goto X11.here hx rfl (pc0 := 60) (pc' := 64) rfl (hb hby at_60) (by decide) (by decide) k) ?_
    refine own_st (B := T11.setTop (mkF m 66 #[.val (.long arg0), .second, .val (.int v2), .val (.int (0 : Int32)), .val (.int (1 : Int32))] [])) (fun t k => XS.istore X11.here hx rfl (hb hby at_64) rfl (l' := #[.val (.long arg0), .second, .val (.int v2), .val (.int (0 : Int32)), .val (.int (1 : Int32))]) rfl k) ?_
    refine own_st (B := T11.setTop (mkF m 67 #[.val (.long arg0), .second, .val (.int v2), .val (.int (0 : Int32)), .val (.int (1 : Int32))] [(.int v2)])) (fun t k => XS.iloadN X11.here hx rfl (hb hby at_66) rfl k) ?_
    refine own_st (B := T11.setTop (mkF m 68 #[.val (.long arg0), .second, .val (.int v2), .val (.int (0 : Int32)), .val (.int (1 : Int32))] [(.int (0 : Int32)), (.int v2)])) (fun t k => XS.iloadN X11.here hx rfl (hb hby at_67) rfl k) ?_
    have hc13 : v2 = (0 : Int32) := by
      rw [ev2]; exact own_no hc4
    refine own_st (B := T11.setTop (mkF m 71 #[.val (.long arg0), .second, .val (.int v2), .val (.int (0 : Int32)), .val (.int (1 : Int32))] [])) (fun t k => XS.icmpNo X11.here hx rfl (hb hby at_68) rfl (XT.ii_ne_f hc13) k) ?_
    refine own_st (B := T11.setTop (mkF m 73 #[.val (.long arg0), .second, .val (.int v2), .val (.int (0 : Int32)), .val (.int (1 : Int32))] [(.int (1 : Int32))])) (fun t k => XS.iload X11.here hx rfl (hb hby at_71) rfl k) ?_
    refine own_st (B := T11.setTop (mkF m 76 #[.val (.long arg0), .second, .val (.int v2), .val (.int (0 : Int32)), .val (.int (1 : Int32))] [])) (fun t k => XS.ifNo X11.here hx rfl (hb hby at_73) rfl (by decide) k) ?_
    refine own_st (B := T11.setTop (mkF m 77 #[.val (.long arg0), .second, .val (.int v2), .val (.int (0 : Int32)), .val (.int (1 : Int32))] [(.int (1 : Int32))])) (fun t k => XS.iconst X11.here hx rfl (hb hby at_76) k) ?_
    refine own_st (B := T11.setTop (mkF m 81 #[.val (.long arg0), .second, .val (.int v2), .val (.int (0 : Int32)), .val (.int (1 : Int32))] [(.int (1 : Int32))])) (fun t k => XS.goto X11.here hx rfl (pc0 := 77) (pc' := 81) rfl (hb hby at_77) (by decide) (by decide) k) ?_
    refine own_retN X11 hx hlk (t := .boolean) Bd.returns (by simp) (z' := (1 : Int32)) rfl (hb hby at_81) (by decide) (by decide) ?_
    show Q0 Z arg0 h0 n0 _ T11.heap _
    rw [e11q]
    exact ⟨rfl, N11⟩
  · refine own_st (B := T3.setTop (mkF m 12 #[.val (.long arg0), .second, .val (.int v2), .unset, .unset] [])) (fun t k => XS.ifNo X3.here hx rfl (hb hby at_9) rfl (XT.i0_eq_f hc4) k) ?_
    refine own_st (B := T3.setTop (mkF m 13 #[.val (.long arg0), .second, .val (.int v2), .unset, .unset] [(.long arg0)])) (fun t k => XS.lloadN X3.here hx rfl (hb hby at_12) rfl k) ?_
    refine own_st (B := T3.setTop (mkF m 14 #[.val (.long arg0), .second, .val (.int v2), .unset, .unset] [(.long (1 : Int64)), (.long arg0)])) (fun t k => XS.lconst X3.here hx rfl (hb hby at_13) k) ?_
    refine own_st (B := T3.setTop (mkF m 15 #[.val (.long arg0), .second, .val (.int v2), .unset, .unset] [(.long (arg0 - (1 : Int64)))])) (fun t k => XS.lsub X3.here hx rfl (hb hby at_14) rfl k) ?_
    obtain ⟨_, _, ⟨T14, L14, k14, j14⟩, -, X14, ⟨Lc14, hQ14, l14, y14_, z14_⟩, st14⟩ := Jvm.LawKit.callS X3 hx (y := (⟨"com/example/marshal_lock/marshallock/internal/AttemptReplies", "held", "(J)Z"⟩ : MethodName)) hown (mvT hZ (w_4 hw)) (mvT hZ (w_5 hw)) (mvT hZ (w_2 hw)) (mvT hZ (w_6 hw)) (by decide) (backOf (W := 0) (rm2 l Z a0 hw [] (arg0 - (1 : Int64)) h0 n0 Z0 ) hZ (w_6 hw) (w_2 hw) (by decide) (by decide)) (g := (mkF m 15 #[.val (.long arg0), .second, .val (.int v2), .unset, .unset] [(.long (arg0 - (1 : Int64)))])) rfl (by rw [hml]; rfl) (argsL := [(.long (arg0 - (1 : Int64)))]) (rest := []) (lenOf own_pd1 rfl) rfl (by show 2 * 0 + _ ≤ _; exact Nat.le_of_eq rfl) (hb hby at_15) (fun _ _ => ⟨rfl, e3q, (by decide : 0 + 0 ≤ _), (by decide : 0 + 0 ≤ _)⟩)
    dsimp only [Pt.U, Pt.locs, Pt.cells, Pt.slots] at X14 l14 y14_ z14_ st14 hQ14
    subst l14 y14_ z14_
    obtain ⟨rfl, N14q, e14q⟩ := hQ14
    have N14 := Fr.app N3 N14q
    refine own_st (B := T14.setTop (mkF m 18 #[.val (.long arg0), .second, .val (.int v2), .unset, .unset] [(.int (own_f2 (arg0 - (1 : Int64))))])) (fun t k => st14 t k) ?_
    by_cases hc15 : (own_f2 (arg0 - (1 : Int64))) = (0 : Int32)
    · refine own_st (B := T14.setTop (mkF m 21 #[.val (.long arg0), .second, .val (.int v2), .unset, .unset] [])) (fun t k => XS.ifNo X14.here hx rfl (hb hby at_18) rfl (XT.i0_ne_f hc15) k) ?_
      refine own_st (B := T14.setTop (mkF m 22 #[.val (.long arg0), .second, .val (.int v2), .unset, .unset] [(.int (1 : Int32))])) (fun t k => XS.iconst X14.here hx rfl (hb hby at_21) k) ?_
      refine own_st (B := T14.setTop (mkF m 26 #[.val (.long arg0), .second, .val (.int v2), .unset, .unset] [(.int (1 : Int32))])) (fun t k => XS.goto X14.here hx rfl (pc0 := 22) (pc' := 26) rfl (hb hby at_22) (by decide) (by decide) k) ?_
      refine own_st (B := T14.setTop (mkF m 27 #[.val (.long arg0), .second, .val (.int v2), .val (.int (1 : Int32)), .unset] [])) (fun t k => XS.istoreN X14.here hx rfl (hb hby at_26) rfl (l' := #[.val (.long arg0), .second, .val (.int v2), .val (.int (1 : Int32)), .unset]) rfl k) ?_
      refine own_st (B := T14.setTop (mkF m 28 #[.val (.long arg0), .second, .val (.int v2), .val (.int (1 : Int32)), .unset] [(.long (1 : Int64))])) (fun t k => XS.lconst X14.here hx rfl (hb hby at_27) k) ?_
      obtain ⟨_, _, ⟨T16, L16, k16, j16⟩, -, X16, ⟨Lc16, hQ16, l16, y16_, z16_⟩, st16⟩ := Jvm.LawKit.callS X14 hx (y := (⟨"com/example/marshal_lock/marshallock/internal/AttemptReplies", "isFirstHold", "(J)Z"⟩ : MethodName)) hown (mvT hZ (w_0 hw)) (mvT hZ (w_1 hw)) (mvT hZ (w_2 hw)) (mvT hZ (w_3 hw)) (by decide) (backOf (W := 0) (rm1 l Z a0 hw [] (1 : Int64) h0 n0 Z0 ) hZ (w_3 hw) (w_2 hw) (by decide) (by decide)) (g := (mkF m 28 #[.val (.long arg0), .second, .val (.int v2), .val (.int (1 : Int32)), .unset] [(.long (1 : Int64))])) rfl (by rw [hml]; rfl) (argsL := [(.long (1 : Int64))]) (rest := []) (lenOf own_pd1 rfl) rfl (by show 2 * 0 + _ ≤ _; exact Nat.le_of_eq rfl) (hb hby at_28) (fun _ _ => ⟨rfl, e14q, (by decide : 0 + 0 ≤ _), (by decide : 0 + 0 ≤ _)⟩)
      dsimp only [Pt.U, Pt.locs, Pt.cells, Pt.slots] at X16 l16 y16_ z16_ st16 hQ16
      subst l16 y16_ z16_
      obtain ⟨rfl, N16q, e16q⟩ := hQ16
      have N16 := Fr.app N14 N16q
      refine own_st (B := T16.setTop (mkF m 31 #[.val (.long arg0), .second, .val (.int v2), .val (.int (1 : Int32)), .unset] [(.int (own_f1 (1 : Int64)))])) (fun t k => st16 t k) ?_
      have hc17 : ¬ ((own_f1 (1 : Int64)) = (0 : Int32)) := by
        decide
      refine own_st (B := T16.setTop (mkF m 34 #[.val (.long arg0), .second, .val (.int v2), .val (.int (1 : Int32)), .unset] [])) (fun t k => XS.ifNo X16.here hx rfl (hb hby at_31) rfl (XT.i0_eq_f hc17) k) ?_
      refine own_st (B := T16.setTop (mkF m 35 #[.val (.long arg0), .second, .val (.int v2), .val (.int (1 : Int32)), .unset] [(.long (0 : Int64))])) (fun t k => XS.lconst X16.here hx rfl (hb hby at_34) k) ?_
      obtain ⟨_, _, ⟨T18, L18, k18, j18⟩, -, X18, ⟨Lc18, hQ18, l18, y18_, z18_⟩, st18⟩ := Jvm.LawKit.callS X16 hx (y := (⟨"com/example/marshal_lock/marshallock/internal/AttemptReplies", "isFirstHold", "(J)Z"⟩ : MethodName)) hown (mvT hZ (w_0 hw)) (mvT hZ (w_1 hw)) (mvT hZ (w_2 hw)) (mvT hZ (w_3 hw)) (by decide) (backOf (W := 0) (rm1 l Z a0 hw [] (0 : Int64) h0 n0 Z0 ) hZ (w_3 hw) (w_2 hw) (by decide) (by decide)) (g := (mkF m 35 #[.val (.long arg0), .second, .val (.int v2), .val (.int (1 : Int32)), .unset] [(.long (0 : Int64))])) rfl (by rw [hml]; rfl) (argsL := [(.long (0 : Int64))]) (rest := []) (lenOf own_pd1 rfl) rfl (by show 2 * 0 + _ ≤ _; exact Nat.le_of_eq rfl) (hb hby at_35) (fun _ _ => ⟨rfl, e16q, (by decide : 0 + 0 ≤ _), (by decide : 0 + 0 ≤ _)⟩)
      dsimp only [Pt.U, Pt.locs, Pt.cells, Pt.slots] at X18 l18 y18_ z18_ st18 hQ18
      subst l18 y18_ z18_
      obtain ⟨rfl, N18q, e18q⟩ := hQ18
      have N18 := Fr.app N16 N18q
      refine own_st (B := T18.setTop (mkF m 38 #[.val (.long arg0), .second, .val (.int v2), .val (.int (1 : Int32)), .unset] [(.int (own_f1 (0 : Int64)))])) (fun t k => st18 t k) ?_
      have hc19 : (own_f1 (0 : Int64)) = (0 : Int32) := by
        decide
      refine own_st (B := T18.setTop (mkF m 41 #[.val (.long arg0), .second, .val (.int v2), .val (.int (1 : Int32)), .unset] [])) (fun t k => XS.ifNo X18.here hx rfl (hb hby at_38) rfl (XT.i0_ne_f hc19) k) ?_
      refine own_st (B := T18.setTop (mkF m 44 #[.val (.long arg0), .second, .val (.int v2), .val (.int (1 : Int32)), .unset] [(.long (2 : Int64))])) (fun t k => X18.ldc2Long hx hown (mvT hZ (w_7 hw)) (g := (mkF m 41 #[.val (.long arg0), .second, .val (.int v2), .val (.int (1 : Int32)), .unset] [])) rfl (hb hby at_41) _ k) ?_
      obtain ⟨_, _, ⟨T20, L20, k20, j20⟩, -, X20, ⟨Lc20, hQ20, l20, y20_, z20_⟩, st20⟩ := Jvm.LawKit.callS X18 hx (y := (⟨"com/example/marshal_lock/marshallock/internal/AttemptReplies", "isFirstHold", "(J)Z"⟩ : MethodName)) hown (mvT hZ (w_0 hw)) (mvT hZ (w_1 hw)) (mvT hZ (w_2 hw)) (mvT hZ (w_3 hw)) (by decide) (backOf (W := 0) (rm1 l Z a0 hw [] (2 : Int64) h0 n0 Z0 ) hZ (w_3 hw) (w_2 hw) (by decide) (by decide)) (g := (mkF m 44 #[.val (.long arg0), .second, .val (.int v2), .val (.int (1 : Int32)), .unset] [(.long (2 : Int64))])) rfl (by rw [hml]; rfl) (argsL := [(.long (2 : Int64))]) (rest := []) (lenOf own_pd1 rfl) rfl (by show 2 * 0 + _ ≤ _; exact Nat.le_of_eq rfl) (hb hby at_44) (fun _ _ => ⟨rfl, e18q, (by decide : 0 + 0 ≤ _), (by decide : 0 + 0 ≤ _)⟩)
      dsimp only [Pt.U, Pt.locs, Pt.cells, Pt.slots] at X20 l20 y20_ z20_ st20 hQ20
      subst l20 y20_ z20_
      obtain ⟨rfl, N20q, e20q⟩ := hQ20
      have N20 := Fr.app N18 N20q
      refine own_st (B := T20.setTop (mkF m 47 #[.val (.long arg0), .second, .val (.int v2), .val (.int (1 : Int32)), .unset] [(.int (own_f1 (2 : Int64)))])) (fun t k => st20 t k) ?_
      have hc21 : (own_f1 (2 : Int64)) = (0 : Int32) := by
        decide
      refine own_st (B := T20.setTop (mkF m 50 #[.val (.long arg0), .second, .val (.int v2), .val (.int (1 : Int32)), .unset] [])) (fun t k => XS.ifNo X20.here hx rfl (hb hby at_47) rfl (XT.i0_ne_f hc21) k) ?_
      refine own_st (B := T20.setTop (mkF m 53 #[.val (.long arg0), .second, .val (.int v2), .val (.int (1 : Int32)), .unset] [(.long (-1 : Int64))])) (fun t k => X20.ldc2Long hx hown (mvT hZ (w_8 hw)) (g := (mkF m 50 #[.val (.long arg0), .second, .val (.int v2), .val (.int (1 : Int32)), .unset] [])) rfl (hb hby at_50) _ k) ?_
      obtain ⟨_, _, ⟨T22, L22, k22, j22⟩, -, X22, ⟨Lc22, hQ22, l22, y22_, z22_⟩, st22⟩ := Jvm.LawKit.callS X20 hx (y := (⟨"com/example/marshal_lock/marshallock/internal/AttemptReplies", "isFirstHold", "(J)Z"⟩ : MethodName)) hown (mvT hZ (w_0 hw)) (mvT hZ (w_1 hw)) (mvT hZ (w_2 hw)) (mvT hZ (w_3 hw)) (by decide) (backOf (W := 0) (rm1 l Z a0 hw [] (-1 : Int64) h0 n0 Z0 ) hZ (w_3 hw) (w_2 hw) (by decide) (by decide)) (g := (mkF m 53 #[.val (.long arg0), .second, .val (.int v2), .val (.int (1 : Int32)), .unset] [(.long (-1 : Int64))])) rfl (by rw [hml]; rfl) (argsL := [(.long (-1 : Int64))]) (rest := []) (lenOf own_pd1 rfl) rfl (by show 2 * 0 + _ ≤ _; exact Nat.le_of_eq rfl) (hb hby at_53) (fun _ _ => ⟨rfl, e20q, (by decide : 0 + 0 ≤ _), (by decide : 0 + 0 ≤ _)⟩)
      dsimp only [Pt.U, Pt.locs, Pt.cells, Pt.slots] at X22 l22 y22_ z22_ st22 hQ22
      subst l22 y22_ z22_
      obtain ⟨rfl, N22q, e22q⟩ := hQ22
      have N22 := Fr.app N20 N22q
      refine own_st (B := T22.setTop (mkF m 56 #[.val (.long arg0), .second, .val (.int v2), .val (.int (1 : Int32)), .unset] [(.int (own_f1 (-1 : Int64)))])) (fun t k => st22 t k) ?_
      have hc23 : (own_f1 (-1 : Int64)) = (0 : Int32) := by
        decide
      refine own_st (B := T22.setTop (mkF m 59 #[.val (.long arg0), .second, .val (.int v2), .val (.int (1 : Int32)), .unset] [])) (fun t k => XS.ifNo X22.here hx rfl (hb hby at_56) rfl (XT.i0_ne_f hc23) k) ?_
      refine own_st (B := T22.setTop (mkF m 60 #[.val (.long arg0), .second, .val (.int v2), .val (.int (1 : Int32)), .unset] [(.int (1 : Int32))])) (fun t k => XS.iconst X22.here hx rfl (hb hby at_59) k) ?_
      refine own_st (B := T22.setTop (mkF m 64 #[.val (.long arg0), .second, .val (.int v2), .val (.int (1 : Int32)), .unset] [(.int (1 : Int32))])) (fun t k => XS.goto X22.here hx rfl (pc0 := 60) (pc' := 64) rfl (hb hby at_60) (by decide) (by decide) k) ?_
      refine own_st (B := T22.setTop (mkF m 66 #[.val (.long arg0), .second, .val (.int v2), .val (.int (1 : Int32)), .val (.int (1 : Int32))] [])) (fun t k => XS.istore X22.here hx rfl (hb hby at_64) rfl (l' := #[.val (.long arg0), .second, .val (.int v2), .val (.int (1 : Int32)), .val (.int (1 : Int32))]) rfl k) ?_
      refine own_st (B := T22.setTop (mkF m 67 #[.val (.long arg0), .second, .val (.int v2), .val (.int (1 : Int32)), .val (.int (1 : Int32))] [(.int v2)])) (fun t k => XS.iloadN X22.here hx rfl (hb hby at_66) rfl k) ?_
      refine own_st (B := T22.setTop (mkF m 68 #[.val (.long arg0), .second, .val (.int v2), .val (.int (1 : Int32)), .val (.int (1 : Int32))] [(.int (1 : Int32)), (.int v2)])) (fun t k => XS.iloadN X22.here hx rfl (hb hby at_67) rfl k) ?_
      have hc24 : v2 = (1 : Int32) := by
        rw [ev2]; exact own_yes hc4 hc15
      refine own_st (B := T22.setTop (mkF m 71 #[.val (.long arg0), .second, .val (.int v2), .val (.int (1 : Int32)), .val (.int (1 : Int32))] [])) (fun t k => XS.icmpNo X22.here hx rfl (hb hby at_68) rfl (XT.ii_ne_f hc24) k) ?_
      refine own_st (B := T22.setTop (mkF m 73 #[.val (.long arg0), .second, .val (.int v2), .val (.int (1 : Int32)), .val (.int (1 : Int32))] [(.int (1 : Int32))])) (fun t k => XS.iload X22.here hx rfl (hb hby at_71) rfl k) ?_
      refine own_st (B := T22.setTop (mkF m 76 #[.val (.long arg0), .second, .val (.int v2), .val (.int (1 : Int32)), .val (.int (1 : Int32))] [])) (fun t k => XS.ifNo X22.here hx rfl (hb hby at_73) rfl (by decide) k) ?_
      refine own_st (B := T22.setTop (mkF m 77 #[.val (.long arg0), .second, .val (.int v2), .val (.int (1 : Int32)), .val (.int (1 : Int32))] [(.int (1 : Int32))])) (fun t k => XS.iconst X22.here hx rfl (hb hby at_76) k) ?_
      refine own_st (B := T22.setTop (mkF m 81 #[.val (.long arg0), .second, .val (.int v2), .val (.int (1 : Int32)), .val (.int (1 : Int32))] [(.int (1 : Int32))])) (fun t k => XS.goto X22.here hx rfl (pc0 := 77) (pc' := 81) rfl (hb hby at_77) (by decide) (by decide) k) ?_
      refine own_retN X22 hx hlk (t := .boolean) Bd.returns (by simp) (z' := (1 : Int32)) rfl (hb hby at_81) (by decide) (by decide) ?_
      show Q0 Z arg0 h0 n0 _ T22.heap _
      rw [e22q]
      exact ⟨rfl, N22⟩
    · refine own_st (B := T14.setTop (mkF m 25 #[.val (.long arg0), .second, .val (.int v2), .unset, .unset] [])) (fun t k => XS.ifYes X14.here hx rfl (pc0 := 18) (pc' := 25) rfl (hb hby at_18) rfl (XT.i0_ne_t hc15) (by decide) (by decide) k) ?_
      refine own_st (B := T14.setTop (mkF m 26 #[.val (.long arg0), .second, .val (.int v2), .unset, .unset] [(.int (0 : Int32))])) (fun t k => XS.iconst X14.here hx rfl (hb hby at_25) k) ?_
      refine own_st (B := T14.setTop (mkF m 27 #[.val (.long arg0), .second, .val (.int v2), .val (.int (0 : Int32)), .unset] [])) (fun t k => XS.istoreN X14.here hx rfl (hb hby at_26) rfl (l' := #[.val (.long arg0), .second, .val (.int v2), .val (.int (0 : Int32)), .unset]) rfl k) ?_
      refine own_st (B := T14.setTop (mkF m 28 #[.val (.long arg0), .second, .val (.int v2), .val (.int (0 : Int32)), .unset] [(.long (1 : Int64))])) (fun t k => XS.lconst X14.here hx rfl (hb hby at_27) k) ?_
      obtain ⟨_, _, ⟨T25, L25, k25, j25⟩, -, X25, ⟨Lc25, hQ25, l25, y25_, z25_⟩, st25⟩ := Jvm.LawKit.callS X14 hx (y := (⟨"com/example/marshal_lock/marshallock/internal/AttemptReplies", "isFirstHold", "(J)Z"⟩ : MethodName)) hown (mvT hZ (w_0 hw)) (mvT hZ (w_1 hw)) (mvT hZ (w_2 hw)) (mvT hZ (w_3 hw)) (by decide) (backOf (W := 0) (rm1 l Z a0 hw [] (1 : Int64) h0 n0 Z0 ) hZ (w_3 hw) (w_2 hw) (by decide) (by decide)) (g := (mkF m 28 #[.val (.long arg0), .second, .val (.int v2), .val (.int (0 : Int32)), .unset] [(.long (1 : Int64))])) rfl (by rw [hml]; rfl) (argsL := [(.long (1 : Int64))]) (rest := []) (lenOf own_pd1 rfl) rfl (by show 2 * 0 + _ ≤ _; exact Nat.le_of_eq rfl) (hb hby at_28) (fun _ _ => ⟨rfl, e14q, (by decide : 0 + 0 ≤ _), (by decide : 0 + 0 ≤ _)⟩)
      dsimp only [Pt.U, Pt.locs, Pt.cells, Pt.slots] at X25 l25 y25_ z25_ st25 hQ25
      subst l25 y25_ z25_
      obtain ⟨rfl, N25q, e25q⟩ := hQ25
      have N25 := Fr.app N14 N25q
      refine own_st (B := T25.setTop (mkF m 31 #[.val (.long arg0), .second, .val (.int v2), .val (.int (0 : Int32)), .unset] [(.int (own_f1 (1 : Int64)))])) (fun t k => st25 t k) ?_
      have hc26 : ¬ ((own_f1 (1 : Int64)) = (0 : Int32)) := by
        decide
      refine own_st (B := T25.setTop (mkF m 34 #[.val (.long arg0), .second, .val (.int v2), .val (.int (0 : Int32)), .unset] [])) (fun t k => XS.ifNo X25.here hx rfl (hb hby at_31) rfl (XT.i0_eq_f hc26) k) ?_
      refine own_st (B := T25.setTop (mkF m 35 #[.val (.long arg0), .second, .val (.int v2), .val (.int (0 : Int32)), .unset] [(.long (0 : Int64))])) (fun t k => XS.lconst X25.here hx rfl (hb hby at_34) k) ?_
      obtain ⟨_, _, ⟨T27, L27, k27, j27⟩, -, X27, ⟨Lc27, hQ27, l27, y27_, z27_⟩, st27⟩ := Jvm.LawKit.callS X25 hx (y := (⟨"com/example/marshal_lock/marshallock/internal/AttemptReplies", "isFirstHold", "(J)Z"⟩ : MethodName)) hown (mvT hZ (w_0 hw)) (mvT hZ (w_1 hw)) (mvT hZ (w_2 hw)) (mvT hZ (w_3 hw)) (by decide) (backOf (W := 0) (rm1 l Z a0 hw [] (0 : Int64) h0 n0 Z0 ) hZ (w_3 hw) (w_2 hw) (by decide) (by decide)) (g := (mkF m 35 #[.val (.long arg0), .second, .val (.int v2), .val (.int (0 : Int32)), .unset] [(.long (0 : Int64))])) rfl (by rw [hml]; rfl) (argsL := [(.long (0 : Int64))]) (rest := []) (lenOf own_pd1 rfl) rfl (by show 2 * 0 + _ ≤ _; exact Nat.le_of_eq rfl) (hb hby at_35) (fun _ _ => ⟨rfl, e25q, (by decide : 0 + 0 ≤ _), (by decide : 0 + 0 ≤ _)⟩)
      dsimp only [Pt.U, Pt.locs, Pt.cells, Pt.slots] at X27 l27 y27_ z27_ st27 hQ27
      subst l27 y27_ z27_
      obtain ⟨rfl, N27q, e27q⟩ := hQ27
      have N27 := Fr.app N25 N27q
      refine own_st (B := T27.setTop (mkF m 38 #[.val (.long arg0), .second, .val (.int v2), .val (.int (0 : Int32)), .unset] [(.int (own_f1 (0 : Int64)))])) (fun t k => st27 t k) ?_
      have hc28 : (own_f1 (0 : Int64)) = (0 : Int32) := by
        decide
      refine own_st (B := T27.setTop (mkF m 41 #[.val (.long arg0), .second, .val (.int v2), .val (.int (0 : Int32)), .unset] [])) (fun t k => XS.ifNo X27.here hx rfl (hb hby at_38) rfl (XT.i0_ne_f hc28) k) ?_
      refine own_st (B := T27.setTop (mkF m 44 #[.val (.long arg0), .second, .val (.int v2), .val (.int (0 : Int32)), .unset] [(.long (2 : Int64))])) (fun t k => X27.ldc2Long hx hown (mvT hZ (w_7 hw)) (g := (mkF m 41 #[.val (.long arg0), .second, .val (.int v2), .val (.int (0 : Int32)), .unset] [])) rfl (hb hby at_41) _ k) ?_
      obtain ⟨_, _, ⟨T29, L29, k29, j29⟩, -, X29, ⟨Lc29, hQ29, l29, y29_, z29_⟩, st29⟩ := Jvm.LawKit.callS X27 hx (y := (⟨"com/example/marshal_lock/marshallock/internal/AttemptReplies", "isFirstHold", "(J)Z"⟩ : MethodName)) hown (mvT hZ (w_0 hw)) (mvT hZ (w_1 hw)) (mvT hZ (w_2 hw)) (mvT hZ (w_3 hw)) (by decide) (backOf (W := 0) (rm1 l Z a0 hw [] (2 : Int64) h0 n0 Z0 ) hZ (w_3 hw) (w_2 hw) (by decide) (by decide)) (g := (mkF m 44 #[.val (.long arg0), .second, .val (.int v2), .val (.int (0 : Int32)), .unset] [(.long (2 : Int64))])) rfl (by rw [hml]; rfl) (argsL := [(.long (2 : Int64))]) (rest := []) (lenOf own_pd1 rfl) rfl (by show 2 * 0 + _ ≤ _; exact Nat.le_of_eq rfl) (hb hby at_44) (fun _ _ => ⟨rfl, e27q, (by decide : 0 + 0 ≤ _), (by decide : 0 + 0 ≤ _)⟩)
      dsimp only [Pt.U, Pt.locs, Pt.cells, Pt.slots] at X29 l29 y29_ z29_ st29 hQ29
      subst l29 y29_ z29_
      obtain ⟨rfl, N29q, e29q⟩ := hQ29
      have N29 := Fr.app N27 N29q
      refine own_st (B := T29.setTop (mkF m 47 #[.val (.long arg0), .second, .val (.int v2), .val (.int (0 : Int32)), .unset] [(.int (own_f1 (2 : Int64)))])) (fun t k => st29 t k) ?_
      have hc30 : (own_f1 (2 : Int64)) = (0 : Int32) := by
        decide
      refine own_st (B := T29.setTop (mkF m 50 #[.val (.long arg0), .second, .val (.int v2), .val (.int (0 : Int32)), .unset] [])) (fun t k => XS.ifNo X29.here hx rfl (hb hby at_47) rfl (XT.i0_ne_f hc30) k) ?_
      refine own_st (B := T29.setTop (mkF m 53 #[.val (.long arg0), .second, .val (.int v2), .val (.int (0 : Int32)), .unset] [(.long (-1 : Int64))])) (fun t k => X29.ldc2Long hx hown (mvT hZ (w_8 hw)) (g := (mkF m 50 #[.val (.long arg0), .second, .val (.int v2), .val (.int (0 : Int32)), .unset] [])) rfl (hb hby at_50) _ k) ?_
      obtain ⟨_, _, ⟨T31, L31, k31, j31⟩, -, X31, ⟨Lc31, hQ31, l31, y31_, z31_⟩, st31⟩ := Jvm.LawKit.callS X29 hx (y := (⟨"com/example/marshal_lock/marshallock/internal/AttemptReplies", "isFirstHold", "(J)Z"⟩ : MethodName)) hown (mvT hZ (w_0 hw)) (mvT hZ (w_1 hw)) (mvT hZ (w_2 hw)) (mvT hZ (w_3 hw)) (by decide) (backOf (W := 0) (rm1 l Z a0 hw [] (-1 : Int64) h0 n0 Z0 ) hZ (w_3 hw) (w_2 hw) (by decide) (by decide)) (g := (mkF m 53 #[.val (.long arg0), .second, .val (.int v2), .val (.int (0 : Int32)), .unset] [(.long (-1 : Int64))])) rfl (by rw [hml]; rfl) (argsL := [(.long (-1 : Int64))]) (rest := []) (lenOf own_pd1 rfl) rfl (by show 2 * 0 + _ ≤ _; exact Nat.le_of_eq rfl) (hb hby at_53) (fun _ _ => ⟨rfl, e29q, (by decide : 0 + 0 ≤ _), (by decide : 0 + 0 ≤ _)⟩)
      dsimp only [Pt.U, Pt.locs, Pt.cells, Pt.slots] at X31 l31 y31_ z31_ st31 hQ31
      subst l31 y31_ z31_
      obtain ⟨rfl, N31q, e31q⟩ := hQ31
      have N31 := Fr.app N29 N31q
      refine own_st (B := T31.setTop (mkF m 56 #[.val (.long arg0), .second, .val (.int v2), .val (.int (0 : Int32)), .unset] [(.int (own_f1 (-1 : Int64)))])) (fun t k => st31 t k) ?_
      have hc32 : (own_f1 (-1 : Int64)) = (0 : Int32) := by
        decide
      refine own_st (B := T31.setTop (mkF m 59 #[.val (.long arg0), .second, .val (.int v2), .val (.int (0 : Int32)), .unset] [])) (fun t k => XS.ifNo X31.here hx rfl (hb hby at_56) rfl (XT.i0_ne_f hc32) k) ?_
      refine own_st (B := T31.setTop (mkF m 60 #[.val (.long arg0), .second, .val (.int v2), .val (.int (0 : Int32)), .unset] [(.int (1 : Int32))])) (fun t k => XS.iconst X31.here hx rfl (hb hby at_59) k) ?_
      refine own_st (B := T31.setTop (mkF m 64 #[.val (.long arg0), .second, .val (.int v2), .val (.int (0 : Int32)), .unset] [(.int (1 : Int32))])) (fun t k => XS.goto X31.here hx rfl (pc0 := 60) (pc' := 64) rfl (hb hby at_60) (by decide) (by decide) k) ?_
      refine own_st (B := T31.setTop (mkF m 66 #[.val (.long arg0), .second, .val (.int v2), .val (.int (0 : Int32)), .val (.int (1 : Int32))] [])) (fun t k => XS.istore X31.here hx rfl (hb hby at_64) rfl (l' := #[.val (.long arg0), .second, .val (.int v2), .val (.int (0 : Int32)), .val (.int (1 : Int32))]) rfl k) ?_
      refine own_st (B := T31.setTop (mkF m 67 #[.val (.long arg0), .second, .val (.int v2), .val (.int (0 : Int32)), .val (.int (1 : Int32))] [(.int v2)])) (fun t k => XS.iloadN X31.here hx rfl (hb hby at_66) rfl k) ?_
      refine own_st (B := T31.setTop (mkF m 68 #[.val (.long arg0), .second, .val (.int v2), .val (.int (0 : Int32)), .val (.int (1 : Int32))] [(.int (0 : Int32)), (.int v2)])) (fun t k => XS.iloadN X31.here hx rfl (hb hby at_67) rfl k) ?_
      have hc33 : v2 = (0 : Int32) := by
        rw [ev2]; exact own_late hc4 hc15
      refine own_st (B := T31.setTop (mkF m 71 #[.val (.long arg0), .second, .val (.int v2), .val (.int (0 : Int32)), .val (.int (1 : Int32))] [])) (fun t k => XS.icmpNo X31.here hx rfl (hb hby at_68) rfl (XT.ii_ne_f hc33) k) ?_
      refine own_st (B := T31.setTop (mkF m 73 #[.val (.long arg0), .second, .val (.int v2), .val (.int (0 : Int32)), .val (.int (1 : Int32))] [(.int (1 : Int32))])) (fun t k => XS.iload X31.here hx rfl (hb hby at_71) rfl k) ?_
      refine own_st (B := T31.setTop (mkF m 76 #[.val (.long arg0), .second, .val (.int v2), .val (.int (0 : Int32)), .val (.int (1 : Int32))] [])) (fun t k => XS.ifNo X31.here hx rfl (hb hby at_73) rfl (by decide) k) ?_
      refine own_st (B := T31.setTop (mkF m 77 #[.val (.long arg0), .second, .val (.int v2), .val (.int (0 : Int32)), .val (.int (1 : Int32))] [(.int (1 : Int32))])) (fun t k => XS.iconst X31.here hx rfl (hb hby at_76) k) ?_
      refine own_st (B := T31.setTop (mkF m 81 #[.val (.long arg0), .second, .val (.int v2), .val (.int (0 : Int32)), .val (.int (1 : Int32))] [(.int (1 : Int32))])) (fun t k => XS.goto X31.here hx rfl (pc0 := 77) (pc' := 81) rfl (hb hby at_77) (by decide) (by decide) k) ?_
      refine own_retN X31 hx hlk (t := .boolean) Bd.returns (by simp) (z' := (1 : Int32)) rfl (hb hby at_81) (by decide) (by decide) ?_
      show Q0 Z arg0 h0 n0 _ T31.heap _
      rw [e31q]
      exact ⟨rfl, N31⟩
set_option maxHeartbeats 40000000 in
theorem comes_1 {Post : Tables → Env → Array Value → State → Outcome → State → Prop} (hpost : ∀ tb e args s v u, (limb_1_1.after args s (.returned v) u = true ∧ limb_1_2.after args s (.returned v) u = true ∧ True) → FrameEnd s (.returned v) u (Jvm.fieldLocs frame_1_writes args s ++ Jvm.arrayLocs frame_1_arrays args s ++ Jvm.staticLocs frame_1_statics s) 0 0 → Post tb e args s (.returned v) u) :
    ArmFor flags0 classFile x code maxLocals ret World_1 tables_1 room_1 Calls_1 rest_1 Pre_1 Post := by
  intro l hfl _ _ p e ha hc hk s m args below hf hA hF happ hP
  obtain ⟨hcalls, hrest, hpre⟩ := hP
  obtain ⟨-, -, -, hnamed, -, -, -, hat⟩ := (Spec.applies_iff hf).mp happ
  obtain ⟨hg, hn⟩ := and_e (Cond.before_iff.mp (show (Jvm.Cond.and given_1 narrow_1).before args s = true from hpre))
  obtain ⟨g1a, g1b⟩ := and_e hg
  obtain ⟨w0, rfl⟩ : ∃ w0 : Value, args = #[w0] := by
    have hs : args.size = 1 := by simpa [Cond.value, given_1] using g1a
    obtain ⟨L⟩ := args
    match L, hs with
    | [w0], _ => exact ⟨w0, rfl⟩
  have hw := fun d (hd : d ∈ tables_1) => atoms_spec (ws := Jvm.Cond.code x code maxLocals ret :: tables_1) hat d (List.mem_cons_of_mem _ hd)
  have hfit : Fit s := fun {y c} hc i hi => by
    obtain ⟨ha, rfl⟩ := Array.getElem?_eq_some_iff.mp hc
    have q := List.all_eq_true.mp ((Array.all_eq_true_iff_forall_mem.mp hF) _ (Array.getElem_mem ha)) i (List.mem_range.mpr hi)
    simpa [Array.getElem?_eq_getElem hi] using q
  obtain ⟨i0, ei0⟩ := isL_v g1b
  obtain rfl : w0 = (.long i0) := Option.some.inj ei0
  obtain ⟨n, o, h1, h2, h3, _, L, rfl, ⟨rfl, N⟩, hq⟩ := rm0 l s _ hw tables_1 i0 s.heap s.heap.size (Nat.le_refl _)  p e ha hc hk s m _ below hf ((Spec.applies_iff_loose hf).mp happ).1 ⟨rfl, State.Warmed39.refl s, rfl⟩ trivial
  refine ⟨n, _, h1, h2, h3, hpost _ _ _ _ _ _ ⟨Cond.after_iff.mpr rfl, Cond.after_iff.mpr (eq_i res_at (Term.int_eval (1)) rfl), trivial⟩ ⟨hq.1, hq.2.1, (hq.2.2.sift fun y hy => Or.inr (N y hy)).mono (by decide) (by decide)⟩⟩
theorem main_1_1 : Claimed_1_1 := comes_1 fun _ _ _ _ _ _ h hF => ⟨h.1, hF⟩
theorem main_1_2 : Claimed_1_2 := comes_1 fun _ _ _ _ _ _ h hF => ⟨h.2.1, hF⟩
end Jvm.Pilot.@@N@@
namespace Jvm.Pilot.@@N@@
open Jvm Jvm.ClassFile Sem Op Lib Jvm.Free Jvm.Stand Jvm.Pilot.@@N@@.Jvm.D
/-! MADE BY PROGRAM (witnessworld.py) out of the Statement's table words and the real class files: 9 classes; the members and pool entries that the words name. The judged class is class 1, her method 1. -/
namespace start1
open Jvm.ClassFile
def u (s : String) : CpInfo := .utf8 (stringToUtf16 s)
/-- a pool by its gaps: so many unusable entries, then the entry; so many at the end -/
def gap : Nat → List CpInfo → List CpInfo
  | 0, r => r
  | n + 1, r => .unusable :: gap n r
def poolList (es : List (Nat × CpInfo)) (last : Nat) : List CpInfo := es.foldr (fun e r => gap e.1 (e.2 :: r)) (gap last [])
def pool (es : List (Nat × CpInfo)) (last : Nat) : Array CpInfo := ⟨poolList es last⟩
def fileOf (pool : Array CpInfo) (this : Nat) (attrs : Array Attribute := #[]) (ms : Array MethodInfo := #[]) (fl : Nat := 33) (sup : Nat := 0) (ifs : Array Nat := #[]) (fds : Array FieldInfo := #[]) : ClassFile where
  minorVersion := 0
  majorVersion := 65
  constantPool := pool
  accessFlags := fl
  thisClass := this
  superClass := sup
  interfaces := ifs
  fields := fds
  methods := ms
  attributes := attrs
def plain (name : String) (sup : Option ClassId) : Class where
  name := name
  kind := .ordinary
  loader := none
  accessFlags := 33
  super := sup
  interfaces := #[]
  cf := none
  fields := #[]
  methods := #[]
  instanceTypes := #[]
  staticTypes := #[]
  resolved := #[]
  callSites := []
  init := .initialized
  statics := none
  mirror := none

def pool0 : Array CpInfo := pool [(5, u "<init>"), (0, u "()V"), (1, .class_ 10), (1, u "java/lang/Object")] 113

def k0m0 : Method := { name := "<init>", desc := "()V", sig := { parameters := [], returnType := none }, accessFlags := 1, code := none }
/-- java/lang/Object -/
def k0 : Class := { plain "java/lang/Object" none with
  accessFlags := 33
  interfaces := #[]
  cf := some (fileOf pool0 8 #[] #[{ accessFlags := 1, nameIndex := 5, descriptorIndex := 6, attributes := #[] }] 33 0 #[] #[])
  fields := #[]
  methods := #[k0m0]
  instanceTypes := #[]
  staticTypes := #[]
  resolved := Array.replicate 124 none
  statics := none }

def pool1 : Array CpInfo := pool [(2, .class_ 4), (1, u "java/lang/Object"), (0, u "<init>"), (0, u "()V"), (0, .methodref 8 9), (0, .class_ 10), (0, .nameAndType 11 12), (0, u "com/example/marshal_lock/marshallock/internal/AttemptReplies"), (0, u "isFirstHold"), (0, u "(J)Z"), (0, .methodref 8 14), (0, .nameAndType 15 12), (0, u "held"), (0, .long 2), (1, .long 18446744073709551615), (1, .class_ 21), (0, u "com/example/marshal_lock/marshallock/internal/AttemptRepliesIsFirstHoldPinLaw"), (2, u "law")] 3

def k1m0 : Method := { name := "<init>", desc := "()V", sig := { parameters := [], returnType := none }, accessFlags := 2, code := none }
def k1c1 : Code := { maxStack := 4, maxLocals := 5, code := code, exceptionTable := #[], attributes := #[] }
def k1m1 : Method := { name := "law", desc := "(J)Z", sig := { parameters := [.long], returnType := some .boolean }, accessFlags := 9, code := some k1c1 }
/-- com/example/marshal_lock/marshallock/internal/AttemptRepliesIsFirstHoldPinLaw -/
def k1 : Class := { plain "com/example/marshal_lock/marshallock/internal/AttemptRepliesIsFirstHoldPinLaw" (some 0) with
  accessFlags := 49
  interfaces := #[]
  cf := some (fileOf pool1 20 #[] #[{ accessFlags := 2, nameIndex := 5, descriptorIndex := 6, attributes := #[] }, { accessFlags := 9, nameIndex := 24, descriptorIndex := 12, attributes := #[] }] 49 2 #[] #[])
  fields := #[]
  methods := #[k1m0, k1m1]
  instanceTypes := #[]
  staticTypes := #[]
  resolved := Array.replicate 28 none
  statics := none }

def pool2 : Array CpInfo := pool [(2, .class_ 4), (1, u "java/lang/Object"), (0, u "<init>"), (0, u "()V"), (2, .class_ 10), (0, u "com/example/marshal_lock/marshallock/internal/AttemptReplies"), (2, u "held"), (0, u "(J)Z"), (1, u "isFirstHold")] 4

def k2m0 : Method := { name := "<init>", desc := "()V", sig := { parameters := [], returnType := none }, accessFlags := 2, code := none }
def k2c1 : Code := { maxStack := 4, maxLocals := 2, code := prog_3_method_2_code, exceptionTable := #[], attributes := #[] }
def k2m1 : Method := { name := "held", desc := "(J)Z", sig := { parameters := [.long], returnType := some .boolean }, accessFlags := 8, code := some k2c1 }
def k2c2 : Code := { maxStack := 4, maxLocals := 2, code := prog_3_method_3_code, exceptionTable := #[], attributes := #[] }
def k2m2 : Method := { name := "isFirstHold", desc := "(J)Z", sig := { parameters := [.long], returnType := some .boolean }, accessFlags := 8, code := some k2c2 }
/-- com/example/marshal_lock/marshallock/internal/AttemptReplies -/
def k2 : Class := { plain "com/example/marshal_lock/marshallock/internal/AttemptReplies" (some 0) with
  accessFlags := 48
  interfaces := #[]
  cf := some (fileOf pool2 9 #[] #[{ accessFlags := 2, nameIndex := 5, descriptorIndex := 6, attributes := #[] }, { accessFlags := 8, nameIndex := 13, descriptorIndex := 14, attributes := #[] }, { accessFlags := 8, nameIndex := 16, descriptorIndex := 14, attributes := #[] }] 48 2 #[] #[])
  fields := #[]
  methods := #[k2m0, k2m1, k2m2]
  instanceTypes := #[]
  staticTypes := #[]
  resolved := Array.replicate 21 none
  statics := none }

def pool3 : Array CpInfo := pool [(1, u "java/lang/Cloneable"), (0, .class_ 1), (0, u "java/lang/Object"), (0, .class_ 3)] 3

/-- java/lang/Cloneable -/
def k3 : Class := { plain "java/lang/Cloneable" (some 0) with
  accessFlags := 1537
  interfaces := #[]
  cf := some (fileOf pool3 2 #[] #[] 1537 4 #[] #[])
  fields := #[]
  methods := #[]
  instanceTypes := #[]
  staticTypes := #[]
  resolved := Array.replicate 8 none
  statics := none }

def pool4 : Array CpInfo := pool [(1, u "java/io/Serializable"), (0, .class_ 1), (0, u "java/lang/Object"), (0, .class_ 3)] 3

/-- java/io/Serializable -/
def k4 : Class := { plain "java/io/Serializable" (some 0) with
  accessFlags := 1537
  interfaces := #[]
  cf := some (fileOf pool4 2 #[] #[] 1537 4 #[] #[])
  fields := #[]
  methods := #[]
  instanceTypes := #[]
  staticTypes := #[]
  resolved := Array.replicate 8 none
  statics := none }

/-- the primitive byte -/
def k5 : Class := { plain "byte" none with kind := .primitive 'B', accessFlags := 0x411 }
/-- [B -/
def k6 : Class := { plain "[B" (some 0) with kind := .array 5 .byte, interfaces := #[3, 4], accessFlags := 1041 }

/-- the primitive int -/
def k7 : Class := { plain "int" none with kind := .primitive 'I', accessFlags := 0x411 }
/-- [I -/
def k8 : Class := { plain "[I" (some 0) with kind := .array 7 .int, interfaces := #[3, 4], accessFlags := 1041 }

def heap : Heap := #[]
def classes : Array Class := #[k0, k1, k2, k3, k4, k5, k6, k7, k8]
def interned : List (Array UInt16 × Addr) := []
def slotsUsed : Nat := 0
def theMethod : MethodId := ⟨1, 1⟩
def args0 : Array Value := #[.long 5]
def aboutOver (below : List Frame) : State where
  vm := { classes := classes, interned := interned.toArray }
  heap := heap
  slotsUsed := slotsUsed
  threads := #[{ frames := .invoking theMethod args0 :: below }]
def below0 : List Frame := [.native { method := ⟨0, 0⟩, args := #[] }]
def about1 : State := aboutOver below0
def p0 : Program := .bare "" "" ""
def e0 : Env := launch0.env 0 0 0
theorem w_frames : about1.frames = Frame.invoking theMethod args0 :: below0 := rfl
set_option maxRecDepth 65536 in
theorem w_args : argsFit about1.vm theMethod args0 = true := by decide +kernel
set_option maxRecDepth 65536 in
theorem w_heap : heapFits about1 = true := by decide +kernel
set_option maxRecDepth 65536 in
theorem w_runnable : about1.curStatus? = some .runnable := by decide +kernel
set_option maxRecDepth 65536 in
theorem w_alone : about1.alone = true := by decide +kernel
set_option maxRecDepth 65536 in
theorem w_named : about1.methodNamed? x = some theMethod := by decide +kernel
set_option maxRecDepth 65536 in
theorem w_hears : about1.hears theMethod below0 = true := by decide +kernel
set_option maxRecDepth 65536 in
theorem w_ripe : about1.ripe theMethod args0 below0 = true := by decide +kernel
theorem w_running : about1.status = .running := rfl
set_option maxRecDepth 65536 in
theorem w_room : about1.hasRoom e0.platform room_1 = true :=
  launch0.hasRoom_least _ room_1 (by decide +kernel) (by decide +kernel) (by decide +kernel) (by decide +kernel) (by decide +kernel) (by decide +kernel)
theorem allAtoms_all (ts : List Jvm.Cond) (a : Array Jvm.Value) (st : Jvm.State) : (allAtoms ts).before a st = ts.all (fun c => c.before a st) := by
  induction ts with
  | nil => rfl
  | cons c t ih =>
    show (Jvm.Cond.and c (allAtoms t)).before a st = _
    rw [Jvm.Cond.before_and, ih, List.all_cons]
def words1 : List Jvm.Cond := Jvm.Cond.code x code maxLocals ret :: tables_1
/-- a 'code' word, met by the world's own term for the bytes: nothing is compared byte by byte -/
theorem code_word {y : MethodName} {bytes : ByteArray} {mx : Nat} {rt : Option FieldType} {a : Array Value} {s : State} {m : MethodId} {meth : Method} {c : Code} (h1 : s.methodNamed? y = some m) (h2 : s.vm.method? m = some meth) (h3 : meth.code = some c) (h4 : c.code = bytes)
    (h5 : (c.maxLocals == mx && c.exceptionTable.isEmpty && decide (c.maxStack ≤ mostOperands) && decide (meth.sig.returnType = rt) && !meth.locks && decide (parseMethodDescriptor y.desc = some meth.sig)) = true) : (Jvm.Cond.code y bytes mx rt).before a s = true := by
  simp only [Bool.and_eq_true, beq_iff_eq, Bool.not_eq_true', decide_eq_true_eq] at h5
  obtain ⟨⟨⟨⟨⟨g1, g2⟩, g3⟩, g4⟩, g5⟩, g6⟩ := h5
  simp [Cond.before, Cond.holds, Cond.value, h1, h2, h3, h4, g1, g2, g3, g4, g5, g6]
def isCode : Jvm.Cond → Bool
  | .code _ _ _ _ => true
  | _ => false
theorem all_split {L : List Jvm.Cond} {P : Jvm.Cond → Bool} (h1 : L.all (fun c => isCode c || P c) = true) (h2 : ∀ c ∈ L.filter isCode, P c = true) : L.all P = true := by
  refine List.all_eq_true.mpr fun c hc => ?_
  have h := List.all_eq_true.mp h1 c hc
  rcases Bool.eq_false_or_eq_true (isCode c) with hi | hi
  · exact h2 c (List.mem_filter.mpr ⟨hc, hi⟩)
  · simpa [hi] using h
set_option maxRecDepth 65536 in
theorem w_c0 : (Jvm.Cond.code x code maxLocals ret).before args0 about1 = true := code_word (m := ⟨1, 1⟩) (meth := k1m1) (c := k1c1) (by decide +kernel) rfl rfl rfl (by decide +kernel)
set_option maxRecDepth 65536 in
theorem w_c1 : (Jvm.Cond.code ({ cls := "com/example/marshal_lock/marshallock/internal/AttemptReplies", name := "isFirstHold", desc := "(J)Z" } : Jvm.MethodName) prog_3_method_3_code (2 : Nat) (Option.some Jvm.ClassFile.FieldType.boolean)).before args0 about1 = true := code_word (m := ⟨2, 2⟩) (meth := k2m2) (c := k2c2) (by decide +kernel) rfl rfl rfl (by decide +kernel)
set_option maxRecDepth 65536 in
theorem w_c2 : (Jvm.Cond.code ({ cls := "com/example/marshal_lock/marshallock/internal/AttemptReplies", name := "held", desc := "(J)Z" } : Jvm.MethodName) prog_3_method_2_code (2 : Nat) (Option.some Jvm.ClassFile.FieldType.boolean)).before args0 about1 = true := code_word (m := ⟨2, 1⟩) (meth := k2m1) (c := k2c1) (by decide +kernel) rfl rfl rfl (by decide +kernel)
def codes1 : List Jvm.Cond := [Jvm.Cond.code x code maxLocals ret, Jvm.Cond.code ({ cls := "com/example/marshal_lock/marshallock/internal/AttemptReplies", name := "isFirstHold", desc := "(J)Z" } : Jvm.MethodName) prog_3_method_3_code (2 : Nat) (Option.some Jvm.ClassFile.FieldType.boolean), Jvm.Cond.code ({ cls := "com/example/marshal_lock/marshallock/internal/AttemptReplies", name := "held", desc := "(J)Z" } : Jvm.MethodName) prog_3_method_2_code (2 : Nat) (Option.some Jvm.ClassFile.FieldType.boolean)]
set_option maxRecDepth 65536 in
theorem codes_eq : words1.filter isCode = codes1 := rfl
theorem w_codes : ∀ c ∈ words1.filter isCode, c.before args0 about1 = true := by
  rw [codes_eq]
  intro c hc
  simp only [codes1, List.mem_cons, List.not_mem_nil, or_false] at hc
  rcases hc with rfl | rfl | rfl
  · exact w_c0
  · exact w_c1
  · exact w_c2
set_option maxRecDepth 65536 in
theorem w_t1 : words1.all (fun c => isCode c || c.before args0 about1) = true := by decide +kernel
theorem w_tables : (allAtoms (Jvm.Cond.code x code maxLocals ret :: tables_1)).before args0 about1 = true := by
  rw [allAtoms_all]
  show words1.all (fun c => c.before args0 about1) = true
  refine all_split ?_ w_codes
  rw [w_t1]
set_option maxRecDepth 65536 in
theorem w_case : (Jvm.Cond.and given_1 narrow_1).before args0 about1 = true := by decide +kernel
theorem w_applies : (headSpec (Jvm.Cond.code x code maxLocals ret :: tables_1) room_1).applies x e0.platform about1 = true :=
  (Spec.applies_iff w_frames).mpr ⟨w_running, w_runnable, w_alone, w_named, w_hears, w_ripe, w_room, w_tables⟩
theorem atStart : AtStart classFile x code maxLocals ret World_1 tables_1 room_1 Calls_1 rest_1 Pre_1 launch0 p0 e0 about1 theMethod args0 below0 :=
  ⟨lists_1, trivial, launch0.admits_env _ _ _, launch0.least_env, fairChoices_fair.cas, fairChoices_fair.clock, w_frames, w_args, w_heap, w_applies, trivial, trivial, w_case⟩
end start1
theorem witness_1 : WitnessClaimed_1 := ⟨start1.p0, start1.e0, start1.about1, start1.theMethod, start1.args0, start1.below0, start1.atStart⟩
end Jvm.Pilot.@@N@@
