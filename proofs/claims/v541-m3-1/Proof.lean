import JvmDerived
import JvmDerived.Pilot.@@N@@Statement
import JvmDerived.Pilot.@@N@@Code
set_option linter.unusedVariables false
set_option linter.unusedSimpArgs false
namespace Jvm.Pilot.@@N@@
open Jvm Jvm.ClassFile Sem Op Lib Jvm.Free Jvm.Stand Jvm.LawKit Jvm.RoadKit Bundle Jvm.Pilot.@@N@@.Jvm.D
set_option maxRecDepth 65536
/-! the run still has to be led to its end from A: the goal of a walk, taken step by step -/
def own_Go (p : Program) (e : Env) (below : List Frame) (s : State) (Q : Option Value → Heap → List Loc → Prop) (C S : Nat) (A : State) : Prop :=
  ∃ s₂ o, Steps p.tables e below A s₂ ∧ s₂.status = .running ∧ Ended s₂ below o ∧ ∃ v L, o = .returned v ∧ Q v s₂.heap L ∧ FrameEnd s o s₂ L C S
section OwnA
variable {p : Program} {l : Launch} {e : Env} {R : Room} {s : State} {m : MethodId} {args : Array Value} {below : List Frame} {meth : Method} {c : Code} {T : State} {locs : List Loc} {cells slots : Nat} {Q : Option Value → Heap → List Loc → Prop} {C S : Nat}
theorem own_st {A B : State} (h : ∀ t, Steps p.tables e below B t → Steps p.tables e below A t) (g : own_Go p e below s Q C S B) : own_Go p e below s Q C S A := by
  obtain ⟨s₂, o, h1, r⟩ := g
  exact ⟨s₂, o, h _ h1, r⟩
theorem own_ss {A B : State} (h : Steps p.tables e below A B) (g : own_Go p e below s Q C S B) : own_Go p e below s Q C S A := own_st (fun _ k => h.trans k) g
theorem own_cut {P G : Prop} (a : P → G) (b : P) : G := a b
theorem own_leave (X : Stand p l e R s m args below meth c T locs cells slots) {v : Option Value} (hv : meth.sig.returnType = none → v = none) (hlk : meth.locks = false) (hQ : Q v T.heap locs) (hc : cells ≤ C) (hs : slots ≤ S) {A : State}
    (hr : ∀ fs, (∀ (f : JFrame) (acts : List Action), f.method = m → f.locked = none → f.entered = [] → (doReturn e (T.setTop f) acts v).1 = T.setFrames fs) → Steps p.tables e below A (T.setFrames fs)) : own_Go p e below s Q C S A := by
  obtain ⟨fs, hr', hrun, hended, hW, hsame⟩ := X.leave (v := v) hv hlk
  exact ⟨_, _, hr fs hr', hrun, hended, _, _, rfl, hQ, ⟨_, rfl⟩, hW, hsame.mono hc hs⟩
theorem own_retV (X : Stand p l e R s m args below meth c T locs cells slots) (hx : p.tables.exec = Jvm.exec) (hlk : meth.locks = false) (hret : meth.sig.returnType = none) {pc : Nat} {Ls : Array Slot} (hd : decode c.code pc = .ok (.return_, 1)) (hc : cells ≤ C) (hs : slots ≤ S) (hQ : Q none T.heap locs) :
    own_Go p e below s Q C S (T.setTop (mkF m pc Ls [])) := own_leave X (fun _ => rfl) hlk hQ hc hs fun _ hr => X.returnOut hx hret hd hr
theorem own_retI (X : Stand p l e R s m args below meth c T locs cells slots) (hx : p.tables.exec = Jvm.exec) (hlk : meth.locks = false) (hret : meth.sig.returnType = some .int) {pc : Nat} {Ls : Array Slot} {z : Int32} {rest : List Value} (hd : decode c.code pc = .ok (.ireturn, 1)) (hc : cells ≤ C) (hs : slots ≤ S) (hQ : Q (some (.int z)) T.heap locs) :
    own_Go p e below s Q C S (T.setTop (mkF m pc Ls (.int z :: rest))) := own_leave X (fun h => by rw [hret] at h; cases h) hlk hQ hc hs fun _ hr => retOut X hx hret rfl (Or.inl ⟨rfl, Or.inl rfl, _, rfl⟩) hd hr
theorem own_retJ (X : Stand p l e R s m args below meth c T locs cells slots) (hx : p.tables.exec = Jvm.exec) (hlk : meth.locks = false) (hret : meth.sig.returnType = some .long) {pc : Nat} {Ls : Array Slot} {z : Int64} {rest : List Value} (hd : decode c.code pc = .ok (.lreturn, 1)) (hc : cells ≤ C) (hs : slots ≤ S) (hQ : Q (some (.long z)) T.heap locs) :
    own_Go p e below s Q C S (T.setTop (mkF m pc Ls (.long z :: rest))) := own_leave X (fun h => by rw [hret] at h; cases h) hlk hQ hc hs fun _ hr => retOut X hx hret rfl (Or.inr (Or.inl ⟨rfl, rfl, _, rfl⟩)) hd hr
theorem own_retR (X : Stand p l e R s m args below meth c T locs cells slots) (hx : p.tables.exec = Jvm.exec) (hlk : meth.locks = false) {t : FieldType} (hret : meth.sig.returnType = some t) (ht : t.isReference = true) {pc : Nat} {Ls : Array Slot} {w : Value} {rest : List Value} (hn : narrow t w = w) (hw : w.isRef = true) (hd : decode c.code pc = .ok (.areturn, 1)) (hc : cells ≤ C) (hs : slots ≤ S) (hQ : Q (some w) T.heap locs) :
    own_Go p e below s Q C S (T.setTop (mkF m pc Ls (w :: rest))) := own_leave X (fun h => by rw [hret] at h; cases h) hlk hQ hc hs fun _ hr => retOut X hx hret hn (Or.inr (Or.inr (Or.inr (Or.inr ⟨rfl, ht, hw⟩)))) hd hr
theorem own_retN (X : Stand p l e R s m args below meth c T locs cells slots) (hx : p.tables.exec = Jvm.exec) (hlk : meth.locks = false) {t : FieldType} (hret : meth.sig.returnType = some t) (ht : t = .boolean ∨ t = .byte ∨ t = .char ∨ t = .short) {pc : Nat} {Ls : Array Slot} {z z' : Int32} {rest : List Value} (hz : nar t z = z') (hd : decode c.code pc = .ok (.ireturn, 1)) (hc : cells ≤ C) (hs : slots ≤ S) (hQ : Q (some (.int z')) T.heap locs) :
    own_Go p e below s Q C S (T.setTop (mkF m pc Ls (.int z :: rest))) := by
  subst hz
  exact own_leave X (fun h => by rw [hret] at h; cases h) hlk hQ hc hs fun _ hr => retN X hx hret ht hd hr
/-! arrays by the whole list of what they hold -/
variable {Z : State} {h h' : Heap} {a b : Addr} {ty : FieldType} {vs : List Value}
def own_A (Z : State) (h : Heap) (a : Addr) (ty : FieldType) (vs : List Value) : Prop := ∃ c : Cell, Arr Z h a c ty ∧ c.slots.toList = vs
theorem own_A.lt (F : own_A Z h a ty vs) : a < h.size := by obtain ⟨c, A, -⟩ := F; exact A.lt
theorem own_A.ext (F : own_A Z h a ty vs) (E : Ext h h') : own_A Z h' a ty vs := by obtain ⟨c, A, q⟩ := F; exact ⟨c, A.ext E, q⟩
theorem own_A.other {sl : Nat} {v : Value} (F : own_A Z h a ty vs) (W : Wr h h' b sl v) (q : a ≠ b) : own_A Z h' a ty vs := by obtain ⟨c, A, r⟩ := F; exact ⟨c, A.other W q, r⟩
theorem own_A.keep {ws : List Addr} (F : own_A Z h a ty vs) (K : Keep h h' ws) (q : a ∉ ws) : own_A Z h' a ty vs := by obtain ⟨c, A, r⟩ := F; exact ⟨c, ⟨K.2.1 a c A.1 q, A.2⟩, r⟩
theorem own_A.set {i : Nat} {v : Value} (F : own_A Z h a ty vs) (W : Wr h h' a i v) : own_A Z h' a ty (vs.set i v) := by
  obtain ⟨c, A, rfl⟩ := F
  exact ⟨_, A.same W, by simp [Cell.setSlot]⟩
theorem own_ix {j : Int32} {i : Nat} (hj : j.toInt = (i : Int)) : ¬ j < 0 ∧ j.toNatClampNeg = i := by
  refine ⟨?_, ?_⟩
  · rw [Int32.lt_iff_toInt_lt, hj]
    show ¬ ((i : Int) < 0)
    omega
  · have h1 : j.toNatClampNeg = j.toInt.toNat := rfl
    rw [h1, hj]; rfl
theorem own_in {cl : Cell} {j : Int32} {i : Nat} {v : Value} (hj : j.toInt = (i : Int)) (hv : cl.slots.toList[i]? = some v) : ¬ (j < 0 ∨ cl.slots.size ≤ j.toNatClampNeg) ∧ cl.slots[j.toNatClampNeg]? = some v := by
  obtain ⟨n0, n1⟩ := own_ix hj
  rw [n1]
  rw [Array.getElem?_toList] at hv
  refine ⟨?_, hv⟩
  have h2 := (Array.getElem?_eq_some_iff.mp hv).1
  rintro (q | q)
  · exact n0 q
  · omega
theorem own_ldI (X : Stand p l e R s m args below meth c T locs cells slots) (hx : p.tables.exec = Jvm.exec) (hZ : Z.Warmed39 s.vm) (eT : T.heap = h) (A : own_A Z h a .int vs) {j : Int32} {i : Nat} {v : Value} (hj : j.toInt = (i : Int)) (hv : vs[i]? = some v) {g : JFrame} (hg : g.method = m) {rest : List Value} (hs : g.stack = .int j :: .ref a :: rest) (hd : decode c.code g.pc = .ok (.iaload, 1)) {t : State}
    (k : Steps p.tables e below (T.setTop { g with pc := g.pc + 1, stack := v :: rest }) t) : Steps p.tables e below (T.setTop g) t := by
  obtain ⟨cl, A, rfl⟩ := A
  exact X.iaload hx (by rw [eT]; exact A.1) (State.isArrayOf_alike hZ.alike A.2.1) A.2.2 (own_in hj hv).1 (own_in hj hv).2 hg hs hd _ k
theorem own_ldJ (X : Stand p l e R s m args below meth c T locs cells slots) (hx : p.tables.exec = Jvm.exec) (hZ : Z.Warmed39 s.vm) (eT : T.heap = h) (A : own_A Z h a .long vs) {j : Int32} {i : Nat} {v : Value} (hj : j.toInt = (i : Int)) (hv : vs[i]? = some v) {g : JFrame} (hg : g.method = m) {rest : List Value} (hs : g.stack = .int j :: .ref a :: rest) (hd : decode c.code g.pc = .ok (.laload, 1)) {t : State}
    (k : Steps p.tables e below (T.setTop { g with pc := g.pc + 1, stack := v :: rest }) t) : Steps p.tables e below (T.setTop g) t := by
  obtain ⟨cl, A, rfl⟩ := A
  exact X.laload hx (by rw [eT]; exact A.1) (State.isArrayOf_alike hZ.alike A.2.1) A.2.2 (own_in hj hv).1 (own_in hj hv).2 hg hs hd _ k
theorem own_ldB (X : Stand p l e R s m args below meth c T locs cells slots) (hx : p.tables.exec = Jvm.exec) (hZ : Z.Warmed39 s.vm) (eT : T.heap = h) (A : own_A Z h a .byte vs) {j : Int32} {i : Nat} {v : Value} (hj : j.toInt = (i : Int)) (hv : vs[i]? = some v) {g : JFrame} (hg : g.method = m) {rest : List Value} (hs : g.stack = .int j :: .ref a :: rest) (hd : decode c.code g.pc = .ok (.baload, 1)) {t : State}
    (k : Steps p.tables e below (T.setTop { g with pc := g.pc + 1, stack := v :: rest }) t) : Steps p.tables e below (T.setTop g) t := by
  obtain ⟨cl, A, rfl⟩ := A
  exact X.baloadBytes hx (by rw [eT]; exact A.1) (State.isArrayOf_alike hZ.alike A.2.1) A.2.2 (own_in hj hv).1 (own_in hj hv).2 hg hs hd _ k
theorem own_ldZ (X : Stand p l e R s m args below meth c T locs cells slots) (hx : p.tables.exec = Jvm.exec) (hZ : Z.Warmed39 s.vm) (eT : T.heap = h) (A : own_A Z h a .boolean vs) {j : Int32} {i : Nat} {v : Value} (hj : j.toInt = (i : Int)) (hv : vs[i]? = some v) {g : JFrame} (hg : g.method = m) {rest : List Value} (hs : g.stack = .int j :: .ref a :: rest) (hd : decode c.code g.pc = .ok (.baload, 1)) {t : State}
    (k : Steps p.tables e below (T.setTop { g with pc := g.pc + 1, stack := v :: rest }) t) : Steps p.tables e below (T.setTop g) t := by
  obtain ⟨cl, A, rfl⟩ := A
  exact X.baloadBooleans hx (by rw [eT]; exact A.1) (State.isArrayOf_alike hZ.alike A.2.1) A.2.2 (own_in hj hv).1 (own_in hj hv).2 hg hs hd _ k
theorem own_ldS (X : Stand p l e R s m args below meth c T locs cells slots) (hx : p.tables.exec = Jvm.exec) (hZ : Z.Warmed39 s.vm) (eT : T.heap = h) (A : own_A Z h a .short vs) {j : Int32} {i : Nat} {v : Value} (hj : j.toInt = (i : Int)) (hv : vs[i]? = some v) {g : JFrame} (hg : g.method = m) {rest : List Value} (hs : g.stack = .int j :: .ref a :: rest) (hd : decode c.code g.pc = .ok (.saload, 1)) {t : State}
    (k : Steps p.tables e below (T.setTop { g with pc := g.pc + 1, stack := v :: rest }) t) : Steps p.tables e below (T.setTop g) t := by
  obtain ⟨cl, A, rfl⟩ := A
  exact X.saload hx (by rw [eT]; exact A.1) (State.isArrayOf_alike hZ.alike A.2.1) A.2.2 (own_in hj hv).1 (own_in hj hv).2 hg hs hd _ k
theorem own_ldC (X : Stand p l e R s m args below meth c T locs cells slots) (hx : p.tables.exec = Jvm.exec) (hZ : Z.Warmed39 s.vm) (eT : T.heap = h) (A : own_A Z h a .char vs) {j : Int32} {i : Nat} {v : Value} (hj : j.toInt = (i : Int)) (hv : vs[i]? = some v) {g : JFrame} (hg : g.method = m) {rest : List Value} (hs : g.stack = .int j :: .ref a :: rest) (hd : decode c.code g.pc = .ok (.caload, 1)) {t : State}
    (k : Steps p.tables e below (T.setTop { g with pc := g.pc + 1, stack := v :: rest }) t) : Steps p.tables e below (T.setTop g) t := by
  obtain ⟨cl, A, rfl⟩ := A
  exact X.caload hx (by rw [eT]; exact A.1) (State.isArrayOf_alike hZ.alike A.2.1) A.2.2 (own_in hj hv).1 (own_in hj hv).2 hg hs hd _ k
theorem own_ldR (X : Stand p l e R s m args below meth c T locs cells slots) (hx : p.tables.exec = Jvm.exec) (hZ : Z.Warmed39 s.vm) (eT : T.heap = h) (A : own_A Z h a ty vs) (hty : ty.isReference = true) {j : Int32} {i : Nat} {v : Value} (hj : j.toInt = (i : Int)) (hv : vs[i]? = some v) {g : JFrame} (hg : g.method = m) {rest : List Value} (hs : g.stack = .int j :: .ref a :: rest) (hd : decode c.code g.pc = .ok (.aaload, 1)) {t : State}
    (k : Steps p.tables e below (T.setTop { g with pc := g.pc + 1, stack := v :: rest }) t) : Steps p.tables e below (T.setTop g) t := by
  obtain ⟨cl, A, rfl⟩ := A
  exact X.aaload hx (by rw [eT]; exact A.1) (State.isArrayOf_alike hZ.alike A.2.1) hty A.2.2 (own_in hj hv).1 (own_in hj hv).2 hg hs hd _ k
theorem own_stI (X : Stand p l e R s m args below meth c T locs cells slots) (hx : p.tables.exec = Jvm.exec) (hZ : Z.Warmed39 s.vm) (eT : T.heap = h) (A : own_A Z h a .int vs) {j x : Int32} {i : Nat} (hj : j.toInt = (i : Int)) (hi : i < vs.length) {g : JFrame} (hg : g.method = m) {rest : List Value} (hs : g.stack = .int x :: .int j :: .ref a :: rest) (hd : decode c.code g.pc = .ok (.iastore, 1)) :
    ∃ T' h', Stand p l e R s m args below meth c T' (locs ++ [⟨a, i⟩]) cells slots ∧ T'.heap = h' ∧ Wr h h' a i (.int x) ∧ own_A Z h' a .int (vs.set i (.int x)) ∧ ∀ target, Steps p.tables e below (T'.setTop { g with pc := g.pc + 1, stack := rest }) target → Steps p.tables e below (T.setTop g) target := by
  obtain ⟨cl, A, rfl⟩ := A
  have hin := (own_in (cl := cl) (v := cl.slots.toList[i]) hj (List.getElem?_eq_getElem hi)).1
  obtain ⟨T', h', X', e', W', st⟩ := stI X hx hZ eT A (j := j) (x := x) hin hg hs hd
  rw [(own_ix hj).2] at X' W'
  exact ⟨T', h', X', e', W', own_A.set ⟨cl, A, rfl⟩ W', st⟩
theorem own_stJ (X : Stand p l e R s m args below meth c T locs cells slots) (hx : p.tables.exec = Jvm.exec) (hZ : Z.Warmed39 s.vm) (eT : T.heap = h) (A : own_A Z h a .long vs) {j : Int32} {x : Int64} {i : Nat} (hj : j.toInt = (i : Int)) (hi : i < vs.length) {g : JFrame} (hg : g.method = m) {rest : List Value} (hs : g.stack = .long x :: .int j :: .ref a :: rest) (hd : decode c.code g.pc = .ok (.lastore, 1)) :
    ∃ T' h', Stand p l e R s m args below meth c T' (locs ++ [⟨a, i⟩]) cells slots ∧ T'.heap = h' ∧ Wr h h' a i (.long x) ∧ own_A Z h' a .long (vs.set i (.long x)) ∧ ∀ target, Steps p.tables e below (T'.setTop { g with pc := g.pc + 1, stack := rest }) target → Steps p.tables e below (T.setTop g) target := by
  obtain ⟨cl, A, rfl⟩ := A
  have hin := (own_in (cl := cl) (v := cl.slots.toList[i]) hj (List.getElem?_eq_getElem hi)).1
  obtain ⟨T', h', X', e', W', st⟩ := stJ X hx hZ eT A (j := j) (x := x) hin hg hs hd
  rw [(own_ix hj).2] at X' W'
  exact ⟨T', h', X', e', W', own_A.set ⟨cl, A, rfl⟩ W', st⟩
theorem own_stB (X : Stand p l e R s m args below meth c T locs cells slots) (hx : p.tables.exec = Jvm.exec) (hZ : Z.Warmed39 s.vm) (eT : T.heap = h) (A : own_A Z h a .byte vs) {j x : Int32} {i : Nat} (hj : j.toInt = (i : Int)) (hi : i < vs.length) {g : JFrame} (hg : g.method = m) {rest : List Value} (hs : g.stack = .int x :: .int j :: .ref a :: rest) (hd : decode c.code g.pc = .ok (.bastore, 1)) :
    ∃ T' h', Stand p l e R s m args below meth c T' (locs ++ [⟨a, i⟩]) cells slots ∧ T'.heap = h' ∧ Wr h h' a i (.int x.toInt8.toInt32) ∧ own_A Z h' a .byte (vs.set i (.int x.toInt8.toInt32)) ∧ ∀ target, Steps p.tables e below (T'.setTop { g with pc := g.pc + 1, stack := rest }) target → Steps p.tables e below (T.setTop g) target := by
  obtain ⟨cl, A, rfl⟩ := A
  have hin := (own_in (cl := cl) (v := cl.slots.toList[i]) hj (List.getElem?_eq_getElem hi)).1
  obtain ⟨T', h', X', e', W', st⟩ := stB X hx hZ eT A (j := j) (x := x) hin hg hs hd
  rw [(own_ix hj).2] at X' W'
  exact ⟨T', h', X', e', W', own_A.set ⟨cl, A, rfl⟩ W', st⟩
theorem own_stS (X : Stand p l e R s m args below meth c T locs cells slots) (hx : p.tables.exec = Jvm.exec) (hZ : Z.Warmed39 s.vm) (eT : T.heap = h) (A : own_A Z h a .short vs) {j x : Int32} {i : Nat} (hj : j.toInt = (i : Int)) (hi : i < vs.length) {g : JFrame} (hg : g.method = m) {rest : List Value} (hs : g.stack = .int x :: .int j :: .ref a :: rest) (hd : decode c.code g.pc = .ok (.sastore, 1)) :
    ∃ T' h', Stand p l e R s m args below meth c T' (locs ++ [⟨a, i⟩]) cells slots ∧ T'.heap = h' ∧ Wr h h' a i (.int x.toInt16.toInt32) ∧ own_A Z h' a .short (vs.set i (.int x.toInt16.toInt32)) ∧ ∀ target, Steps p.tables e below (T'.setTop { g with pc := g.pc + 1, stack := rest }) target → Steps p.tables e below (T.setTop g) target := by
  obtain ⟨cl, A, rfl⟩ := A
  have hin := (own_in (cl := cl) (v := cl.slots.toList[i]) hj (List.getElem?_eq_getElem hi)).1
  obtain ⟨T', h', X', e', W', st⟩ := stS X hx hZ eT A (j := j) (x := x) hin hg hs hd
  rw [(own_ix hj).2] at X' W'
  exact ⟨T', h', X', e', W', own_A.set ⟨cl, A, rfl⟩ W', st⟩
theorem own_stC (X : Stand p l e R s m args below meth c T locs cells slots) (hx : p.tables.exec = Jvm.exec) (hZ : Z.Warmed39 s.vm) (eT : T.heap = h) (A : own_A Z h a .char vs) {j x : Int32} {i : Nat} (hj : j.toInt = (i : Int)) (hi : i < vs.length) {g : JFrame} (hg : g.method = m) {rest : List Value} (hs : g.stack = .int x :: .int j :: .ref a :: rest) (hd : decode c.code g.pc = .ok (.castore, 1)) :
    ∃ T' h', Stand p l e R s m args below meth c T' (locs ++ [⟨a, i⟩]) cells slots ∧ T'.heap = h' ∧ Wr h h' a i (.int x.toUInt32.toUInt16.toUInt32.toInt32) ∧ own_A Z h' a .char (vs.set i (.int x.toUInt32.toUInt16.toUInt32.toInt32)) ∧ ∀ target, Steps p.tables e below (T'.setTop { g with pc := g.pc + 1, stack := rest }) target → Steps p.tables e below (T.setTop g) target := by
  obtain ⟨cl, A, rfl⟩ := A
  have hin := (own_in (cl := cl) (v := cl.slots.toList[i]) hj (List.getElem?_eq_getElem hi)).1
  obtain ⟨T', h', X', e', W', st⟩ := stC X hx hZ eT A (j := j) (x := x) hin hg hs hd
  rw [(own_ix hj).2] at X' W'
  exact ⟨T', h', X', e', W', own_A.set ⟨cl, A, rfl⟩ W', st⟩
theorem own_newP {a0 : Array Value} (X : Stand p l e R s m args below meth c T locs cells slots) (hx : p.tables.exec = Jvm.exec) (hZ : Z.Warmed39 s.vm) {aty : ArrayType} (w : (Cond.arrayClass (newarray.typeOf aty)).before a0 Z = true) (eT : T.heap = h) {g : JFrame} (hg : g.method = m) (hd : decode c.code g.pc = .ok (.newarray aty, 2)) {n : Int32} {rest : List Value} (hs : g.stack = .int n :: rest)
    {k cap : Nat} (hk : n.toInt = (k : Int)) (hcap : k ≤ cap) (hb : cap * 8 ≤ 536870912) (hc : cells + 1 ≤ R.cells) (hl : slots + cap ≤ R.slots) {ad : String} (had : "[" ++ (newarray.typeOf aty).toString = ad) :
    ∃ T' h', Stand p l e R s m args below meth c T' locs (cells + 1) (slots + cap) ∧ T'.heap = h' ∧ Ext h h' ∧ own_A Z h' h.size (newarray.typeOf aty) (List.replicate k (defaultValue (newarray.typeOf aty))) ∧ Exa Z h' h.size ad ∧
      ∀ target, Steps p.tables e below (T'.setTop { g with pc := g.pc + 2, stack := .ref h.size :: rest }) target → Steps p.tables e below (T.setTop g) target := by
  obtain ⟨n0, n1⟩ := own_ix hk
  obtain ⟨T', h', cA, X', e', E', A', x', st⟩ := newPE X hx hZ w eT hg hd hs n0 (cap := cap) (by rw [n1]; exact hcap) hb hc hl had
  exact ⟨T', h', X', e', E', ⟨_, A', by simp [newA, n1]⟩, x', st⟩
theorem own_clone {a0 : Array Value} (X : Stand p l e R s m args below meth c T locs cells slots) (hx : p.tables.exec = Jvm.exec) (hZ : Z.Warmed39 s.vm) {own ad : String} {index : Nat} (hown : s.vm.findClass own = some m.cls)
    (w1 : (Cond.methodLink own index ⟨ad, "clone", "()Ljava/lang/Object;"⟩).before a0 Z = true) (w2 : (Cond.sameMethod ad "java/lang/Object" "clone" "()Ljava/lang/Object;").before a0 Z = true) (w3 : (Cond.native ⟨"java/lang/Object", "clone", "()Ljava/lang/Object;"⟩).before a0 Z = true)
    (w4 : (Cond.instanceMethod ⟨"java/lang/Object", "clone", "()Ljava/lang/Object;"⟩).before a0 Z = true) (w5 : (Cond.selects ad ⟨ad, "clone", "()Ljava/lang/Object;"⟩ ⟨"java/lang/Object", "clone", "()Ljava/lang/Object;"⟩).before a0 Z = true) (w6 : (Cond.castable ad "java/lang/Cloneable").before a0 Z = true)
    (eT : T.heap = h) (A : own_A Z h a ty vs) (E : Exa Z h a ad) (hf : ∀ v ∈ vs, fits ty v = true) {g : JFrame} (hg : g.method = m) (hsize : g.locals.size = c.maxLocals) {rest : List Value} (hst : g.stack = .ref a :: rest) (hd : decode c.code g.pc = .ok (.invokevirtual index, 3))
    (hfr : 1 ≤ R.frames) {W cap : Nat} (hW : 2 * g.monitorRoom + (rest.map fun v => v.category).sum ≤ W) (hl : W + 14 ≤ R.locals) (hcap : vs.length ≤ cap) (hc : cells + 1 ≤ R.cells) (hsl : slots + cap ≤ R.slots) :
    ∃ T' h', Stand p l e R s m args below meth c T' locs (cells + 1) (slots + cap) ∧ T'.heap = h' ∧ Ext h h' ∧ own_A Z h' h.size ty vs ∧ Exa Z h' h.size ad ∧
      ∀ target, Steps p.tables e below (T'.setTop { g with pc := g.pc + 3, stack := .ref h.size :: rest }) target → Steps p.tables e below (T.setTop g) target := by
  obtain ⟨cl, A, rfl⟩ := A
  have FC : FitC Z cl := fitC_of A fun i hi v hv => hf v (by
    rw [← Array.getElem?_toList] at hv
    exact List.mem_of_getElem? hv)
  obtain ⟨T', h', X', e', ex, A', E', st⟩ := cloneA X hx hZ hown w1 w2 w3 w4 w5 w6 eT A E FC hg hsize hst hd hfr hW hl (by simpa using hcap) hc hsl
  exact ⟨T', h', X', e', ex, ⟨_, A', rfl⟩, E', st⟩
def own_Ov (C : String) (Z : State) (h : Heap) (a : Addr) : Prop := ∃ c : Cell, h[a]? = some c ∧ Ovr Z c.cls C
theorem own_Ov.lt {C : String} (F : own_Ov C Z h a) : a < h.size := by obtain ⟨c, q, -⟩ := F; exact (Array.getElem?_eq_some_iff.mp q).1
theorem own_Ov.ext {C : String} (F : own_Ov C Z h a) (E : Ext h h') : own_Ov C Z h' a := by obtain ⟨c, q, r⟩ := F; exact ⟨c, E.2 _ _ q, r⟩
theorem own_Ov.other {C : String} {sl : Nat} {v : Value} (F : own_Ov C Z h a) (W : Wr h h' b sl v) (ne : a ≠ b) : own_Ov C Z h' a := by
  obtain ⟨c, q, r⟩ := F
  obtain ⟨c', q', -, -, -, e, -⟩ := wr_at W q
  exact ⟨c', q', by rw [e ne]; exact r⟩
theorem own_Ov.keep {C : String} {ws : List Addr} (F : own_Ov C Z h a) (K : Keep h h' ws) (ne : a ∉ ws) : own_Ov C Z h' a := by obtain ⟨c, q, r⟩ := F; exact ⟨c, K.2.1 _ _ q ne, r⟩
theorem own_newR {a0 : Array Value} (X : Stand p l e R s m args below meth c T locs cells slots) (hx : p.tables.exec = Jvm.exec) (hZ : Z.Warmed39 s.vm) {own C : String} {index : Nat} (hown : s.vm.findClass own = some m.cls) (w1 : (Cond.classLink own index C).before a0 Z = true) (w2 : (Cond.arrayOver (.object C)).before a0 Z = true) (eT : T.heap = h) {g : JFrame} (hg : g.method = m) (hd : decode c.code g.pc = .ok (.anewarray index, 3)) {n : Int32} {rest : List Value} (hs : g.stack = .int n :: rest)
    {k cap : Nat} (hk : n.toInt = (k : Int)) (hcap : k ≤ cap) (hb : cap * 8 ≤ 536870912) (hc : cells + 1 ≤ R.cells) (hl : slots + cap ≤ R.slots) {ad : String} (had : "[" ++ (FieldType.object C).toString = ad) :
    ∃ T' h', Stand p l e R s m args below meth c T' locs (cells + 1) (slots + cap) ∧ T'.heap = h' ∧ Ext h h' ∧ own_A Z h' h.size (.object C) (List.replicate k .null) ∧ Exa Z h' h.size ad ∧ own_Ov C Z h' h.size ∧
      ∀ target, Steps p.tables e below (T'.setTop { g with pc := g.pc + 3, stack := .ref h.size :: rest }) target → Steps p.tables e below (T.setTop g) target := by
  obtain ⟨n0, n1⟩ := own_ix hk
  obtain ⟨T', h', cA, X', e', E', A', x', O', st⟩ := newRE X hx hZ hown w1 w2 eT hg hd hs n0 (cap := cap) (by rw [n1]; exact hcap) hb hc hl had
  exact ⟨T', h', X', e', E', ⟨_, A', by simp [newA, n1, defaultValue]⟩, x', ⟨_, A'.1, O'⟩, st⟩
theorem own_stR {C : String} (X : Stand p l e R s m args below meth c T locs cells slots) (hx : p.tables.exec = Jvm.exec) (hZ : Z.Warmed39 s.vm) (eT : T.heap = h) (A : own_A Z h a (.object C) vs) (O : own_Ov C Z h a) {y : Addr} (I : Ins Z h y C true) {j : Int32} {i : Nat} (hj : j.toInt = (i : Int)) (hi : i < vs.length) {g : JFrame} (hg : g.method = m) {rest : List Value} (hs : g.stack = .ref y :: .int j :: .ref a :: rest) (hd : decode c.code g.pc = .ok (.aastore, 1)) :
    ∃ T' h', Stand p l e R s m args below meth c T' (locs ++ [⟨a, i⟩]) cells slots ∧ T'.heap = h' ∧ Wr h h' a i (.ref y) ∧ own_A Z h' a (.object C) (vs.set i (.ref y)) ∧ ∀ target, Steps p.tables e below (T'.setTop { g with pc := g.pc + 1, stack := rest }) target → Steps p.tables e below (T.setTop g) target := by
  obtain ⟨cl, A, rfl⟩ := A
  obtain ⟨c2, q, r⟩ := O
  cases A.1.symm.trans q
  have hin := (own_in (cl := cl) (v := cl.slots.toList[i]) hj (List.getElem?_eq_getElem hi)).1
  obtain ⟨T', h', X', e', W', st⟩ := stR X hx hZ eT A (j := j) (v := .ref y) hin rfl (Sto.of A r I) hg hs hd
  rw [(own_ix hj).2] at X' W'
  exact ⟨T', h', X', e', W', own_A.set ⟨cl, A, rfl⟩ W', st⟩
theorem own_len (X : Stand p l e R s m args below meth c T locs cells slots) (hx : p.tables.exec = Jvm.exec) (hZ : Z.Warmed39 s.vm) (eT : T.heap = h) (A : own_A Z h a ty vs) {n : Int32} (hn : n.toInt = (vs.length : Int)) {g : JFrame} (hg : g.method = m) {rest : List Value} (hs : g.stack = .ref a :: rest) (hd : decode c.code g.pc = .ok (.arraylength, 1)) {t : State}
    (k : Steps p.tables e below (T.setTop { g with pc := g.pc + 1, stack := .int n :: rest }) t) : Steps p.tables e below (T.setTop g) t := by
  obtain ⟨cl, A, rfl⟩ := A
  have h1 := n.toInt_lt
  have h2 : cl.slots.size.toInt32 = n := by
    refine Int32.toInt_inj.mp ?_
    rw [hn]
    have h3 : cl.slots.toList.length = cl.slots.size := by simp
    rw [h3] at hn ⊢
    exact len_toInt (by omega)
  refine X.arraylength hx (by rw [eT]; exact A.1) (State.isArrayOf_alike hZ.alike A.2.1) hg hs hd _ ?_
  rw [h2]; exact k
theorem own_lrem (X : Stand p l e R s m args below meth c T locs cells slots) (hx : p.tables.exec = Jvm.exec) {g : JFrame} (hg : g.method = m) {x y : Int64} {rest : List Value} (hd : decode c.code g.pc = .ok (.lrem, 1)) (hs : g.stack = .long y :: .long x :: rest) (hy : y ≠ 0) {t : State}
    (k : Steps p.tables e below (T.setTop { g with pc := g.pc + 1, stack := .long (x % y) :: rest }) t) : Steps p.tables e below (T.setTop g) t := XS.lrem X.here hx hg hd hs hy (by rw [lrem_mod]; exact k)
end OwnA
theorem own_Sta.keep {Z : State} {h h' : Heap} {ws : List Addr} {C n d : String} {v : Value} (F : Sta Z h C n d v) (K : Keep h h' ws) (q : ∀ st ∈ ws, ∀ cell : Cell, h[st]? = some cell → cell.vm.isStatics = false) : Sta Z h' C n d v := by
  obtain ⟨cf, i, k, f, st, cell, h1, h2, h3, h4, h5, h6, h7⟩ := F
  refine ⟨cf, i, k, f, st, cell, h1, h2, h3, h4, K.2.1 st cell h5 fun hm => ?_, h6, h7⟩
  rw [q st hm cell h5] at h6
  cases h6
theorem own_z_eq_t {c : Prop} [Decidable c] (h : ¬ c) : ifCond.holds .eq (if c then (1 : Int32) else 0) = true := by rw [if_neg h]; rfl
theorem own_z_eq_f {c : Prop} [Decidable c] (h : c) : ifCond.holds .eq (if c then (1 : Int32) else 0) = false := by rw [if_pos h]; rfl
theorem own_z_ne_t {c : Prop} [Decidable c] (h : c) : ifCond.holds .ne (if c then (1 : Int32) else 0) = true := by rw [if_pos h]; rfl
theorem own_z_ne_f {c : Prop} [Decidable c] (h : ¬ c) : ifCond.holds .ne (if c then (1 : Int32) else 0) = false := by rw [if_neg h]; rfl
theorem own_z_nar {c : Prop} [Decidable c] : nar .boolean (if c then (1 : Int32) else 0) = if c then (1 : Int32) else 0 := by split <;> rfl
/-- two slots that hold nothing or a long, whose value nobody reads again -/
def own_Two (a b : Slot) : Prop := (a = .unset ∧ b = .unset) ∨ ∃ z, a = .val (.long z) ∧ b = .second
theorem own_plainE {Z : State} {h : Heap} {a : Addr} {C : String} (F : Exa Z h a C) : ∀ cell : Cell, h[a]? = some cell → cell.vm.isStatics = false := fun cell hc => by
  obtain ⟨c, k, h1, -, -, h4, -⟩ := F
  cases h1.symm.trans hc
  exact h4
theorem own_plainA {Z : State} {h : Heap} {a : Addr} {ty : FieldType} {vs : List Value} (F : own_A Z h a ty vs) : ∀ cell : Cell, h[a]? = some cell → cell.vm.isStatics = false := fun cell hc => by
  obtain ⟨c, A, -⟩ := F
  cases A.1.symm.trans hc
  exact A.plain
theorem own_pop2 {tb : Tables} [Ours tb] {e : Env} {below : List Frame} {T target : State} {m : MethodId} {c : Code} {g : JFrame} (h : At T m c below) (hx : tb.exec = Jvm.exec) (hg : g.method = m) {x : Int64} {rest : List Value} (hd : decode c.code g.pc = .ok (.pop2, 1)) (hs : g.stack = .long x :: rest)
    (hr : Steps tb e below (T.setTop { g with pc := g.pc + 1, stack := rest }) target) : Steps tb e below (T.setTop g) target := by
  subst hg
  jvm_step h [h.top, hx, hd, hs, Value.category]
  exact hr
theorem own_min1 {i : Int32} {n : Nat} (h0 : 0 ≤ i.toInt) (h1 : i.toInt < (n : Int)) (hn : n < 1000) : (i + 1).toInt.toNat = i.toInt.toNat + 1 ∧ (i + 1).toInt = i.toInt + 1 := by
  have h2 := c_iadd i 1
  have h3 := rng32 (i + 1)
  have h4 : (1 : Int32).toInt = 1 := rfl
  omega
theorem own_ltN {i : Int32} {n : Nat} (hn : n < 1000) : i < n.toInt32 ↔ i.toInt < (n : Int) := by
  rw [Int32.lt_iff_toInt_lt, len_toInt (by omega)]
theorem own_getI {bs : List Int32} {i : Nat} (h : i < bs.length) : (bs.map Value.int)[i]? = some (.int (bs.getD i 0)) := by
  simp [List.getElem?_map, h]
theorem own_nat {i : Int32} (h : 0 ≤ i.toInt) : i.toInt = ((i.toInt.toNat : Nat) : Int) := by omega
/-! the same for a walk that may load String constants: it may leave the table of interned texts longer -/
def own_GoW (p : Program) (e : Env) (below : List Frame) (s : State) (Q : Option Value → Heap → List Loc → Prop) (V : Vm → Heap → Prop) (C S : Nat) (A : State) : Prop :=
  ∃ s₂ o, Steps p.tables e below A s₂ ∧ s₂.status = .running ∧ Ended s₂ below o ∧ ∃ v L, o = .returned v ∧ Q v s₂.heap L ∧ V s₂.vm s₂.heap ∧ ReturnedEndW s o s₂ L C S
section OwnW
variable {p : Program} {l : Launch} {e : Env} {R : Room} {s : State} {vm₁ : Vm} {m : MethodId} {args : Array Value} {below : List Frame} {meth : Method} {c : Code} {T : State} {locs : List Loc} {cells slots : Nat} {Q : Option Value → Heap → List Loc → Prop} {V : Vm → Heap → Prop} {C S : Nat}
theorem own_stW {A B : State} (h : ∀ t, Steps p.tables e below B t → Steps p.tables e below A t) (g : own_GoW p e below s Q V C S B) : own_GoW p e below s Q V C S A := by
  obtain ⟨s₂, o, h1, r⟩ := g
  exact ⟨s₂, o, h _ h1, r⟩
theorem own_ssW {A B : State} (h : Steps p.tables e below A B) (g : own_GoW p e below s Q V C S B) : own_GoW p e below s Q V C S A := own_stW (fun _ k => h.trans k) g
theorem own_leaveW (X : Stand p l e R (s.setVm vm₁) m args below meth c T locs cells slots) {n : Nat} (hS : s.Since vm₁ n) (hn : n ≤ T.heap.size) {v : Option Value} (hv : meth.sig.returnType = none → v = none) (hlk : meth.locks = false) (hQ : Q v T.heap locs) (hV : V T.vm T.heap) (hc : cells ≤ C) (hs : slots ≤ S) {A : State}
    (hr : ∀ fs, (∀ (f : JFrame) (acts : List Action), f.method = m → f.locked = none → f.entered = [] → (doReturn e (T.setTop f) acts v).1 = T.setFrames fs) → Steps p.tables e below A (T.setFrames fs)) : own_GoW p e below s Q V C S A := by
  obtain ⟨fs, hr', hrun, hended, h1, h2, h3, h4⟩ := X.leaveW hS hn (v := v) hv hlk
  exact ⟨_, _, hr fs hr', hrun, hended, _, _, rfl, hQ, hV, h1, h2, h3, h4.mono hc hs⟩
theorem own_retVW (X : Stand p l e R (s.setVm vm₁) m args below meth c T locs cells slots) {n : Nat} (hS : s.Since vm₁ n) (hn : n ≤ T.heap.size) (hx : p.tables.exec = Jvm.exec) (hlk : meth.locks = false) (hret : meth.sig.returnType = none) {pc : Nat} {Ls : Array Slot} (hd : decode c.code pc = .ok (.return_, 1)) (hc : cells ≤ C) (hs : slots ≤ S) (hV : V T.vm T.heap) (hQ : Q none T.heap locs) :
    own_GoW p e below s Q V C S (T.setTop (mkF m pc Ls [])) := own_leaveW X hS hn (fun _ => rfl) hlk hQ hV hc hs fun _ hr => X.returnOut hx hret hd hr
theorem own_retRW (X : Stand p l e R (s.setVm vm₁) m args below meth c T locs cells slots) {n : Nat} (hS : s.Since vm₁ n) (hn : n ≤ T.heap.size) (hx : p.tables.exec = Jvm.exec) (hlk : meth.locks = false) {t : FieldType} (hret : meth.sig.returnType = some t) (ht : t.isReference = true) {pc : Nat} {Ls : Array Slot} {w : Value} {rest : List Value} (hnr : narrow t w = w) (hw : w.isRef = true) (hd : decode c.code pc = .ok (.areturn, 1)) (hc : cells ≤ C) (hs : slots ≤ S) (hV : V T.vm T.heap) (hQ : Q (some w) T.heap locs) :
    own_GoW p e below s Q V C S (T.setTop (mkF m pc Ls (w :: rest))) := own_leaveW X hS hn (fun h => by rw [hret] at h; cases h) hlk hQ hV hc hs fun _ hr => retOut X hx hret hnr (Or.inr (Or.inr (Or.inr (Or.inr ⟨rfl, ht, hw⟩)))) hd hr
theorem own_retNW (X : Stand p l e R (s.setVm vm₁) m args below meth c T locs cells slots) {n : Nat} (hS : s.Since vm₁ n) (hn : n ≤ T.heap.size) (hx : p.tables.exec = Jvm.exec) (hlk : meth.locks = false) {t : FieldType} (hret : meth.sig.returnType = some t) (ht : t = .boolean ∨ t = .byte ∨ t = .char ∨ t = .short) {pc : Nat} {Ls : Array Slot} {z z' : Int32} {rest : List Value} (hz : nar t z = z') (hd : decode c.code pc = .ok (.ireturn, 1)) (hc : cells ≤ C) (hs : slots ≤ S) (hV : V T.vm T.heap) (hQ : Q (some (.int z')) T.heap locs) :
    own_GoW p e below s Q V C S (T.setTop (mkF m pc Ls (.int z :: rest))) := by
  subst hz
  exact own_leaveW X hS hn (fun h => by rw [hret] at h; cases h) hlk hQ hV hc hs fun _ hr => retN X hx hret ht hd hr
variable {Z : State} {a0 : Array Value} {h : Heap} {vm0 : Vm} {EL : List (String × Nat)}
theorem own_sfA {x : Addr} {ty : FieldType} {vs : List Value} (hal : Z.vm.Alike vm0) (A : own_A Z h x ty vs) (ht : ty ≠ .byte) : Safe Z EL vm0 h x := by
  obtain ⟨c, A, -⟩ := A
  exact Safe.arr hal A ht
theorem own_ofArv {x : Addr} {k : ClassId} {ty : FieldType} {d : Value} (A : Arv Z h x k ty 0 [] d) : own_A Z h x ty [] := by
  obtain ⟨c, A, -, h1, -⟩ := A
  refine ⟨c, A, List.eq_nil_of_length_eq_zero ?_⟩
  rw [Array.length_toList, h1]; rfl
theorem own_neA {x b : Addr} {C : String} {n : Nat} {ty : FieldType} {vs : List Value} (E : Exa Z h x C) (F : own_A Z h b ty vs) (w : (Cond.instantiable C n).before a0 Z = true) : x ≠ b := fun q => by
  subst q
  obtain ⟨c, k, e1, e2, e3, -⟩ := E
  obtain ⟨c2, ⟨a1, ⟨-, k2, a2, comp, a3⟩, -⟩, -⟩ := F
  cases e1.symm.trans a1
  cases e3.symm.trans a2
  obtain ⟨t, kt, g1, g2, g3, -⟩ := Cond.instantiable_spec w
  cases e2.symm.trans g1
  cases e3.symm.trans g2
  rw [a3] at g3; cases g3
/-- a callee that may load constants, some of its objects being told apart from theirs -/
theorem own_backSH {y : MethodName} {bytes : ByteArray} {maxL : Nat} {ret : Option FieldType} {rm : Room} {len W : Nat} {as' : Array Value} {SF : List Addr} {Qc : Option Value → Heap → List Loc → Prop}
    (hM : MetFree l y (head1 [Cond.code y bytes maxL ret] rm) (fun a U => a = as' ∧ Z.Warmed39 U.vm ∧ U.heap = h ∧ CHv Z EL U.vm h ∧ ∀ x ∈ SF, Safe Z EL U.vm h x) (fun _ _ _ _ _ => True) (fun _ U o U' => ∃ v L, o = .returned v ∧ Qc v U'.heap L ∧ CHr Z EL U.vm h U'.vm U'.heap ∧ ReturnedEndW U o U' L rm.cells rm.slots))
    (hZ : Z.Warmed39 vm0) (wc : (Cond.code y bytes maxL ret).before a0 Z = true) (wz : (Cond.initialized y.cls).before a0 Z = true) (hf : rm.frames + 1 ≤ R.frames) (hl : W + (maxL + 11) + rm.locals ≤ R.locals) (hEL : EW Z a0 EL) (H : CHv Z EL vm0 h) (hSF : ∀ x ∈ SF, x < h.size ∧ Safe Z EL vm0 h x) :
    BackS l R p e below (s.setVm vm0) args y len W (fun A a => a = as' ∧ A.U.heap = h ∧ A.cells + rm.cells ≤ R.cells ∧ A.slots + rm.slots ≤ R.slots)
      (fun A _ v B => ∃ L, Qc v B.U.heap L ∧ B.locs = A.locs ++ L ∧ B.cells = A.cells + rm.cells ∧ B.slots = A.slots + rm.slots ∧ CHr Z EL vm0 h B.U.vm B.U.heap) :=
  BackS.of_freeW (bytes := bytes) (maxL := maxL) (ret := ret) (E := fun _ first o t L k n => k = rm.cells ∧ n = rm.slots ∧ (∃ v, o = .returned v ∧ Qc v t.heap L) ∧ CHr Z EL first.vm h t.vm t.heap) hM hf hl
    (fun m meth c A a Y hp => have hU : Z.Warmed39 A.U.vm := wtrans (s := s.setVm vm0) hZ Y.warmed
      ⟨by show (Cond.and _ .tt).before a A.U = true; rw [Cond.before_and, mv hU wc]; rfl, mv hU wc, mv hU wz, hp.2.2.1, hp.2.2.2⟩)
    (fun m meth c A a g mk Y hp => ⟨hp.1, wtrans (s := s.setVm vm0) hZ Y.warmed, hp.2.1, (CHv.at Y hZ hEL H).1, fun x hx => (CHv.at Y hZ hEL H).safe (hSF x hx).1 (hSF x hx).2⟩) (fun _ _ _ _ _ _ _ _ _ => trivial)
    (fun _ _ _ _ ⟨v, L, h1, h2, h3, h4⟩ => ⟨L, _, _, h4, rfl, rfl, ⟨v, h1, h2⟩, h3⟩)
    (fun m meth c A a g mk v t L k n Y hp _ _ ⟨e1, e2, ⟨v', e3, e4⟩, e5⟩ => by
      cases e3; subst e1 e2
      exact ⟨L, e4, rfl, rfl, rfl, (CHv.at Y hZ hEL H).trans e5⟩)
end OwnW
theorem w_0 {a0 : Array Value} {Z : State} (hw : ∀ d ∈ tables_1, d.before a0 Z = true) : (Jvm.Cond.classLink "com/example/marshal_lock/marshallock/internal/HoldEqualsPinLaw" (18 : Nat) "com/example/marshal_lock/marshallock/internal/Hold").before a0 Z = true := hw _ (List.mem_of_getElem? (i := 0) rfl)
theorem w_1 {a0 : Array Value} {Z : State} (hw : ∀ d ∈ tables_1, d.before a0 Z = true) : (Jvm.Cond.instantiable "com/example/marshal_lock/marshallock/internal/Hold" (2 : Nat)).before a0 Z = true := hw _ (List.mem_of_getElem? (i := 1) rfl)
theorem w_2 {a0 : Array Value} {Z : State} (hw : ∀ d ∈ tables_1, d.before a0 Z = true) : (Jvm.Cond.initialized "com/example/marshal_lock/marshallock/internal/Hold").before a0 Z = true := hw _ (List.mem_of_getElem? (i := 2) rfl)
theorem w_3 {a0 : Array Value} {Z : State} (hw : ∀ d ∈ tables_1, d.before a0 Z = true) : (Jvm.Cond.methodLink "com/example/marshal_lock/marshallock/internal/HoldEqualsPinLaw" (20 : Nat) ({ cls := "com/example/marshal_lock/marshallock/internal/HoldEqualsPinLaw", name := "str", desc := "(I)Ljava/lang/String;" } : Jvm.MethodName)).before a0 Z = true := hw _ (List.mem_of_getElem? (i := 3) rfl)
theorem w_4 {a0 : Array Value} {Z : State} (hw : ∀ d ∈ tables_1, d.before a0 Z = true) : (Jvm.Cond.static ({ cls := "com/example/marshal_lock/marshallock/internal/HoldEqualsPinLaw", name := "str", desc := "(I)Ljava/lang/String;" } : Jvm.MethodName)).before a0 Z = true := hw _ (List.mem_of_getElem? (i := 4) rfl)
theorem w_5 {a0 : Array Value} {Z : State} (hw : ∀ d ∈ tables_1, d.before a0 Z = true) : (Jvm.Cond.initialized "com/example/marshal_lock/marshallock/internal/HoldEqualsPinLaw").before a0 Z = true := hw _ (List.mem_of_getElem? (i := 5) rfl)
theorem w_6 {a0 : Array Value} {Z : State} (hw : ∀ d ∈ tables_1, d.before a0 Z = true) : (Jvm.Cond.code ({ cls := "com/example/marshal_lock/marshallock/internal/HoldEqualsPinLaw", name := "str", desc := "(I)Ljava/lang/String;" } : Jvm.MethodName) method_3_code (3 : Nat) (Option.some (Jvm.ClassFile.FieldType.object "java/lang/String"))).before a0 Z = true := hw _ (List.mem_of_getElem? (i := 6) rfl)
theorem w_7 {a0 : Array Value} {Z : State} (hw : ∀ d ∈ tables_1, d.before a0 Z = true) : (Jvm.Cond.methodLink "com/example/marshal_lock/marshallock/internal/HoldEqualsPinLaw" (7 : Nat) ({ cls := "com/example/marshal_lock/marshallock/internal/HoldEqualsPinLaw", name := "len", desc := "(I)I" } : Jvm.MethodName)).before a0 Z = true := hw _ (List.mem_of_getElem? (i := 7) rfl)
theorem w_8 {a0 : Array Value} {Z : State} (hw : ∀ d ∈ tables_1, d.before a0 Z = true) : (Jvm.Cond.static ({ cls := "com/example/marshal_lock/marshallock/internal/HoldEqualsPinLaw", name := "len", desc := "(I)I" } : Jvm.MethodName)).before a0 Z = true := hw _ (List.mem_of_getElem? (i := 8) rfl)
theorem w_9 {a0 : Array Value} {Z : State} (hw : ∀ d ∈ tables_1, d.before a0 Z = true) : (Jvm.Cond.code ({ cls := "com/example/marshal_lock/marshallock/internal/HoldEqualsPinLaw", name := "len", desc := "(I)I" } : Jvm.MethodName) method_2_code (1 : Nat) (Option.some Jvm.ClassFile.FieldType.int)).before a0 Z = true := hw _ (List.mem_of_getElem? (i := 9) rfl)
theorem w_10 {a0 : Array Value} {Z : State} (hw : ∀ d ∈ tables_1, d.before a0 Z = true) : (Jvm.Cond.classLink "com/example/marshal_lock/marshallock/internal/HoldEqualsPinLaw" (13 : Nat) "java/lang/String").before a0 Z = true := hw _ (List.mem_of_getElem? (i := 10) rfl)
theorem w_11 {a0 : Array Value} {Z : State} (hw : ∀ d ∈ tables_1, d.before a0 Z = true) : (Jvm.Cond.instantiable "java/lang/String" (4 : Nat)).before a0 Z = true := hw _ (List.mem_of_getElem? (i := 11) rfl)
theorem w_12 {a0 : Array Value} {Z : State} (hw : ∀ d ∈ tables_1, d.before a0 Z = true) : (Jvm.Cond.initialized "java/lang/String").before a0 Z = true := hw _ (List.mem_of_getElem? (i := 12) rfl)
theorem w_13 {a0 : Array Value} {Z : State} (hw : ∀ d ∈ tables_1, d.before a0 Z = true) : (Jvm.Cond.arrayClass Jvm.ClassFile.FieldType.char).before a0 Z = true := hw _ (List.mem_of_getElem? (i := 13) rfl)
theorem w_14 {a0 : Array Value} {Z : State} (hw : ∀ d ∈ tables_1, d.before a0 Z = true) : (Jvm.Cond.methodLink "com/example/marshal_lock/marshallock/internal/HoldEqualsPinLaw" (15 : Nat) ({ cls := "java/lang/String", name := "<init>", desc := "([C)V" } : Jvm.MethodName)).before a0 Z = true := hw _ (List.mem_of_getElem? (i := 14) rfl)
theorem w_15 {a0 : Array Value} {Z : State} (hw : ∀ d ∈ tables_1, d.before a0 Z = true) : (Jvm.Cond.instanceMethod ({ cls := "java/lang/String", name := "<init>", desc := "([C)V" } : Jvm.MethodName)).before a0 Z = true := hw _ (List.mem_of_getElem? (i := 15) rfl)
theorem w_16 {a0 : Array Value} {Z : State} (hw : ∀ d ∈ tables_1, d.before a0 Z = true) : (Jvm.Cond.code ({ cls := "java/lang/String", name := "<init>", desc := "([C)V" } : Jvm.MethodName) jdk_42_method_3_code (2 : Nat) (Option.none : Option Jvm.ClassFile.FieldType)).before a0 Z = true := hw _ (List.mem_of_getElem? (i := 16) rfl)
theorem w_17 {a0 : Array Value} {Z : State} (hw : ∀ d ∈ tables_1, d.before a0 Z = true) : (Jvm.Cond.methodLink "java/lang/String" (27 : Nat) ({ cls := "java/lang/String", name := "<init>", desc := "([CIILjava/lang/Void;)V" } : Jvm.MethodName)).before a0 Z = true := hw _ (List.mem_of_getElem? (i := 17) rfl)
theorem w_18 {a0 : Array Value} {Z : State} (hw : ∀ d ∈ tables_1, d.before a0 Z = true) : (Jvm.Cond.instanceMethod ({ cls := "java/lang/String", name := "<init>", desc := "([CIILjava/lang/Void;)V" } : Jvm.MethodName)).before a0 Z = true := hw _ (List.mem_of_getElem? (i := 18) rfl)
theorem w_20 {a0 : Array Value} {Z : State} (hw : ∀ d ∈ tables_1, d.before a0 Z = true) : (Jvm.Cond.code ({ cls := "java/lang/String", name := "<init>", desc := "([CIILjava/lang/Void;)V" } : Jvm.MethodName) jdk_42_method_149_code (6 : Nat) (Option.none : Option Jvm.ClassFile.FieldType)).before a0 Z = true := hw _ (List.mem_of_getElem? (i := 20) rfl)
theorem w_21 {a0 : Array Value} {Z : State} (hw : ∀ d ∈ tables_1, d.before a0 Z = true) : (Jvm.Cond.methodLink "java/lang/String" (1 : Nat) ({ cls := "java/lang/Object", name := "<init>", desc := "()V" } : Jvm.MethodName)).before a0 Z = true := hw _ (List.mem_of_getElem? (i := 21) rfl)
theorem w_22 {a0 : Array Value} {Z : State} (hw : ∀ d ∈ tables_1, d.before a0 Z = true) : (Jvm.Cond.instanceMethod ({ cls := "java/lang/Object", name := "<init>", desc := "()V" } : Jvm.MethodName)).before a0 Z = true := hw _ (List.mem_of_getElem? (i := 22) rfl)
theorem w_23 {a0 : Array Value} {Z : State} (hw : ∀ d ∈ tables_1, d.before a0 Z = true) : (Jvm.Cond.code ({ cls := "java/lang/Object", name := "<init>", desc := "()V" } : Jvm.MethodName) object_method_1_code (1 : Nat) (Option.none : Option Jvm.ClassFile.FieldType)).before a0 Z = true := hw _ (List.mem_of_getElem? (i := 23) rfl)
theorem w_24 {a0 : Array Value} {Z : State} (hw : ∀ d ∈ tables_1, d.before a0 Z = true) : (Jvm.Cond.stringLink "java/lang/String" (7 : Nat) "").before a0 Z = true := hw _ (List.mem_of_getElem? (i := 24) rfl)
theorem w_25 {a0 : Array Value} {Z : State} (hw : ∀ d ∈ tables_1, d.before a0 Z = true) : (Jvm.Cond.arrayClass Jvm.ClassFile.FieldType.byte).before a0 Z = true := hw _ (List.mem_of_getElem? (i := 25) rfl)
theorem w_26 {a0 : Array Value} {Z : State} (hw : ∀ d ∈ tables_1, d.before a0 Z = true) : (Jvm.Cond.laysFinal "java/lang/String" "java/lang/String" "value" "[B").before a0 Z = true := hw _ (List.mem_of_getElem? (i := 26) rfl)
theorem w_27 {a0 : Array Value} {Z : State} (hw : ∀ d ∈ tables_1, d.before a0 Z = true) : (Jvm.Cond.laysFinal "java/lang/String" "java/lang/String" "coder" "B").before a0 Z = true := hw _ (List.mem_of_getElem? (i := 27) rfl)
theorem w_28 {a0 : Array Value} {Z : State} (hw : ∀ d ∈ tables_1, d.before a0 Z = true) : (Jvm.Cond.soleField "java/lang/String" "value").before a0 Z = true := hw _ (List.mem_of_getElem? (i := 28) rfl)
theorem w_29 {a0 : Array Value} {Z : State} (hw : ∀ d ∈ tables_1, d.before a0 Z = true) : (Jvm.Cond.soleField "java/lang/String" "coder").before a0 Z = true := hw _ (List.mem_of_getElem? (i := 29) rfl)
theorem w_30 {a0 : Array Value} {Z : State} (hw : ∀ d ∈ tables_1, d.before a0 Z = true) : (Jvm.Cond.fieldLink "java/lang/String" (9 : Nat) "java/lang/String" "value" "[B").before a0 Z = true := hw _ (List.mem_of_getElem? (i := 30) rfl)
theorem w_31 {a0 : Array Value} {Z : State} (hw : ∀ d ∈ tables_1, d.before a0 Z = true) : (Jvm.Cond.fieldLink "java/lang/String" (15 : Nat) "java/lang/String" "coder" "B").before a0 Z = true := hw _ (List.mem_of_getElem? (i := 31) rfl)
theorem w_32 {a0 : Array Value} {Z : State} (hw : ∀ d ∈ tables_1, d.before a0 Z = true) : (Jvm.Cond.methodLink "com/example/marshal_lock/marshallock/internal/HoldEqualsPinLaw" (24 : Nat) ({ cls := "com/example/marshal_lock/marshallock/internal/Hold", name := "<init>", desc := "(Ljava/lang/String;Ljava/lang/String;)V" } : Jvm.MethodName)).before a0 Z = true := hw _ (List.mem_of_getElem? (i := 32) rfl)
theorem w_33 {a0 : Array Value} {Z : State} (hw : ∀ d ∈ tables_1, d.before a0 Z = true) : (Jvm.Cond.instanceMethod ({ cls := "com/example/marshal_lock/marshallock/internal/Hold", name := "<init>", desc := "(Ljava/lang/String;Ljava/lang/String;)V" } : Jvm.MethodName)).before a0 Z = true := hw _ (List.mem_of_getElem? (i := 33) rfl)
theorem w_34 {a0 : Array Value} {Z : State} (hw : ∀ d ∈ tables_1, d.before a0 Z = true) : (Jvm.Cond.code ({ cls := "com/example/marshal_lock/marshallock/internal/Hold", name := "<init>", desc := "(Ljava/lang/String;Ljava/lang/String;)V" } : Jvm.MethodName) prog_6_method_1_code (3 : Nat) (Option.none : Option Jvm.ClassFile.FieldType)).before a0 Z = true := hw _ (List.mem_of_getElem? (i := 34) rfl)
theorem w_35 {a0 : Array Value} {Z : State} (hw : ∀ d ∈ tables_1, d.before a0 Z = true) : (Jvm.Cond.methodLink "com/example/marshal_lock/marshallock/internal/Hold" (1 : Nat) ({ cls := "java/lang/Object", name := "<init>", desc := "()V" } : Jvm.MethodName)).before a0 Z = true := hw _ (List.mem_of_getElem? (i := 35) rfl)
theorem w_36 {a0 : Array Value} {Z : State} (hw : ∀ d ∈ tables_1, d.before a0 Z = true) : (Jvm.Cond.fieldLink "com/example/marshal_lock/marshallock/internal/Hold" (7 : Nat) "com/example/marshal_lock/marshallock/internal/Hold" "lockKey" "Ljava/lang/String;").before a0 Z = true := hw _ (List.mem_of_getElem? (i := 36) rfl)
theorem w_37 {a0 : Array Value} {Z : State} (hw : ∀ d ∈ tables_1, d.before a0 Z = true) : (Jvm.Cond.laysFinal "com/example/marshal_lock/marshallock/internal/Hold" "com/example/marshal_lock/marshallock/internal/Hold" "lockKey" "Ljava/lang/String;").before a0 Z = true := hw _ (List.mem_of_getElem? (i := 37) rfl)
theorem w_38 {a0 : Array Value} {Z : State} (hw : ∀ d ∈ tables_1, d.before a0 Z = true) : (Jvm.Cond.fieldLink "com/example/marshal_lock/marshallock/internal/Hold" (13 : Nat) "com/example/marshal_lock/marshallock/internal/Hold" "owner" "Ljava/lang/String;").before a0 Z = true := hw _ (List.mem_of_getElem? (i := 38) rfl)
theorem w_39 {a0 : Array Value} {Z : State} (hw : ∀ d ∈ tables_1, d.before a0 Z = true) : (Jvm.Cond.laysFinal "com/example/marshal_lock/marshallock/internal/Hold" "com/example/marshal_lock/marshallock/internal/Hold" "owner" "Ljava/lang/String;").before a0 Z = true := hw _ (List.mem_of_getElem? (i := 39) rfl)
theorem w_40 {a0 : Array Value} {Z : State} (hw : ∀ d ∈ tables_1, d.before a0 Z = true) : (Jvm.Cond.methodLink "com/example/marshal_lock/marshallock/internal/HoldEqualsPinLaw" (31 : Nat) ({ cls := "com/example/marshal_lock/marshallock/internal/HoldEqualsPinLaw", name := "sameStr", desc := "(II)Z" } : Jvm.MethodName)).before a0 Z = true := hw _ (List.mem_of_getElem? (i := 40) rfl)
theorem w_41 {a0 : Array Value} {Z : State} (hw : ∀ d ∈ tables_1, d.before a0 Z = true) : (Jvm.Cond.static ({ cls := "com/example/marshal_lock/marshallock/internal/HoldEqualsPinLaw", name := "sameStr", desc := "(II)Z" } : Jvm.MethodName)).before a0 Z = true := hw _ (List.mem_of_getElem? (i := 41) rfl)
theorem w_42 {a0 : Array Value} {Z : State} (hw : ∀ d ∈ tables_1, d.before a0 Z = true) : (Jvm.Cond.code ({ cls := "com/example/marshal_lock/marshallock/internal/HoldEqualsPinLaw", name := "sameStr", desc := "(II)Z" } : Jvm.MethodName) method_4_code (3 : Nat) (Option.some Jvm.ClassFile.FieldType.boolean)).before a0 Z = true := hw _ (List.mem_of_getElem? (i := 42) rfl)
theorem w_43 {a0 : Array Value} {Z : State} (hw : ∀ d ∈ tables_1, d.before a0 Z = true) : (Jvm.Cond.methodLink "com/example/marshal_lock/marshallock/internal/HoldEqualsPinLaw" (27 : Nat) ({ cls := "com/example/marshal_lock/marshallock/internal/Hold", name := "equals", desc := "(Ljava/lang/Object;)Z" } : Jvm.MethodName)).before a0 Z = true := hw _ (List.mem_of_getElem? (i := 43) rfl)
theorem w_44 {a0 : Array Value} {Z : State} (hw : ∀ d ∈ tables_1, d.before a0 Z = true) : (Jvm.Cond.declares ({ cls := "com/example/marshal_lock/marshallock/internal/Hold", name := "equals", desc := "(Ljava/lang/Object;)Z" } : Jvm.MethodName)).before a0 Z = true := hw _ (List.mem_of_getElem? (i := 44) rfl)
theorem w_45 {a0 : Array Value} {Z : State} (hw : ∀ d ∈ tables_1, d.before a0 Z = true) : (Jvm.Cond.instanceMethod ({ cls := "com/example/marshal_lock/marshallock/internal/Hold", name := "equals", desc := "(Ljava/lang/Object;)Z" } : Jvm.MethodName)).before a0 Z = true := hw _ (List.mem_of_getElem? (i := 45) rfl)
theorem w_46 {a0 : Array Value} {Z : State} (hw : ∀ d ∈ tables_1, d.before a0 Z = true) : (Jvm.Cond.selects "com/example/marshal_lock/marshallock/internal/Hold" ({ cls := "com/example/marshal_lock/marshallock/internal/Hold", name := "equals", desc := "(Ljava/lang/Object;)Z" } : Jvm.MethodName) ({ cls := "com/example/marshal_lock/marshallock/internal/Hold", name := "equals", desc := "(Ljava/lang/Object;)Z" } : Jvm.MethodName)).before a0 Z = true := hw _ (List.mem_of_getElem? (i := 46) rfl)
theorem w_47 {a0 : Array Value} {Z : State} (hw : ∀ d ∈ tables_1, d.before a0 Z = true) : (Jvm.Cond.code ({ cls := "com/example/marshal_lock/marshallock/internal/Hold", name := "equals", desc := "(Ljava/lang/Object;)Z" } : Jvm.MethodName) prog_6_method_4_code (3 : Nat) (Option.some Jvm.ClassFile.FieldType.boolean)).before a0 Z = true := hw _ (List.mem_of_getElem? (i := 47) rfl)
theorem w_48 {a0 : Array Value} {Z : State} (hw : ∀ d ∈ tables_1, d.before a0 Z = true) : (Jvm.Cond.classLink "com/example/marshal_lock/marshallock/internal/Hold" (8 : Nat) "com/example/marshal_lock/marshallock/internal/Hold").before a0 Z = true := hw _ (List.mem_of_getElem? (i := 48) rfl)
theorem w_50 {a0 : Array Value} {Z : State} (hw : ∀ d ∈ tables_1, d.before a0 Z = true) : (Jvm.Cond.methodLink "com/example/marshal_lock/marshallock/internal/Hold" (16 : Nat) ({ cls := "java/lang/String", name := "equals", desc := "(Ljava/lang/Object;)Z" } : Jvm.MethodName)).before a0 Z = true := hw _ (List.mem_of_getElem? (i := 50) rfl)
theorem w_51 {a0 : Array Value} {Z : State} (hw : ∀ d ∈ tables_1, d.before a0 Z = true) : (Jvm.Cond.declares ({ cls := "java/lang/String", name := "equals", desc := "(Ljava/lang/Object;)Z" } : Jvm.MethodName)).before a0 Z = true := hw _ (List.mem_of_getElem? (i := 51) rfl)
theorem w_52 {a0 : Array Value} {Z : State} (hw : ∀ d ∈ tables_1, d.before a0 Z = true) : (Jvm.Cond.instanceMethod ({ cls := "java/lang/String", name := "equals", desc := "(Ljava/lang/Object;)Z" } : Jvm.MethodName)).before a0 Z = true := hw _ (List.mem_of_getElem? (i := 52) rfl)
theorem w_53 {a0 : Array Value} {Z : State} (hw : ∀ d ∈ tables_1, d.before a0 Z = true) : (Jvm.Cond.selects "java/lang/String" ({ cls := "java/lang/String", name := "equals", desc := "(Ljava/lang/Object;)Z" } : Jvm.MethodName) ({ cls := "java/lang/String", name := "equals", desc := "(Ljava/lang/Object;)Z" } : Jvm.MethodName)).before a0 Z = true := hw _ (List.mem_of_getElem? (i := 53) rfl)
theorem w_54 {a0 : Array Value} {Z : State} (hw : ∀ d ∈ tables_1, d.before a0 Z = true) : (Jvm.Cond.code ({ cls := "java/lang/String", name := "equals", desc := "(Ljava/lang/Object;)Z" } : Jvm.MethodName) jdk_42_method_66_code (3 : Nat) (Option.some Jvm.ClassFile.FieldType.boolean)).before a0 Z = true := hw _ (List.mem_of_getElem? (i := 54) rfl)
theorem w_55 {a0 : Array Value} {Z : State} (hw : ∀ d ∈ tables_1, d.before a0 Z = true) : (Jvm.Cond.classLink "java/lang/String" (10 : Nat) "java/lang/String").before a0 Z = true := hw _ (List.mem_of_getElem? (i := 55) rfl)
theorem w_56 {a0 : Array Value} {Z : State} (hw : ∀ d ∈ tables_1, d.before a0 Z = true) : (Jvm.Cond.fieldLink "java/lang/String" (38 : Nat) "java/lang/String" "COMPACT_STRINGS" "Z").before a0 Z = true := hw _ (List.mem_of_getElem? (i := 56) rfl)
theorem w_57 {a0 : Array Value} {Z : State} (hw : ∀ d ∈ tables_1, d.before a0 Z = true) : (Jvm.Cond.methodLink "java/lang/String" (541 : Nat) ({ cls := "java/lang/StringLatin1", name := "equals", desc := "([B[B)Z" } : Jvm.MethodName)).before a0 Z = true := hw _ (List.mem_of_getElem? (i := 57) rfl)
theorem w_58 {a0 : Array Value} {Z : State} (hw : ∀ d ∈ tables_1, d.before a0 Z = true) : (Jvm.Cond.static ({ cls := "java/lang/StringLatin1", name := "equals", desc := "([B[B)Z" } : Jvm.MethodName)).before a0 Z = true := hw _ (List.mem_of_getElem? (i := 58) rfl)
theorem w_59 {a0 : Array Value} {Z : State} (hw : ∀ d ∈ tables_1, d.before a0 Z = true) : (Jvm.Cond.initialized "java/lang/StringLatin1").before a0 Z = true := hw _ (List.mem_of_getElem? (i := 59) rfl)
theorem w_60 {a0 : Array Value} {Z : State} (hw : ∀ d ∈ tables_1, d.before a0 Z = true) : (Jvm.Cond.code ({ cls := "java/lang/StringLatin1", name := "equals", desc := "([B[B)Z" } : Jvm.MethodName) jdk_43_method_13_code (3 : Nat) (Option.some Jvm.ClassFile.FieldType.boolean)).before a0 Z = true := hw _ (List.mem_of_getElem? (i := 60) rfl)
theorem w_61 {a0 : Array Value} {Z : State} (hw : ∀ d ∈ tables_1, d.before a0 Z = true) : (Jvm.Cond.superclass "java/lang/String" "java/lang/Object").before a0 Z = true := hw _ (List.mem_of_getElem? (i := 61) rfl)
theorem w_62 {a0 : Array Value} {Z : State} (hw : ∀ d ∈ tables_1, d.before a0 Z = true) : (Jvm.Cond.noSuperclass "java/lang/Object").before a0 Z = true := hw _ (List.mem_of_getElem? (i := 62) rfl)
theorem w_63 {a0 : Array Value} {Z : State} (hw : ∀ d ∈ tables_1, d.before a0 Z = true) : (Jvm.Cond.methodLink "java/lang/String" (177 : Nat) ({ cls := "java/lang/StringUTF16", name := "compress", desc := "([CII)[B" } : Jvm.MethodName)).before a0 Z = true := hw _ (List.mem_of_getElem? (i := 63) rfl)
theorem w_64 {a0 : Array Value} {Z : State} (hw : ∀ d ∈ tables_1, d.before a0 Z = true) : (Jvm.Cond.static ({ cls := "java/lang/StringUTF16", name := "compress", desc := "([CII)[B" } : Jvm.MethodName)).before a0 Z = true := hw _ (List.mem_of_getElem? (i := 64) rfl)
theorem w_65 {a0 : Array Value} {Z : State} (hw : ∀ d ∈ tables_1, d.before a0 Z = true) : (Jvm.Cond.initialized "java/lang/StringUTF16").before a0 Z = true := hw _ (List.mem_of_getElem? (i := 65) rfl)
theorem w_66 {a0 : Array Value} {Z : State} (hw : ∀ d ∈ tables_1, d.before a0 Z = true) : (Jvm.Cond.code ({ cls := "java/lang/StringUTF16", name := "compress", desc := "([CII)[B" } : Jvm.MethodName) jdk_52_method_16_code (6 : Nat) (Option.some (Jvm.ClassFile.FieldType.array Jvm.ClassFile.FieldType.byte))).before a0 Z = true := hw _ (List.mem_of_getElem? (i := 66) rfl)
theorem w_67 {a0 : Array Value} {Z : State} (hw : ∀ d ∈ tables_1, d.before a0 Z = true) : (Jvm.Cond.methodLink "java/lang/StringUTF16" (115 : Nat) ({ cls := "java/lang/StringUTF16", name := "compress", desc := "([CI[BII)I" } : Jvm.MethodName)).before a0 Z = true := hw _ (List.mem_of_getElem? (i := 67) rfl)
theorem w_68 {a0 : Array Value} {Z : State} (hw : ∀ d ∈ tables_1, d.before a0 Z = true) : (Jvm.Cond.static ({ cls := "java/lang/StringUTF16", name := "compress", desc := "([CI[BII)I" } : Jvm.MethodName)).before a0 Z = true := hw _ (List.mem_of_getElem? (i := 68) rfl)
theorem w_69 {a0 : Array Value} {Z : State} (hw : ∀ d ∈ tables_1, d.before a0 Z = true) : (Jvm.Cond.code ({ cls := "java/lang/StringUTF16", name := "compress", desc := "([CI[BII)I" } : Jvm.MethodName) jdk_52_method_21_code (7 : Nat) (Option.some Jvm.ClassFile.FieldType.int)).before a0 Z = true := hw _ (List.mem_of_getElem? (i := 69) rfl)
theorem w_70 {a0 : Array Value} {Z : State} (hw : ∀ d ∈ tables_1, d.before a0 Z = true) : (Jvm.Cond.methodLink "java/lang/String" (47 : Nat) ({ cls := "java/lang/StringUTF16", name := "coderFromArrayLen", desc := "([BI)B" } : Jvm.MethodName)).before a0 Z = true := hw _ (List.mem_of_getElem? (i := 70) rfl)
theorem w_71 {a0 : Array Value} {Z : State} (hw : ∀ d ∈ tables_1, d.before a0 Z = true) : (Jvm.Cond.static ({ cls := "java/lang/StringUTF16", name := "coderFromArrayLen", desc := "([BI)B" } : Jvm.MethodName)).before a0 Z = true := hw _ (List.mem_of_getElem? (i := 71) rfl)
theorem w_72 {a0 : Array Value} {Z : State} (hw : ∀ d ∈ tables_1, d.before a0 Z = true) : (Jvm.Cond.code ({ cls := "java/lang/StringUTF16", name := "coderFromArrayLen", desc := "([BI)B" } : Jvm.MethodName) jdk_52_method_15_code (2 : Nat) (Option.some Jvm.ClassFile.FieldType.byte)).before a0 Z = true := hw _ (List.mem_of_getElem? (i := 72) rfl)
abbrev own_EL : List (String × Nat) := [("java/lang/String", 7)]
theorem own_ew {a0 : Array Value} {Z : State} (hw : ∀ d ∈ tables_1, d.before a0 Z = true) : EW Z a0 own_EL := EW.cons (text := "") (w_24 hw) (by decide) EW.nil
theorem own_sA {a0 : Array Value} {Z : State} (hw : ∀ d ∈ tables_1, d.before a0 Z = true) : ∀ a ∈ Bundle.stringAtoms, a.before a0 Z = true := by
  intro a ha
  simp only [Bundle.stringAtoms, List.mem_cons, List.not_mem_nil, or_false] at ha
  rcases ha with rfl | rfl | rfl | rfl | rfl | rfl | rfl
  · exact (w_12 hw)
  · exact (w_11 hw)
  · exact (w_25 hw)
  · exact (w_26 hw)
  · exact (w_27 hw)
  · exact (w_28 hw)
  · exact (w_29 hw)
theorem own_notH {a0 : Array Value} {Z : State} (hw : ∀ d ∈ tables_1, d.before a0 Z = true) : ∃ c t, Z.vm.findClass "java/lang/String" = some c ∧ Z.vm.findClass "com/example/marshal_lock/marshallock/internal/Hold" = some t ∧ Z.vm.assignable c t = false := by
  have hc : ∀ w ∈ ([Cond.superclass "java/lang/String" "java/lang/Object", .noSuperclass "java/lang/Object"] : List Jvm.Cond), w.before a0 Z = true := fun w h => by
    simp only [List.mem_cons, List.not_mem_nil, or_false] at h
    rcases h with rfl | rfl
    · exact (w_61 hw)
    · exact (w_62 hw)
  obtain ⟨cy, ky, g1, g2, g3, g4, -, -⟩ := Cond.instantiable_spec (w_1 hw)
  obtain ⟨cx, k, hx, -, -, -⟩ := Cond.chain_head (X := "java/lang/String") (t := ["java/lang/Object"]) hc
  exact ⟨cx, cy, hx, g1, Vm.notAssignable_of_chain (X := "java/lang/String") (t := ["java/lang/Object"]) hx g1 g2 g3 (Bool.or_eq_false_iff.mp g4).1 hc (by decide)⟩
theorem own_pn1 : plainName "com/example/marshal_lock/marshallock/internal/HoldEqualsPinLaw" = true := by first | (simp [plainName, overriddenIn]; done) | decide +kernel
theorem d2_0 : decode method_2_code 0 = .ok (.iload_n 0, 1) := by decide +kernel
theorem d2_1 : decode method_2_code 1 = .ok (.bipush 16, 2) := by decide +kernel
theorem d2_3 : decode method_2_code 3 = .ok (.iushr, 1) := by decide +kernel
theorem d2_4 : decode method_2_code 4 = .ok (.iconst 3, 1) := by decide +kernel
theorem d2_5 : decode method_2_code 5 = .ok (.iand, 1) := by decide +kernel
theorem d2_6 : decode method_2_code 6 = .ok (.iconst 3, 1) := by decide +kernel
theorem d2_7 : decode method_2_code 7 = .ok (.irem, 1) := by decide +kernel
theorem d2_8 : decode method_2_code 8 = .ok (.ireturn, 1) := by decide +kernel
theorem ef_2 (m : MethodId) (x0 : Int32) : entryFrame m #[(.int x0)] 1 = mkF m 0 #[.val (.int x0)] [] := by first | (simp [entryFrame, mkF, argsToLocals, Value.category]; done) | rfl
def own_len1 (p1 : Int32) : Int32 := ((((p1.toUInt32 >>> ((16 : Int32) &&& 31).toUInt32).toInt32) &&& (3 : Int32)) % (3 : Int32))
def Q2 (Z : State) (p1 : Int32) (h0 : Heap) (n0 : Nat) (v : Option Value) (h : Heap) (L : List Loc) : Prop := v = some (.int (own_len1 p1)) ∧ Fr n0 L ∧ h = h0
set_option maxHeartbeats 40000000 in
theorem rm2 (l : Launch) (Z : State) (a0 : Array Value) (hw : ∀ d ∈ tables_1, d.before a0 Z = true) (ws : List Jvm.Cond) (p1 : Int32) (h0 : Heap) (n0 : Nat) (Z0 : n0 ≤ h0.size) :
    MetFree l (⟨"com/example/marshal_lock/marshallock/internal/HoldEqualsPinLaw", "len", "(I)I"⟩ : MethodName) (head1 (Jvm.Cond.code (⟨"com/example/marshal_lock/marshallock/internal/HoldEqualsPinLaw", "len", "(I)I"⟩ : MethodName) method_2_code 1 (some .int) :: ws) ({ frames := 0, cells := 0, slots := 0, locals := 0 } : Room)) (fun a U => a = #[(.int p1)] ∧ Z.Warmed39 U.vm ∧ U.heap = h0) (fun _ _ _ _ _ => True) (fun _ U o U' => ∃ v L, o = .returned v ∧ Q2 Z p1 h0 n0 v U'.heap L ∧ FrameEnd U o U' L ({ frames := 0, cells := 0, slots := 0, locals := 0 } : Room).cells ({ frames := 0, cells := 0, slots := 0, locals := 0 } : Room).slots) := by
  refine MetFree.of_bodySF (plainFor_of_name own_pn1) hisR ?_
  intro p e s m args below meth c s₁ Bd hml0 hP hK
  obtain ⟨rfl, hZ, hh⟩ := hP
  have hx := Bd.exec
  have hby := Bd.bytes
  have hml : c.maxLocals = 1 := hml0
  have hlk : meth.locks = false := BodyLoose.notSynchronized Bd
  have hown : s.vm.findClass "com/example/marshal_lock/marshallock/internal/HoldEqualsPinLaw" = some m.cls := findClass_of_methodNamed Bd.named
  have hnm := (name_of_methodNamed Bd.named Bd.method).1
  have X0 : Stand p l e ({ frames := 0, cells := 0, slots := 0, locals := 0 } : Room) s m #[(.int p1)] below meth c s₁ [] 0 0 := Stand.of_body Bd
  have e0 : s₁.heap = h0 := by rw [← hh, Bd.state]; rfl
  have N0 := Fr.nil n0
  show own_Go p e below s (Q2 Z p1 h0 n0) ({ frames := 0, cells := 0, slots := 0, locals := 0 } : Room).cells ({ frames := 0, cells := 0, slots := 0, locals := 0 } : Room).slots _
  refine own_st (B := s₁.setTop (mkF m 0 #[.val (.int p1)] [])) (fun t k => castTop (ef_2 m (p1)) k) ?_
  refine own_st (B := s₁.setTop (mkF m 1 #[.val (.int p1)] [(.int p1)])) (fun t k => XS.iloadN X0.here hx rfl (hb hby d2_0) rfl k) ?_
  refine own_st (B := s₁.setTop (mkF m 3 #[.val (.int p1)] [(.int (16 : Int32)), (.int p1)])) (fun t k => XS.bipush X0.here hx rfl (hb hby d2_1) k) ?_
  refine own_st (B := s₁.setTop (mkF m 4 #[.val (.int p1)] [(.int ((p1.toUInt32 >>> ((16 : Int32) &&& 31).toUInt32).toInt32))])) (fun t k => XS.iushr X0.here hx rfl (hb hby d2_3) rfl k) ?_
  refine own_st (B := s₁.setTop (mkF m 5 #[.val (.int p1)] [(.int (3 : Int32)), (.int ((p1.toUInt32 >>> ((16 : Int32) &&& 31).toUInt32).toInt32))])) (fun t k => XS.iconst X0.here hx rfl (hb hby d2_4) k) ?_
  refine own_st (B := s₁.setTop (mkF m 6 #[.val (.int p1)] [(.int (((p1.toUInt32 >>> ((16 : Int32) &&& 31).toUInt32).toInt32) &&& (3 : Int32)))])) (fun t k => XS.iand X0.here hx rfl (hb hby d2_5) rfl k) ?_
  refine own_st (B := s₁.setTop (mkF m 7 #[.val (.int p1)] [(.int (3 : Int32)), (.int (((p1.toUInt32 >>> ((16 : Int32) &&& 31).toUInt32).toInt32) &&& (3 : Int32)))])) (fun t k => XS.iconst X0.here hx rfl (hb hby d2_6) k) ?_
  refine own_st (B := s₁.setTop (mkF m 8 #[.val (.int p1)] [(.int ((((p1.toUInt32 >>> ((16 : Int32) &&& 31).toUInt32).toInt32) &&& (3 : Int32)) % (3 : Int32)))])) (fun t k => iremM X0 hx (g := (mkF m 7 #[.val (.int p1)] [(.int (3 : Int32)), (.int (((p1.toUInt32 >>> ((16 : Int32) &&& 31).toUInt32).toInt32) &&& (3 : Int32)))])) rfl (x := (((p1.toUInt32 >>> ((16 : Int32) &&& 31).toUInt32).toInt32) &&& (3 : Int32))) (y := (3 : Int32)) (rest := []) (hb hby d2_7) rfl (by decide) k) ?_
  refine own_retI X0 hx hlk Bd.returns (hb hby d2_8) (by decide) (by decide) ?_
  show Q2 Z p1 h0 n0 _ s₁.heap _
  rw [e0]
  exact ⟨(by unfold own_len1; rfl), N0, rfl⟩
theorem own_pn2 : plainName "java/lang/StringUTF16" = true := by first | (simp [plainName, overriddenIn]; done) | decide +kernel
theorem d12_0 : decode jdk_52_method_21_code 0 = .ok (.iconst 0, 1) := by decide +kernel
theorem d12_1 : decode jdk_52_method_21_code 1 = .ok (.istore 5, 2) := by decide +kernel
theorem d12_3 : decode jdk_52_method_21_code 3 = .ok (.iload 5, 2) := by decide +kernel
theorem d12_5 : decode jdk_52_method_21_code 5 = .ok (.iload 4, 2) := by decide +kernel
theorem d12_7 : decode jdk_52_method_21_code 7 = .ok (.if_icmp .ge 37, 3) := by decide +kernel
theorem d12_10 : decode jdk_52_method_21_code 10 = .ok (.aload_n 0, 1) := by decide +kernel
theorem d12_11 : decode jdk_52_method_21_code 11 = .ok (.iload_n 1, 1) := by decide +kernel
theorem d12_12 : decode jdk_52_method_21_code 12 = .ok (.caload, 1) := by decide +kernel
theorem d12_13 : decode jdk_52_method_21_code 13 = .ok (.istore 6, 2) := by decide +kernel
theorem d12_15 : decode jdk_52_method_21_code 15 = .ok (.iload 6, 2) := by decide +kernel
theorem d12_17 : decode jdk_52_method_21_code 17 = .ok (.sipush 255, 3) := by decide +kernel
theorem d12_20 : decode jdk_52_method_21_code 20 = .ok (.if_icmp .le 6, 3) := by decide +kernel
theorem d12_26 : decode jdk_52_method_21_code 26 = .ok (.aload_n 2, 1) := by decide +kernel
theorem d12_27 : decode jdk_52_method_21_code 27 = .ok (.iload_n 3, 1) := by decide +kernel
theorem d12_28 : decode jdk_52_method_21_code 28 = .ok (.iload 6, 2) := by decide +kernel
theorem d12_30 : decode jdk_52_method_21_code 30 = .ok (.i2b, 1) := by decide +kernel
theorem d12_31 : decode jdk_52_method_21_code 31 = .ok (.bastore, 1) := by decide +kernel
theorem d12_32 : decode jdk_52_method_21_code 32 = .ok (.iinc 1 1, 3) := by decide +kernel
theorem d12_35 : decode jdk_52_method_21_code 35 = .ok (.iinc 3 1, 3) := by decide +kernel
theorem d12_38 : decode jdk_52_method_21_code 38 = .ok (.iinc 5 1, 3) := by decide +kernel
theorem d12_41 : decode jdk_52_method_21_code 41 = .ok (.goto (-38), 3) := by decide +kernel
theorem d12_44 : decode jdk_52_method_21_code 44 = .ok (.iload 4, 2) := by decide +kernel
theorem d12_46 : decode jdk_52_method_21_code 46 = .ok (.ireturn, 1) := by decide +kernel
theorem ef_12n1 (m : MethodId) (x0 : Addr) (x1 : Int32) (x2 : Addr) (x3 : Int32) (x4 : Int32) : entryFrame m #[(.ref x0), (.int x1), (.ref x2), (.int x3), (.int x4)] 7 = mkF m 0 #[.val (.ref x0), .val (.int x1), .val (.ref x2), .val (.int x3), .val (.int x4), .unset, .unset] [] := by first | (simp [entryFrame, mkF, argsToLocals, Value.category]; done) | rfl
def Q12n1 (Z : State) (a1 : Addr) (a2 : Addr) (c0 : Int32) (h0 : Heap) (n0 : Nat) (v : Option Value) (h : Heap) (L : List Loc) : Prop := v = some (.int (1 : Int32)) ∧ Fr n0 L ∧ Keep h0 h [a2] ∧ own_A Z h a2 .byte [(.int ((c0.toInt8.toInt32).toInt8.toInt32))]
set_option maxHeartbeats 40000000 in
theorem rm12n1 (l : Launch) (Z : State) (a0 : Array Value) (hw : ∀ d ∈ tables_1, d.before a0 Z = true) (ws : List Jvm.Cond) (a1 : Addr) (a2 : Addr) (c0 : Int32) (h0 : Heap) (n0 : Nat) (Z0 : n0 ≤ h0.size) (F0 : own_A Z h0 a1 .char [(.int c0)]) (F1 : own_A Z h0 a2 .byte [(.int (0 : Int32))]) (na : a1 ≠ a2) (ga : n0 ≤ a2) (hc0_ : ¬ ((255 : Int32) < c0)) :
    MetFree l (⟨"java/lang/StringUTF16", "compress", "([CI[BII)I"⟩ : MethodName) (head1 (Jvm.Cond.code (⟨"java/lang/StringUTF16", "compress", "([CI[BII)I"⟩ : MethodName) jdk_52_method_21_code 7 (some .int) :: ws) ({ frames := 0, cells := 0, slots := 0, locals := 0 } : Room)) (fun a U => a = #[(.ref a1), (.int (0 : Int32)), (.ref a2), (.int (0 : Int32)), (.int (1 : Int32))] ∧ Z.Warmed39 U.vm ∧ U.heap = h0) (fun _ _ _ _ _ => True) (fun _ U o U' => ∃ v L, o = .returned v ∧ Q12n1 Z a1 a2 c0 h0 n0 v U'.heap L ∧ FrameEnd U o U' L ({ frames := 0, cells := 0, slots := 0, locals := 0 } : Room).cells ({ frames := 0, cells := 0, slots := 0, locals := 0 } : Room).slots) := by
  refine MetFree.of_bodySF (plainFor_of_name own_pn2) hisR ?_
  intro p e s m args below meth c s₁ Bd hml0 hP hK
  obtain ⟨rfl, hZ, hh⟩ := hP
  have hx := Bd.exec
  have hby := Bd.bytes
  have hml : c.maxLocals = 7 := hml0
  have hlk : meth.locks = false := BodyLoose.notSynchronized Bd
  have hown : s.vm.findClass "java/lang/StringUTF16" = some m.cls := findClass_of_methodNamed Bd.named
  have hnm := (name_of_methodNamed Bd.named Bd.method).1
  have X0 : Stand p l e ({ frames := 0, cells := 0, slots := 0, locals := 0 } : Room) s m #[(.ref a1), (.int (0 : Int32)), (.ref a2), (.int (0 : Int32)), (.int (1 : Int32))] below meth c s₁ [] 0 0 := Stand.of_body Bd
  have e0 : s₁.heap = h0 := by rw [← hh, Bd.state]; rfl
  have N0 := Fr.nil n0
  show own_Go p e below s (Q12n1 Z a1 a2 c0 h0 n0) ({ frames := 0, cells := 0, slots := 0, locals := 0 } : Room).cells ({ frames := 0, cells := 0, slots := 0, locals := 0 } : Room).slots _
  refine own_st (B := s₁.setTop (mkF m 0 #[.val (.ref a1), .val (.int (0 : Int32)), .val (.ref a2), .val (.int (0 : Int32)), .val (.int (1 : Int32)), .unset, .unset] [])) (fun t k => castTop (ef_12n1 m (a1) ((0 : Int32)) (a2) ((0 : Int32)) ((1 : Int32))) k) ?_
  refine own_st (B := s₁.setTop (mkF m 1 #[.val (.ref a1), .val (.int (0 : Int32)), .val (.ref a2), .val (.int (0 : Int32)), .val (.int (1 : Int32)), .unset, .unset] [(.int (0 : Int32))])) (fun t k => XS.iconst X0.here hx rfl (hb hby d12_0) k) ?_
  refine own_st (B := s₁.setTop (mkF m 3 #[.val (.ref a1), .val (.int (0 : Int32)), .val (.ref a2), .val (.int (0 : Int32)), .val (.int (1 : Int32)), .val (.int (0 : Int32)), .unset] [])) (fun t k => XS.istore X0.here hx rfl (hb hby d12_1) rfl (l' := #[.val (.ref a1), .val (.int (0 : Int32)), .val (.ref a2), .val (.int (0 : Int32)), .val (.int (1 : Int32)), .val (.int (0 : Int32)), .unset]) rfl k) ?_
  refine own_st (B := s₁.setTop (mkF m 5 #[.val (.ref a1), .val (.int (0 : Int32)), .val (.ref a2), .val (.int (0 : Int32)), .val (.int (1 : Int32)), .val (.int (0 : Int32)), .unset] [(.int (0 : Int32))])) (fun t k => XS.iload X0.here hx rfl (hb hby d12_3) rfl k) ?_
  refine own_st (B := s₁.setTop (mkF m 7 #[.val (.ref a1), .val (.int (0 : Int32)), .val (.ref a2), .val (.int (0 : Int32)), .val (.int (1 : Int32)), .val (.int (0 : Int32)), .unset] [(.int (1 : Int32)), (.int (0 : Int32))])) (fun t k => XS.iload X0.here hx rfl (hb hby d12_5) rfl k) ?_
  refine own_st (B := s₁.setTop (mkF m 10 #[.val (.ref a1), .val (.int (0 : Int32)), .val (.ref a2), .val (.int (0 : Int32)), .val (.int (1 : Int32)), .val (.int (0 : Int32)), .unset] [])) (fun t k => XS.icmpNo X0.here hx rfl (hb hby d12_7) rfl (by decide) k) ?_
  refine own_st (B := s₁.setTop (mkF m 11 #[.val (.ref a1), .val (.int (0 : Int32)), .val (.ref a2), .val (.int (0 : Int32)), .val (.int (1 : Int32)), .val (.int (0 : Int32)), .unset] [(.ref a1)])) (fun t k => XS.aloadN X0.here hx rfl (hb hby d12_10) rfl rfl k) ?_
  refine own_st (B := s₁.setTop (mkF m 12 #[.val (.ref a1), .val (.int (0 : Int32)), .val (.ref a2), .val (.int (0 : Int32)), .val (.int (1 : Int32)), .val (.int (0 : Int32)), .unset] [(.int (0 : Int32)), (.ref a1)])) (fun t k => XS.iloadN X0.here hx rfl (hb hby d12_11) rfl k) ?_
  refine own_st (B := s₁.setTop (mkF m 13 #[.val (.ref a1), .val (.int (0 : Int32)), .val (.ref a2), .val (.int (0 : Int32)), .val (.int (1 : Int32)), .val (.int (0 : Int32)), .unset] [(.int c0)])) (fun t k => own_ldC X0 hx hZ e0 F0 (g := (mkF m 12 #[.val (.ref a1), .val (.int (0 : Int32)), .val (.ref a2), .val (.int (0 : Int32)), .val (.int (1 : Int32)), .val (.int (0 : Int32)), .unset] [(.int (0 : Int32)), (.ref a1)])) (i := 0) (by decide) rfl rfl rfl (hb hby d12_12) k) ?_
  refine own_st (B := s₁.setTop (mkF m 15 #[.val (.ref a1), .val (.int (0 : Int32)), .val (.ref a2), .val (.int (0 : Int32)), .val (.int (1 : Int32)), .val (.int (0 : Int32)), .val (.int c0)] [])) (fun t k => XS.istore X0.here hx rfl (hb hby d12_13) rfl (l' := #[.val (.ref a1), .val (.int (0 : Int32)), .val (.ref a2), .val (.int (0 : Int32)), .val (.int (1 : Int32)), .val (.int (0 : Int32)), .val (.int c0)]) rfl k) ?_
  refine own_st (B := s₁.setTop (mkF m 17 #[.val (.ref a1), .val (.int (0 : Int32)), .val (.ref a2), .val (.int (0 : Int32)), .val (.int (1 : Int32)), .val (.int (0 : Int32)), .val (.int c0)] [(.int c0)])) (fun t k => XS.iload X0.here hx rfl (hb hby d12_15) rfl k) ?_
  refine own_st (B := s₁.setTop (mkF m 20 #[.val (.ref a1), .val (.int (0 : Int32)), .val (.ref a2), .val (.int (0 : Int32)), .val (.int (1 : Int32)), .val (.int (0 : Int32)), .val (.int c0)] [(.int (255 : Int32)), (.int c0)])) (fun t k => XS.sipush X0.here hx rfl (hb hby d12_17) k) ?_
  refine own_st (B := s₁.setTop (mkF m 26 #[.val (.ref a1), .val (.int (0 : Int32)), .val (.ref a2), .val (.int (0 : Int32)), .val (.int (1 : Int32)), .val (.int (0 : Int32)), .val (.int c0)] [])) (fun t k => XS.icmpYes X0.here hx rfl (pc0 := 20) (pc' := 26) rfl (hb hby d12_20) rfl (XT.ii_le_t hc0_) (by decide) (by decide) k) ?_
  refine own_st (B := s₁.setTop (mkF m 27 #[.val (.ref a1), .val (.int (0 : Int32)), .val (.ref a2), .val (.int (0 : Int32)), .val (.int (1 : Int32)), .val (.int (0 : Int32)), .val (.int c0)] [(.ref a2)])) (fun t k => XS.aloadN X0.here hx rfl (hb hby d12_26) rfl rfl k) ?_
  refine own_st (B := s₁.setTop (mkF m 28 #[.val (.ref a1), .val (.int (0 : Int32)), .val (.ref a2), .val (.int (0 : Int32)), .val (.int (1 : Int32)), .val (.int (0 : Int32)), .val (.int c0)] [(.int (0 : Int32)), (.ref a2)])) (fun t k => XS.iloadN X0.here hx rfl (hb hby d12_27) rfl k) ?_
  refine own_st (B := s₁.setTop (mkF m 30 #[.val (.ref a1), .val (.int (0 : Int32)), .val (.ref a2), .val (.int (0 : Int32)), .val (.int (1 : Int32)), .val (.int (0 : Int32)), .val (.int c0)] [(.int c0), (.int (0 : Int32)), (.ref a2)])) (fun t k => XS.iload X0.here hx rfl (hb hby d12_28) rfl k) ?_
  refine own_st (B := s₁.setTop (mkF m 31 #[.val (.ref a1), .val (.int (0 : Int32)), .val (.ref a2), .val (.int (0 : Int32)), .val (.int (1 : Int32)), .val (.int (0 : Int32)), .val (.int c0)] [(.int (c0.toInt8.toInt32)), (.int (0 : Int32)), (.ref a2)])) (fun t k => XS.i2b X0.here hx rfl (hb hby d12_30) rfl k) ?_
  obtain ⟨T1, h1, X1, e1, W1, A1, st1⟩ := own_stB X0 hx hZ e0 F1 (j := (0 : Int32)) (x := (c0.toInt8.toInt32)) (i := 0) (by decide) (show 0 < 1 from by decide) (g := (mkF m 31 #[.val (.ref a1), .val (.int (0 : Int32)), .val (.ref a2), .val (.int (0 : Int32)), .val (.int (1 : Int32)), .val (.int (0 : Int32)), .val (.int c0)] [(.int (c0.toInt8.toInt32)), (.int (0 : Int32)), (.ref a2)])) rfl rfl (hb hby d12_31)
  have f1_ : own_A Z h1 a2 .byte [(.int ((c0.toInt8.toInt32).toInt8.toInt32))] := A1
  have z2 : n0 ≤ h1.size := Nat.le_trans Z0 (Keep.of_wr W1).1
  have kp2 : Keep h0 h1 [a2] := (Keep.refl h0 [a2]).wr W1 (Or.inl (List.mem_of_getElem? (i := 0) rfl))
  have n3 := Fr.snoc X1 N0 ga
  refine own_st (B := T1.setTop (mkF m 32 #[.val (.ref a1), .val (.int (0 : Int32)), .val (.ref a2), .val (.int (0 : Int32)), .val (.int (1 : Int32)), .val (.int (0 : Int32)), .val (.int c0)] [])) (fun t k => st1 t k) ?_
  refine own_st (B := T1.setTop (mkF m 35 #[.val (.ref a1), .val (.int ((0 : Int32) + (1 : Int32))), .val (.ref a2), .val (.int (0 : Int32)), .val (.int (1 : Int32)), .val (.int (0 : Int32)), .val (.int c0)] [])) (fun t k => XS.iinc X1.here hx rfl (hb hby d12_32) rfl (l' := #[.val (.ref a1), .val (.int ((0 : Int32) + (1 : Int32))), .val (.ref a2), .val (.int (0 : Int32)), .val (.int (1 : Int32)), .val (.int (0 : Int32)), .val (.int c0)]) rfl k) ?_
  refine own_st (B := T1.setTop (mkF m 38 #[.val (.ref a1), .val (.int ((0 : Int32) + (1 : Int32))), .val (.ref a2), .val (.int ((0 : Int32) + (1 : Int32))), .val (.int (1 : Int32)), .val (.int (0 : Int32)), .val (.int c0)] [])) (fun t k => XS.iinc X1.here hx rfl (hb hby d12_35) rfl (l' := #[.val (.ref a1), .val (.int ((0 : Int32) + (1 : Int32))), .val (.ref a2), .val (.int ((0 : Int32) + (1 : Int32))), .val (.int (1 : Int32)), .val (.int (0 : Int32)), .val (.int c0)]) rfl k) ?_
  refine own_st (B := T1.setTop (mkF m 41 #[.val (.ref a1), .val (.int ((0 : Int32) + (1 : Int32))), .val (.ref a2), .val (.int ((0 : Int32) + (1 : Int32))), .val (.int (1 : Int32)), .val (.int ((0 : Int32) + (1 : Int32))), .val (.int c0)] [])) (fun t k => XS.iinc X1.here hx rfl (hb hby d12_38) rfl (l' := #[.val (.ref a1), .val (.int ((0 : Int32) + (1 : Int32))), .val (.ref a2), .val (.int ((0 : Int32) + (1 : Int32))), .val (.int (1 : Int32)), .val (.int ((0 : Int32) + (1 : Int32))), .val (.int c0)]) rfl k) ?_
  refine own_st (B := T1.setTop (mkF m 3 #[.val (.ref a1), .val (.int ((0 : Int32) + (1 : Int32))), .val (.ref a2), .val (.int ((0 : Int32) + (1 : Int32))), .val (.int (1 : Int32)), .val (.int ((0 : Int32) + (1 : Int32))), .val (.int c0)] [])) (fun t k => XS.goto X1.here hx rfl (pc0 := 41) (pc' := 3) rfl (hb hby d12_41) (by decide) (by decide) k) ?_
  refine own_st (B := T1.setTop (mkF m 5 #[.val (.ref a1), .val (.int ((0 : Int32) + (1 : Int32))), .val (.ref a2), .val (.int ((0 : Int32) + (1 : Int32))), .val (.int (1 : Int32)), .val (.int ((0 : Int32) + (1 : Int32))), .val (.int c0)] [(.int ((0 : Int32) + (1 : Int32)))])) (fun t k => XS.iload X1.here hx rfl (hb hby d12_3) rfl k) ?_
  refine own_st (B := T1.setTop (mkF m 7 #[.val (.ref a1), .val (.int ((0 : Int32) + (1 : Int32))), .val (.ref a2), .val (.int ((0 : Int32) + (1 : Int32))), .val (.int (1 : Int32)), .val (.int ((0 : Int32) + (1 : Int32))), .val (.int c0)] [(.int (1 : Int32)), (.int ((0 : Int32) + (1 : Int32)))])) (fun t k => XS.iload X1.here hx rfl (hb hby d12_5) rfl k) ?_
  refine own_st (B := T1.setTop (mkF m 44 #[.val (.ref a1), .val (.int ((0 : Int32) + (1 : Int32))), .val (.ref a2), .val (.int ((0 : Int32) + (1 : Int32))), .val (.int (1 : Int32)), .val (.int ((0 : Int32) + (1 : Int32))), .val (.int c0)] [])) (fun t k => XS.icmpYes X1.here hx rfl (pc0 := 7) (pc' := 44) rfl (hb hby d12_7) rfl (by decide) (by decide) (by decide) k) ?_
  refine own_st (B := T1.setTop (mkF m 46 #[.val (.ref a1), .val (.int ((0 : Int32) + (1 : Int32))), .val (.ref a2), .val (.int ((0 : Int32) + (1 : Int32))), .val (.int (1 : Int32)), .val (.int ((0 : Int32) + (1 : Int32))), .val (.int c0)] [(.int (1 : Int32))])) (fun t k => XS.iload X1.here hx rfl (hb hby d12_44) rfl k) ?_
  refine own_retI X1 hx hlk Bd.returns (hb hby d12_46) (by decide) (by decide) ?_
  show Q12n1 Z a1 a2 c0 h0 n0 _ T1.heap _
  rw [e1]
  exact ⟨rfl, n3, kp2, f1_⟩
theorem own_pd2 : parseMethodDescriptor "([CI[BII)I" = some ⟨[(.array .char), .int, (.array .byte), .int, .int], some .int⟩ := by decide +kernel
theorem d11_0 : decode jdk_52_method_16_code 0 = .ok (.iload_n 2, 1) := by decide +kernel
theorem d11_1 : decode jdk_52_method_16_code 1 = .ok (.newarray .byte, 2) := by decide +kernel
theorem d11_3 : decode jdk_52_method_16_code 3 = .ok (.astore_n 3, 1) := by decide +kernel
theorem d11_4 : decode jdk_52_method_16_code 4 = .ok (.aload_n 0, 1) := by decide +kernel
theorem d11_5 : decode jdk_52_method_16_code 5 = .ok (.iload_n 1, 1) := by decide +kernel
theorem d11_6 : decode jdk_52_method_16_code 6 = .ok (.aload_n 3, 1) := by decide +kernel
theorem d11_7 : decode jdk_52_method_16_code 7 = .ok (.iconst 0, 1) := by decide +kernel
theorem d11_8 : decode jdk_52_method_16_code 8 = .ok (.iload_n 2, 1) := by decide +kernel
theorem d11_9 : decode jdk_52_method_16_code 9 = .ok (.invokestatic 115, 3) := by decide +kernel
theorem d11_12 : decode jdk_52_method_16_code 12 = .ok (.istore 4, 2) := by decide +kernel
theorem d11_14 : decode jdk_52_method_16_code 14 = .ok (.iload 4, 2) := by decide +kernel
theorem d11_16 : decode jdk_52_method_16_code 16 = .ok (.iload_n 2, 1) := by decide +kernel
theorem d11_17 : decode jdk_52_method_16_code 17 = .ok (.if_icmp .eq 40, 3) := by decide +kernel
theorem d11_57 : decode jdk_52_method_16_code 57 = .ok (.aload_n 3, 1) := by decide +kernel
theorem d11_58 : decode jdk_52_method_16_code 58 = .ok (.areturn, 1) := by decide +kernel
theorem ef_11n1 (m : MethodId) (x0 : Addr) (x1 : Int32) (x2 : Int32) : entryFrame m #[(.ref x0), (.int x1), (.int x2)] 6 = mkF m 0 #[.val (.ref x0), .val (.int x1), .val (.int x2), .unset, .unset, .unset] [] := by first | (simp [entryFrame, mkF, argsToLocals, Value.category]; done) | rfl
def Q11n1 (Z : State) (a1 : Addr) (c0 : Int32) (h0 : Heap) (n0 : Nat) (v : Option Value) (h : Heap) (L : List Loc) : Prop := ∃ (b : Addr), v = some (.ref b) ∧ Fr n0 L ∧ Keep h0 h [] ∧ n0 ≤ b ∧ h0.size ≤ b ∧ own_A Z h b .byte [(.int ((c0.toInt8.toInt32).toInt8.toInt32))]
set_option maxHeartbeats 40000000 in
theorem rm11n1 (l : Launch) (Z : State) (a0 : Array Value) (hw : ∀ d ∈ tables_1, d.before a0 Z = true) (ws : List Jvm.Cond) (a1 : Addr) (c0 : Int32) (h0 : Heap) (n0 : Nat) (Z0 : n0 ≤ h0.size) (F0 : own_A Z h0 a1 .char [(.int c0)]) (hc0_ : ¬ ((255 : Int32) < c0)) :
    MetFree l (⟨"java/lang/StringUTF16", "compress", "([CII)[B"⟩ : MethodName) (head1 (Jvm.Cond.code (⟨"java/lang/StringUTF16", "compress", "([CII)[B"⟩ : MethodName) jdk_52_method_16_code 6 (some (.array .byte)) :: ws) ({ frames := 1, cells := 1, slots := 1, locals := 18 } : Room)) (fun a U => a = #[(.ref a1), (.int (0 : Int32)), (.int (1 : Int32))] ∧ Z.Warmed39 U.vm ∧ U.heap = h0) (fun _ _ _ _ _ => True) (fun _ U o U' => ∃ v L, o = .returned v ∧ Q11n1 Z a1 c0 h0 n0 v U'.heap L ∧ FrameEnd U o U' L ({ frames := 1, cells := 1, slots := 1, locals := 18 } : Room).cells ({ frames := 1, cells := 1, slots := 1, locals := 18 } : Room).slots) := by
  refine MetFree.of_bodySF (plainFor_of_name own_pn2) hisR ?_
  intro p e s m args below meth c s₁ Bd hml0 hP hK
  obtain ⟨rfl, hZ, hh⟩ := hP
  have hx := Bd.exec
  have hby := Bd.bytes
  have hml : c.maxLocals = 6 := hml0
  have hlk : meth.locks = false := BodyLoose.notSynchronized Bd
  have hown : s.vm.findClass "java/lang/StringUTF16" = some m.cls := findClass_of_methodNamed Bd.named
  have hnm := (name_of_methodNamed Bd.named Bd.method).1
  have X0 : Stand p l e ({ frames := 1, cells := 1, slots := 1, locals := 18 } : Room) s m #[(.ref a1), (.int (0 : Int32)), (.int (1 : Int32))] below meth c s₁ [] 0 0 := Stand.of_body Bd
  have e0 : s₁.heap = h0 := by rw [← hh, Bd.state]; rfl
  have N0 := Fr.nil n0
  show own_Go p e below s (Q11n1 Z a1 c0 h0 n0) ({ frames := 1, cells := 1, slots := 1, locals := 18 } : Room).cells ({ frames := 1, cells := 1, slots := 1, locals := 18 } : Room).slots _
  refine own_st (B := s₁.setTop (mkF m 0 #[.val (.ref a1), .val (.int (0 : Int32)), .val (.int (1 : Int32)), .unset, .unset, .unset] [])) (fun t k => castTop (ef_11n1 m (a1) ((0 : Int32)) ((1 : Int32))) k) ?_
  refine own_st (B := s₁.setTop (mkF m 1 #[.val (.ref a1), .val (.int (0 : Int32)), .val (.int (1 : Int32)), .unset, .unset, .unset] [(.int (1 : Int32))])) (fun t k => XS.iloadN X0.here hx rfl (hb hby d11_0) rfl k) ?_
  obtain ⟨T1, h1, X1, e1, E1, A1, x1, st1⟩ := own_newP X0 hx hZ (aty := .byte) (w_25 hw) e0 (g := (mkF m 1 #[.val (.ref a1), .val (.int (0 : Int32)), .val (.int (1 : Int32)), .unset, .unset, .unset] [(.int (1 : Int32))])) rfl (hb hby d11_1) (n := (1 : Int32)) (rest := []) rfl (k := 1) (cap := 1) (by decide) (Nat.le_refl _) (by decide) (by decide) (by decide) (ad := "[B") rfl
  obtain ⟨b1, g1⟩ : ∃ z, z = h0.size := ⟨_, rfl⟩
  rw [← g1] at A1 x1 st1
  have q1_a1 : a1 ≠ b1 := Nat.ne_of_lt (Nat.lt_of_lt_of_le F0.lt (Nat.le_of_eq g1.symm))
  have u1 : n0 ≤ b1 := Nat.le_trans Z0 (Nat.le_of_eq g1.symm)
  have y1 : h0.size ≤ b1 := Nat.le_trans (Keep.refl h0 []).1 (Nat.le_of_eq g1.symm)
  have z2 : n0 ≤ h1.size := Nat.le_trans Z0 E1.1
  have kp2 : Keep h0 h1 [] := (Keep.refl h0 []).ext E1
  have f1_ : own_A Z h1 b1 .byte [(.int (0 : Int32))] := A1
  refine own_st (B := T1.setTop (mkF m 3 #[.val (.ref a1), .val (.int (0 : Int32)), .val (.int (1 : Int32)), .unset, .unset, .unset] [(.ref b1)])) (fun t k => st1 t k) ?_
  refine own_st (B := T1.setTop (mkF m 4 #[.val (.ref a1), .val (.int (0 : Int32)), .val (.int (1 : Int32)), .val (.ref b1), .unset, .unset] [])) (fun t k => XS.astoreN X1.here hx rfl (hb hby d11_3) rfl rfl (l' := #[.val (.ref a1), .val (.int (0 : Int32)), .val (.int (1 : Int32)), .val (.ref b1), .unset, .unset]) rfl k) ?_
  refine own_st (B := T1.setTop (mkF m 5 #[.val (.ref a1), .val (.int (0 : Int32)), .val (.int (1 : Int32)), .val (.ref b1), .unset, .unset] [(.ref a1)])) (fun t k => XS.aloadN X1.here hx rfl (hb hby d11_4) rfl rfl k) ?_
  refine own_st (B := T1.setTop (mkF m 6 #[.val (.ref a1), .val (.int (0 : Int32)), .val (.int (1 : Int32)), .val (.ref b1), .unset, .unset] [(.int (0 : Int32)), (.ref a1)])) (fun t k => XS.iloadN X1.here hx rfl (hb hby d11_5) rfl k) ?_
  refine own_st (B := T1.setTop (mkF m 7 #[.val (.ref a1), .val (.int (0 : Int32)), .val (.int (1 : Int32)), .val (.ref b1), .unset, .unset] [(.ref b1), (.int (0 : Int32)), (.ref a1)])) (fun t k => XS.aloadN X1.here hx rfl (hb hby d11_6) rfl rfl k) ?_
  refine own_st (B := T1.setTop (mkF m 8 #[.val (.ref a1), .val (.int (0 : Int32)), .val (.int (1 : Int32)), .val (.ref b1), .unset, .unset] [(.int (0 : Int32)), (.ref b1), (.int (0 : Int32)), (.ref a1)])) (fun t k => XS.iconst X1.here hx rfl (hb hby d11_7) k) ?_
  refine own_st (B := T1.setTop (mkF m 9 #[.val (.ref a1), .val (.int (0 : Int32)), .val (.int (1 : Int32)), .val (.ref b1), .unset, .unset] [(.int (1 : Int32)), (.int (0 : Int32)), (.ref b1), (.int (0 : Int32)), (.ref a1)])) (fun t k => XS.iloadN X1.here hx rfl (hb hby d11_8) rfl k) ?_
  have f3 : own_A Z h1 a1 .char [(.int c0)] := (F0.ext E1)
  obtain ⟨_, _, ⟨T4, L4, k4, j4⟩, -, X4, ⟨Lc4, hQ4, l4, y4_, z4_⟩, st4⟩ := Jvm.LawKit.callS X1 hx (y := (⟨"java/lang/StringUTF16", "compress", "([CI[BII)I"⟩ : MethodName)) hown (mvT hZ (w_67 hw)) (mvT hZ (w_68 hw)) (mvT hZ (w_65 hw)) (mvT hZ (w_69 hw)) (by decide) (backOf (W := 0) (rm12n1 l Z a0 hw [] a1 b1 c0 h1 n0 z2 f3 f1_ q1_a1 u1 hc0_) hZ (w_69 hw) (w_65 hw) (by decide) (by decide)) (g := (mkF m 9 #[.val (.ref a1), .val (.int (0 : Int32)), .val (.int (1 : Int32)), .val (.ref b1), .unset, .unset] [(.int (1 : Int32)), (.int (0 : Int32)), (.ref b1), (.int (0 : Int32)), (.ref a1)])) rfl (by rw [hml]; rfl) (argsL := [(.ref a1), (.int (0 : Int32)), (.ref b1), (.int (0 : Int32)), (.int (1 : Int32))]) (rest := []) (lenOf own_pd2 rfl) rfl (by show 2 * 0 + _ ≤ _; exact Nat.le_of_eq rfl) (hb hby d11_9) (fun _ _ => ⟨rfl, e1, (by decide : 1 + 0 ≤ _), (by decide : 1 + 0 ≤ _)⟩)
  dsimp only [Pt.U, Pt.locs, Pt.cells, Pt.slots] at X4 l4 y4_ z4_ st4 hQ4
  subst l4 y4_ z4_
  obtain ⟨rfl, N4q, K4, p4_0⟩ := hQ4
  have N4 := Fr.app N0 N4q
  have z5 : n0 ≤ T4.heap.size := Nat.le_trans z2 K4.1
  have kp5 : Keep h0 T4.heap [] := kp2.trans K4 (allS (Or.inr y1) all0)
  refine own_st (B := T4.setTop (mkF m 12 #[.val (.ref a1), .val (.int (0 : Int32)), .val (.int (1 : Int32)), .val (.ref b1), .unset, .unset] [(.int (1 : Int32))])) (fun t k => st4 t k) ?_
  refine own_st (B := T4.setTop (mkF m 14 #[.val (.ref a1), .val (.int (0 : Int32)), .val (.int (1 : Int32)), .val (.ref b1), .val (.int (1 : Int32)), .unset] [])) (fun t k => XS.istore X4.here hx rfl (hb hby d11_12) rfl (l' := #[.val (.ref a1), .val (.int (0 : Int32)), .val (.int (1 : Int32)), .val (.ref b1), .val (.int (1 : Int32)), .unset]) rfl k) ?_
  refine own_st (B := T4.setTop (mkF m 16 #[.val (.ref a1), .val (.int (0 : Int32)), .val (.int (1 : Int32)), .val (.ref b1), .val (.int (1 : Int32)), .unset] [(.int (1 : Int32))])) (fun t k => XS.iload X4.here hx rfl (hb hby d11_14) rfl k) ?_
  refine own_st (B := T4.setTop (mkF m 17 #[.val (.ref a1), .val (.int (0 : Int32)), .val (.int (1 : Int32)), .val (.ref b1), .val (.int (1 : Int32)), .unset] [(.int (1 : Int32)), (.int (1 : Int32))])) (fun t k => XS.iloadN X4.here hx rfl (hb hby d11_16) rfl k) ?_
  refine own_st (B := T4.setTop (mkF m 57 #[.val (.ref a1), .val (.int (0 : Int32)), .val (.int (1 : Int32)), .val (.ref b1), .val (.int (1 : Int32)), .unset] [])) (fun t k => XS.icmpYes X4.here hx rfl (pc0 := 17) (pc' := 57) rfl (hb hby d11_17) rfl (by decide) (by decide) (by decide) k) ?_
  refine own_st (B := T4.setTop (mkF m 58 #[.val (.ref a1), .val (.int (0 : Int32)), .val (.int (1 : Int32)), .val (.ref b1), .val (.int (1 : Int32)), .unset] [(.ref b1)])) (fun t k => XS.aloadN X4.here hx rfl (hb hby d11_57) rfl rfl k) ?_
  refine own_retR X4 hx hlk (t := (.array .byte)) Bd.returns rfl rfl rfl (hb hby d11_58) (by decide) (by decide) ?_
  show Q11n1 Z a1 c0 h0 n0 _ T4.heap _
  exact ⟨b1, rfl, N4, kp5, u1, y1, p4_0⟩
theorem d13_0 : decode jdk_52_method_15_code 0 = .ok (.iload_n 1, 1) := by decide +kernel
theorem d13_1 : decode jdk_52_method_15_code 1 = .ok (.aload_n 0, 1) := by decide +kernel
theorem d13_2 : decode jdk_52_method_15_code 2 = .ok (.arraylength, 1) := by decide +kernel
theorem d13_3 : decode jdk_52_method_15_code 3 = .ok (.isub, 1) := by decide +kernel
theorem d13_4 : decode jdk_52_method_15_code 4 = .ok (.bipush 31, 2) := by decide +kernel
theorem d13_6 : decode jdk_52_method_15_code 6 = .ok (.iushr, 1) := by decide +kernel
theorem d13_7 : decode jdk_52_method_15_code 7 = .ok (.i2b, 1) := by decide +kernel
theorem d13_8 : decode jdk_52_method_15_code 8 = .ok (.ireturn, 1) := by decide +kernel
theorem ef_13n1 (m : MethodId) (x0 : Addr) (x1 : Int32) : entryFrame m #[(.ref x0), (.int x1)] 2 = mkF m 0 #[.val (.ref x0), .val (.int x1)] [] := by first | (simp [entryFrame, mkF, argsToLocals, Value.category]; done) | rfl
def Q13n1 (Z : State) (a1 : Addr) (c0 : Int32) (h0 : Heap) (n0 : Nat) (v : Option Value) (h : Heap) (L : List Loc) : Prop := v = some (.int (0 : Int32)) ∧ Fr n0 L ∧ h = h0
set_option maxHeartbeats 40000000 in
theorem rm13n1 (l : Launch) (Z : State) (a0 : Array Value) (hw : ∀ d ∈ tables_1, d.before a0 Z = true) (ws : List Jvm.Cond) (a1 : Addr) (c0 : Int32) (h0 : Heap) (n0 : Nat) (Z0 : n0 ≤ h0.size) (F0 : own_A Z h0 a1 .byte [(.int ((c0.toInt8.toInt32).toInt8.toInt32))]) :
    MetFree l (⟨"java/lang/StringUTF16", "coderFromArrayLen", "([BI)B"⟩ : MethodName) (head1 (Jvm.Cond.code (⟨"java/lang/StringUTF16", "coderFromArrayLen", "([BI)B"⟩ : MethodName) jdk_52_method_15_code 2 (some .byte) :: ws) ({ frames := 0, cells := 0, slots := 0, locals := 0 } : Room)) (fun a U => a = #[(.ref a1), (.int (1 : Int32))] ∧ Z.Warmed39 U.vm ∧ U.heap = h0) (fun _ _ _ _ _ => True) (fun _ U o U' => ∃ v L, o = .returned v ∧ Q13n1 Z a1 c0 h0 n0 v U'.heap L ∧ FrameEnd U o U' L ({ frames := 0, cells := 0, slots := 0, locals := 0 } : Room).cells ({ frames := 0, cells := 0, slots := 0, locals := 0 } : Room).slots) := by
  refine MetFree.of_bodySF (plainFor_of_name own_pn2) hisR ?_
  intro p e s m args below meth c s₁ Bd hml0 hP hK
  obtain ⟨rfl, hZ, hh⟩ := hP
  have hx := Bd.exec
  have hby := Bd.bytes
  have hml : c.maxLocals = 2 := hml0
  have hlk : meth.locks = false := BodyLoose.notSynchronized Bd
  have hown : s.vm.findClass "java/lang/StringUTF16" = some m.cls := findClass_of_methodNamed Bd.named
  have hnm := (name_of_methodNamed Bd.named Bd.method).1
  have X0 : Stand p l e ({ frames := 0, cells := 0, slots := 0, locals := 0 } : Room) s m #[(.ref a1), (.int (1 : Int32))] below meth c s₁ [] 0 0 := Stand.of_body Bd
  have e0 : s₁.heap = h0 := by rw [← hh, Bd.state]; rfl
  have N0 := Fr.nil n0
  show own_Go p e below s (Q13n1 Z a1 c0 h0 n0) ({ frames := 0, cells := 0, slots := 0, locals := 0 } : Room).cells ({ frames := 0, cells := 0, slots := 0, locals := 0 } : Room).slots _
  refine own_st (B := s₁.setTop (mkF m 0 #[.val (.ref a1), .val (.int (1 : Int32))] [])) (fun t k => castTop (ef_13n1 m (a1) ((1 : Int32))) k) ?_
  refine own_st (B := s₁.setTop (mkF m 1 #[.val (.ref a1), .val (.int (1 : Int32))] [(.int (1 : Int32))])) (fun t k => XS.iloadN X0.here hx rfl (hb hby d13_0) rfl k) ?_
  refine own_st (B := s₁.setTop (mkF m 2 #[.val (.ref a1), .val (.int (1 : Int32))] [(.ref a1), (.int (1 : Int32))])) (fun t k => XS.aloadN X0.here hx rfl (hb hby d13_1) rfl rfl k) ?_
  refine own_st (B := s₁.setTop (mkF m 3 #[.val (.ref a1), .val (.int (1 : Int32))] [(.int (1 : Int32)), (.int (1 : Int32))])) (fun t k => own_len X0 hx hZ e0 F0 (g := (mkF m 2 #[.val (.ref a1), .val (.int (1 : Int32))] [(.ref a1), (.int (1 : Int32))])) (n := (1 : Int32)) (show (1 : Int32).toInt = ((1 : Nat) : Int) from by decide) rfl rfl (hb hby d13_2) k) ?_
  refine own_st (B := s₁.setTop (mkF m 4 #[.val (.ref a1), .val (.int (1 : Int32))] [(.int ((1 : Int32) - (1 : Int32)))])) (fun t k => XS.isub X0.here hx rfl (hb hby d13_3) rfl k) ?_
  refine own_st (B := s₁.setTop (mkF m 6 #[.val (.ref a1), .val (.int (1 : Int32))] [(.int (31 : Int32)), (.int ((1 : Int32) - (1 : Int32)))])) (fun t k => XS.bipush X0.here hx rfl (hb hby d13_4) k) ?_
  refine own_st (B := s₁.setTop (mkF m 7 #[.val (.ref a1), .val (.int (1 : Int32))] [(.int ((((1 : Int32) - (1 : Int32)).toUInt32 >>> ((31 : Int32) &&& 31).toUInt32).toInt32))])) (fun t k => XS.iushr X0.here hx rfl (hb hby d13_6) rfl k) ?_
  refine own_st (B := s₁.setTop (mkF m 8 #[.val (.ref a1), .val (.int (1 : Int32))] [(.int (((((1 : Int32) - (1 : Int32)).toUInt32 >>> ((31 : Int32) &&& 31).toUInt32).toInt32).toInt8.toInt32))])) (fun t k => XS.i2b X0.here hx rfl (hb hby d13_7) rfl k) ?_
  refine own_retN X0 hx hlk (t := .byte) Bd.returns (by simp) (z' := (((((1 : Int32) - (1 : Int32)).toUInt32 >>> ((31 : Int32) &&& 31).toUInt32).toInt32).toInt8.toInt32)) (by decide) (hb hby d13_8) (by decide) (by decide) ?_
  show Q13n1 Z a1 c0 h0 n0 _ s₁.heap _
  rw [e0]
  exact ⟨(congrArg (fun q => some (Value.int q)) (show (((((1 : Int32) - (1 : Int32)).toUInt32 >>> ((31 : Int32) &&& 31).toUInt32).toInt32).toInt8.toInt32) = (0 : Int32) from by decide)), N0, rfl⟩
theorem own_pd3 : parseMethodDescriptor "([CII)[B" = some ⟨[(.array .char), .int, .int], some (.array .byte)⟩ := by decide +kernel
theorem own_pd4 : parseMethodDescriptor "([BI)B" = some ⟨[(.array .byte), .int], some .byte⟩ := by decide +kernel
theorem own_pn3 : plainName "java/lang/String" = true := by first | (simp [plainName, overriddenIn]; done) | decide +kernel
theorem d4_0 : decode jdk_42_method_149_code 0 = .ok (.aload_n 0, 1) := by decide +kernel
theorem d4_1 : decode jdk_42_method_149_code 1 = .ok (.invokespecial 1, 3) := by decide +kernel
theorem d4_4 : decode jdk_42_method_149_code 4 = .ok (.iload_n 3, 1) := by decide +kernel
theorem d4_5 : decode jdk_42_method_149_code 5 = .ok (.ifCond .ne 22, 3) := by decide +kernel
theorem d4_27 : decode jdk_42_method_149_code 27 = .ok (.getstatic 38, 3) := by decide +kernel
theorem d4_30 : decode jdk_42_method_149_code 30 = .ok (.ifCond .eq 28, 3) := by decide +kernel
theorem d4_33 : decode jdk_42_method_149_code 33 = .ok (.aload_n 1, 1) := by decide +kernel
theorem d4_34 : decode jdk_42_method_149_code 34 = .ok (.iload_n 2, 1) := by decide +kernel
theorem d4_35 : decode jdk_42_method_149_code 35 = .ok (.iload_n 3, 1) := by decide +kernel
theorem d4_36 : decode jdk_42_method_149_code 36 = .ok (.invokestatic 177, 3) := by decide +kernel
theorem d4_39 : decode jdk_42_method_149_code 39 = .ok (.astore 5, 2) := by decide +kernel
theorem d4_41 : decode jdk_42_method_149_code 41 = .ok (.aload_n 0, 1) := by decide +kernel
theorem d4_42 : decode jdk_42_method_149_code 42 = .ok (.aload 5, 2) := by decide +kernel
theorem d4_44 : decode jdk_42_method_149_code 44 = .ok (.iload_n 3, 1) := by decide +kernel
theorem d4_45 : decode jdk_42_method_149_code 45 = .ok (.invokestatic 47, 3) := by decide +kernel
theorem d4_48 : decode jdk_42_method_149_code 48 = .ok (.putfield 15, 3) := by decide +kernel
theorem d4_51 : decode jdk_42_method_149_code 51 = .ok (.aload_n 0, 1) := by decide +kernel
theorem d4_52 : decode jdk_42_method_149_code 52 = .ok (.aload 5, 2) := by decide +kernel
theorem d4_54 : decode jdk_42_method_149_code 54 = .ok (.putfield 9, 3) := by decide +kernel
theorem d4_57 : decode jdk_42_method_149_code 57 = .ok (.return_, 1) := by decide +kernel
theorem ef_4n1 (m : MethodId) (x0 : Addr) (x1 : Addr) (x2 : Int32) (x3 : Int32) : entryFrame m #[(.ref x0), (.ref x1), (.int x2), (.int x3), .null] 6 = mkF m 0 #[.val (.ref x0), .val (.ref x1), .val (.int x2), .val (.int x3), .val .null, .unset] [] := by first | (simp [entryFrame, mkF, argsToLocals, Value.category]; done) | rfl
def Q4n1 (Z : State) (a1 : Addr) (a2 : Addr) (cs : Int32) (c0 : Int32) (h0 : Heap) (n0 : Nat) (v : Option Value) (h : Heap) (L : List Loc) : Prop := ∃ (b : Addr), v = none ∧ Fr n0 L ∧ Keep h0 h [a1] ∧ n0 ≤ b ∧ h0.size ≤ b ∧ Exa Z h a1 "java/lang/String" ∧ Fld Z h a1 "java/lang/String" "value" "[B" (.ref b) ∧ Fld Z h a1 "java/lang/String" "coder" "B" (.int (0 : Int32)) ∧ own_A Z h b .byte [(.int ((c0.toInt8.toInt32).toInt8.toInt32))]
set_option maxHeartbeats 40000000 in
theorem rm4n1 (l : Launch) (Z : State) (a0 : Array Value) (hw : ∀ d ∈ tables_1, d.before a0 Z = true) (ws : List Jvm.Cond) (a1 : Addr) (a2 : Addr) (cs : Int32) (c0 : Int32) (h0 : Heap) (n0 : Nat) (Z0 : n0 ≤ h0.size) (F0 : Exa Z h0 a1 "java/lang/String") (F1 : Fld Z h0 a1 "java/lang/String" "value" "[B" .null) (F2 : Fld Z h0 a1 "java/lang/String" "coder" "B" (.int (0 : Int32))) (F3 : own_A Z h0 a2 .char [(.int c0)]) (F4 : Sta Z h0 "java/lang/String" "COMPACT_STRINGS" "Z" (.int cs)) (ga : n0 ≤ a1) (hcs : ¬ (cs = (0 : Int32))) (hc0_ : ¬ ((255 : Int32) < c0)) :
    MetFree l (⟨"java/lang/String", "<init>", "([CIILjava/lang/Void;)V"⟩ : MethodName) (head1 (Jvm.Cond.code (⟨"java/lang/String", "<init>", "([CIILjava/lang/Void;)V"⟩ : MethodName) jdk_42_method_149_code 6 none :: ws) ({ frames := 2, cells := 1, slots := 1, locals := 35 } : Room)) (fun a U => a = #[(.ref a1), (.ref a2), (.int (0 : Int32)), (.int (1 : Int32)), .null] ∧ Z.Warmed39 U.vm ∧ U.heap = h0) (fun _ _ _ _ _ => True) (fun _ U o U' => ∃ v L, o = .returned v ∧ Q4n1 Z a1 a2 cs c0 h0 n0 v U'.heap L ∧ FrameEnd U o U' L ({ frames := 2, cells := 1, slots := 1, locals := 35 } : Room).cells ({ frames := 2, cells := 1, slots := 1, locals := 35 } : Room).slots) := by
  refine MetFree.of_bodySF (plainFor_of_name own_pn3) hisR ?_
  intro p e s m args below meth c s₁ Bd hml0 hP hK
  obtain ⟨rfl, hZ, hh⟩ := hP
  have hx := Bd.exec
  have hby := Bd.bytes
  have hml : c.maxLocals = 6 := hml0
  have hlk : meth.locks = false := BodyLoose.notSynchronized Bd
  have hown : s.vm.findClass "java/lang/String" = some m.cls := findClass_of_methodNamed Bd.named
  have hnm := (name_of_methodNamed Bd.named Bd.method).1
  have X0 : Stand p l e ({ frames := 2, cells := 1, slots := 1, locals := 35 } : Room) s m #[(.ref a1), (.ref a2), (.int (0 : Int32)), (.int (1 : Int32)), .null] below meth c s₁ [] 0 0 := Stand.of_body Bd
  have e0 : s₁.heap = h0 := by rw [← hh, Bd.state]; rfl
  have N0 := Fr.nil n0
  show own_Go p e below s (Q4n1 Z a1 a2 cs c0 h0 n0) ({ frames := 2, cells := 1, slots := 1, locals := 35 } : Room).cells ({ frames := 2, cells := 1, slots := 1, locals := 35 } : Room).slots _
  refine own_st (B := s₁.setTop (mkF m 0 #[.val (.ref a1), .val (.ref a2), .val (.int (0 : Int32)), .val (.int (1 : Int32)), .val .null, .unset] [])) (fun t k => castTop (ef_4n1 m (a1) (a2) ((0 : Int32)) ((1 : Int32))) k) ?_
  refine own_st (B := s₁.setTop (mkF m 1 #[.val (.ref a1), .val (.ref a2), .val (.int (0 : Int32)), .val (.int (1 : Int32)), .val .null, .unset] [(.ref a1)])) (fun t k => XS.aloadN X0.here hx rfl (hb hby d4_0) rfl rfl k) ?_
  obtain ⟨T1, X1, e1, st1⟩ := initO X0 hx hZ hown (w_21 hw) (w_22 hw) (w_23 hw) e0 (g := (mkF m 1 #[.val (.ref a1), .val (.ref a2), .val (.int (0 : Int32)), .val (.int (1 : Int32)), .val .null, .unset] [(.ref a1)])) rfl (by rw [hml]; rfl) rfl (hb hby d4_1) (by decide) (W := 0) (by show 2 * 0 + _ ≤ _; exact Nat.le_of_eq rfl) (by decide)
  refine own_st (B := T1.setTop (mkF m 4 #[.val (.ref a1), .val (.ref a2), .val (.int (0 : Int32)), .val (.int (1 : Int32)), .val .null, .unset] [])) (fun t k => st1 t k) ?_
  refine own_st (B := T1.setTop (mkF m 5 #[.val (.ref a1), .val (.ref a2), .val (.int (0 : Int32)), .val (.int (1 : Int32)), .val .null, .unset] [(.int (1 : Int32))])) (fun t k => XS.iloadN X1.here hx rfl (hb hby d4_4) rfl k) ?_
  refine own_st (B := T1.setTop (mkF m 27 #[.val (.ref a1), .val (.ref a2), .val (.int (0 : Int32)), .val (.int (1 : Int32)), .val .null, .unset] [])) (fun t k => XS.ifYes X1.here hx rfl (pc0 := 5) (pc' := 27) rfl (hb hby d4_5) rfl (by decide) (by decide) (by decide) k) ?_
  obtain ⟨T2, X2, e2, st2⟩ := getS2 X1 hx hZ hown (host := "") (Or.inl (w_56 hw)) Via.refl e1 F4 (g := (mkF m 27 #[.val (.ref a1), .val (.ref a2), .val (.int (0 : Int32)), .val (.int (1 : Int32)), .val .null, .unset] [])) rfl (hb hby d4_27)
  refine own_st (B := T2.setTop (mkF m 30 #[.val (.ref a1), .val (.ref a2), .val (.int (0 : Int32)), .val (.int (1 : Int32)), .val .null, .unset] [(.int cs)])) (fun t k => st2 t k) ?_
  refine own_st (B := T2.setTop (mkF m 33 #[.val (.ref a1), .val (.ref a2), .val (.int (0 : Int32)), .val (.int (1 : Int32)), .val .null, .unset] [])) (fun t k => XS.ifNo X2.here hx rfl (hb hby d4_30) rfl (XT.i0_eq_f hcs) k) ?_
  refine own_st (B := T2.setTop (mkF m 34 #[.val (.ref a1), .val (.ref a2), .val (.int (0 : Int32)), .val (.int (1 : Int32)), .val .null, .unset] [(.ref a2)])) (fun t k => XS.aloadN X2.here hx rfl (hb hby d4_33) rfl rfl k) ?_
  refine own_st (B := T2.setTop (mkF m 35 #[.val (.ref a1), .val (.ref a2), .val (.int (0 : Int32)), .val (.int (1 : Int32)), .val .null, .unset] [(.int (0 : Int32)), (.ref a2)])) (fun t k => XS.iloadN X2.here hx rfl (hb hby d4_34) rfl k) ?_
  refine own_st (B := T2.setTop (mkF m 36 #[.val (.ref a1), .val (.ref a2), .val (.int (0 : Int32)), .val (.int (1 : Int32)), .val .null, .unset] [(.int (1 : Int32)), (.int (0 : Int32)), (.ref a2)])) (fun t k => XS.iloadN X2.here hx rfl (hb hby d4_35) rfl k) ?_
  obtain ⟨_, _, ⟨T3, L3, k3, j3⟩, -, X3, ⟨Lc3, hQ3, l3, y3_, z3_⟩, st3⟩ := Jvm.LawKit.callS X2 hx (y := (⟨"java/lang/StringUTF16", "compress", "([CII)[B"⟩ : MethodName)) hown (mvT hZ (w_63 hw)) (mvT hZ (w_64 hw)) (mvT hZ (w_65 hw)) (mvT hZ (w_66 hw)) (by decide) (backOf (W := 0) (rm11n1 l Z a0 hw [] a2 c0 h0 n0 Z0 F3 hc0_) hZ (w_66 hw) (w_65 hw) (by decide) (by decide)) (g := (mkF m 36 #[.val (.ref a1), .val (.ref a2), .val (.int (0 : Int32)), .val (.int (1 : Int32)), .val .null, .unset] [(.int (1 : Int32)), (.int (0 : Int32)), (.ref a2)])) rfl (by rw [hml]; rfl) (argsL := [(.ref a2), (.int (0 : Int32)), (.int (1 : Int32))]) (rest := []) (lenOf own_pd3 rfl) rfl (by show 2 * 0 + _ ≤ _; exact Nat.le_of_eq rfl) (hb hby d4_36) (fun _ _ => ⟨rfl, e2, (by decide : 0 + 1 ≤ _), (by decide : 0 + 1 ≤ _)⟩)
  dsimp only [Pt.U, Pt.locs, Pt.cells, Pt.slots] at X3 l3 y3_ z3_ st3 hQ3
  subst l3 y3_ z3_
  obtain ⟨b_3, rfl, N3q, K3, u3_b, y3_b, p3_0⟩ := hQ3
  have N3 := Fr.app N0 N3q
  have q3_b_a1 : a1 ≠ b_3 := Nat.ne_of_lt (Nat.lt_of_lt_of_le F0.lt y3_b)
  have q3_b_a2 : a2 ≠ b_3 := Nat.ne_of_lt (Nat.lt_of_lt_of_le F3.lt y3_b)
  have y4 : h0.size ≤ b_3 := Nat.le_trans (Keep.refl h0 [a1]).1 y3_b
  have z5 : n0 ≤ T3.heap.size := Nat.le_trans Z0 K3.1
  have kp5 : Keep h0 T3.heap [a1] := (Keep.refl h0 [a1]).trans K3 all0
  refine own_st (B := T3.setTop (mkF m 39 #[.val (.ref a1), .val (.ref a2), .val (.int (0 : Int32)), .val (.int (1 : Int32)), .val .null, .unset] [(.ref b_3)])) (fun t k => st3 t k) ?_
  refine own_st (B := T3.setTop (mkF m 41 #[.val (.ref a1), .val (.ref a2), .val (.int (0 : Int32)), .val (.int (1 : Int32)), .val .null, .val (.ref b_3)] [])) (fun t k => XS.astore X3.here hx rfl (hb hby d4_39) rfl rfl (l' := #[.val (.ref a1), .val (.ref a2), .val (.int (0 : Int32)), .val (.int (1 : Int32)), .val .null, .val (.ref b_3)]) rfl k) ?_
  refine own_st (B := T3.setTop (mkF m 42 #[.val (.ref a1), .val (.ref a2), .val (.int (0 : Int32)), .val (.int (1 : Int32)), .val .null, .val (.ref b_3)] [(.ref a1)])) (fun t k => XS.aloadN X3.here hx rfl (hb hby d4_41) rfl rfl k) ?_
  refine own_st (B := T3.setTop (mkF m 44 #[.val (.ref a1), .val (.ref a2), .val (.int (0 : Int32)), .val (.int (1 : Int32)), .val .null, .val (.ref b_3)] [(.ref b_3), (.ref a1)])) (fun t k => XS.aload X3.here hx rfl (hb hby d4_42) rfl rfl k) ?_
  refine own_st (B := T3.setTop (mkF m 45 #[.val (.ref a1), .val (.ref a2), .val (.int (0 : Int32)), .val (.int (1 : Int32)), .val .null, .val (.ref b_3)] [(.int (1 : Int32)), (.ref b_3), (.ref a1)])) (fun t k => XS.iloadN X3.here hx rfl (hb hby d4_44) rfl k) ?_
  obtain ⟨_, _, ⟨T6, L6, k6, j6⟩, -, X6, ⟨Lc6, hQ6, l6, y6_, z6_⟩, st6⟩ := Jvm.LawKit.callS X3 hx (y := (⟨"java/lang/StringUTF16", "coderFromArrayLen", "([BI)B"⟩ : MethodName)) hown (mvT hZ (w_70 hw)) (mvT hZ (w_71 hw)) (mvT hZ (w_65 hw)) (mvT hZ (w_72 hw)) (by decide) (backOf (W := 1) (rm13n1 l Z a0 hw [] b_3 c0 T3.heap n0 z5 p3_0) hZ (w_72 hw) (w_65 hw) (by decide) (by decide)) (g := (mkF m 45 #[.val (.ref a1), .val (.ref a2), .val (.int (0 : Int32)), .val (.int (1 : Int32)), .val .null, .val (.ref b_3)] [(.int (1 : Int32)), (.ref b_3), (.ref a1)])) rfl (by rw [hml]; rfl) (argsL := [(.ref b_3), (.int (1 : Int32))]) (rest := [(.ref a1)]) (lenOf own_pd4 rfl) rfl (by show 2 * 0 + _ ≤ _; exact Nat.le_of_eq rfl) (hb hby d4_45) (fun _ _ => ⟨rfl, rfl, (by decide : 1 + 0 ≤ _), (by decide : 1 + 0 ≤ _)⟩)
  dsimp only [Pt.U, Pt.locs, Pt.cells, Pt.slots] at X6 l6 y6_ z6_ st6 hQ6
  subst l6 y6_ z6_
  obtain ⟨rfl, N6q, e6q⟩ := hQ6
  have N6 := Fr.app N3 N6q
  refine own_st (B := T6.setTop (mkF m 48 #[.val (.ref a1), .val (.ref a2), .val (.int (0 : Int32)), .val (.int (1 : Int32)), .val .null, .val (.ref b_3)] [(.int (0 : Int32)), (.ref a1)])) (fun t k => st6 t k) ?_
  have f7 : Exa Z T3.heap a1 "java/lang/String" := (F0.keep K3)
  have f8 : Fld Z T3.heap a1 "java/lang/String" "coder" "B" (.int (0 : Int32)) := (F2.keep K3 nin0)
  obtain ⟨T9, h9, X9, e9, W9, st9⟩ := putFN X6 hx hZ hown (w_31 hw) Via.refl e6q f8 f7 (Or.inr ⟨(w_27 hw), rfl, hnm⟩) (w_11 hw) (ty := .byte) (v' := .int (nar .byte (0 : Int32))) (by decide) rfl (fits_nar_byte _) (g := (mkF m 48 #[.val (.ref a1), .val (.ref a2), .val (.int (0 : Int32)), .val (.int (1 : Int32)), .val .null, .val (.ref b_3)] [(.int (0 : Int32)), (.ref a1)])) rfl rfl (hb hby d4_48)
  have f9_ : Fld Z h9 a1 "java/lang/String" "coder" "B" (.int (nar .byte (0 : Int32))) := f8.same W9
  have z10 : n0 ≤ h9.size := Nat.le_trans z5 (Keep.of_wr W9).1
  have kp10 : Keep h0 h9 [a1] := kp5.wr W9 (Or.inl (List.mem_of_getElem? (i := 0) rfl))
  have n11 := Fr.snoc X9 N6 ga
  refine own_st (B := T9.setTop (mkF m 51 #[.val (.ref a1), .val (.ref a2), .val (.int (0 : Int32)), .val (.int (1 : Int32)), .val .null, .val (.ref b_3)] [])) (fun t k => st9 t k) ?_
  have f12 : Fld Z h9 a1 "java/lang/String" "coder" "B" (.int (0 : Int32)) := by have q : nar .byte (0 : Int32) = (0 : Int32) := (by decide); rw [q] at f9_; exact f9_
  refine own_st (B := T9.setTop (mkF m 52 #[.val (.ref a1), .val (.ref a2), .val (.int (0 : Int32)), .val (.int (1 : Int32)), .val .null, .val (.ref b_3)] [(.ref a1)])) (fun t k => XS.aloadN X9.here hx rfl (hb hby d4_51) rfl rfl k) ?_
  refine own_st (B := T9.setTop (mkF m 54 #[.val (.ref a1), .val (.ref a2), .val (.int (0 : Int32)), .val (.int (1 : Int32)), .val .null, .val (.ref b_3)] [(.ref b_3), (.ref a1)])) (fun t k => XS.aload X9.here hx rfl (hb hby d4_52) rfl rfl k) ?_
  have f13 : Exa Z h9 a1 "java/lang/String" := (f7.wr W9)
  have f14 : Fld Z h9 a1 "java/lang/String" "value" "[B" .null := ((F1.keep K3 nin0).other W9 (Or.inr (slot_ne (Or.inr (w_26 hw)) (Or.inr (w_27 hw)) (by decide) (t := (.array .byte)) (t' := .byte) (by decide) (by decide))))
  obtain ⟨T15, h15, X15, e15, W15, st15⟩ := putF X9 hx hZ hown (host := "") (Or.inl (w_30 hw)) Via.refl e9 f14 f13 (Or.inr ⟨(w_26 hw), rfl, hnm⟩) (w_11 hw) (ty := (.array .byte)) (by decide) rfl rfl (g := (mkF m 54 #[.val (.ref a1), .val (.ref a2), .val (.int (0 : Int32)), .val (.int (1 : Int32)), .val .null, .val (.ref b_3)] [(.ref b_3), (.ref a1)])) rfl rfl (hb hby d4_54)
  have f15_ : Fld Z h15 a1 "java/lang/String" "value" "[B" (.ref b_3) := f14.same W15
  have z16 : n0 ≤ h15.size := Nat.le_trans z10 (Keep.of_wr W15).1
  have kp16 : Keep h0 h15 [a1] := kp10.wr W15 (Or.inl (List.mem_of_getElem? (i := 0) rfl))
  have n17 := Fr.snoc X15 n11 ga
  refine own_st (B := T15.setTop (mkF m 57 #[.val (.ref a1), .val (.ref a2), .val (.int (0 : Int32)), .val (.int (1 : Int32)), .val .null, .val (.ref b_3)] [])) (fun t k => st15 t k) ?_
  refine own_retV X15 hx hlk Bd.returns (hb hby d4_57) (by decide) (by decide) ?_
  show Q4n1 Z a1 a2 cs c0 h0 n0 _ T15.heap _
  rw [e15]
  have f18 : Exa Z h15 a1 "java/lang/String" := (f13.wr W15)
  have f19 : Fld Z h15 a1 "java/lang/String" "coder" "B" (.int (0 : Int32)) := (f12.other W15 (Or.inr (slot_ne (Or.inr (w_27 hw)) (Or.inr (w_26 hw)) (by decide) (t := .byte) (t' := (.array .byte)) (by decide) (by decide))))
  have f20 : own_A Z h15 b_3 .byte [(.int ((c0.toInt8.toInt32).toInt8.toInt32))] := ((p3_0.other W9 (Ne.symm q3_b_a1)).other W15 (Ne.symm q3_b_a1))
  exact ⟨b_3, rfl, n17, kp16, u3_b, y4, f18, f15_, f19, f20⟩
theorem own_pd6 : parseMethodDescriptor "([CIILjava/lang/Void;)V" = some ⟨[(.array .char), .int, .int, (.object "java/lang/Void")], none⟩ := by decide +kernel
theorem d3_0 : decode jdk_42_method_3_code 0 = .ok (.aload_n 0, 1) := by decide +kernel
theorem d3_1 : decode jdk_42_method_3_code 1 = .ok (.aload_n 1, 1) := by decide +kernel
theorem d3_2 : decode jdk_42_method_3_code 2 = .ok (.iconst 0, 1) := by decide +kernel
theorem d3_3 : decode jdk_42_method_3_code 3 = .ok (.aload_n 1, 1) := by decide +kernel
theorem d3_4 : decode jdk_42_method_3_code 4 = .ok (.arraylength, 1) := by decide +kernel
theorem d3_5 : decode jdk_42_method_3_code 5 = .ok (.aconst_null, 1) := by decide +kernel
theorem d3_6 : decode jdk_42_method_3_code 6 = .ok (.invokespecial 27, 3) := by decide +kernel
theorem d3_9 : decode jdk_42_method_3_code 9 = .ok (.return_, 1) := by decide +kernel
theorem ef_3n1 (m : MethodId) (x0 : Addr) (x1 : Addr) : entryFrame m #[(.ref x0), (.ref x1)] 2 = mkF m 0 #[.val (.ref x0), .val (.ref x1)] [] := by first | (simp [entryFrame, mkF, argsToLocals, Value.category]; done) | rfl
def Q3n1 (Z : State) (a1 : Addr) (a2 : Addr) (cs : Int32) (c0 : Int32) (h0 : Heap) (n0 : Nat) (v : Option Value) (h : Heap) (L : List Loc) : Prop := ∃ (b : Addr), v = none ∧ Fr n0 L ∧ Keep h0 h [a1] ∧ n0 ≤ b ∧ h0.size ≤ b ∧ Exa Z h a1 "java/lang/String" ∧ Fld Z h a1 "java/lang/String" "value" "[B" (.ref b) ∧ Fld Z h a1 "java/lang/String" "coder" "B" (.int (0 : Int32)) ∧ own_A Z h b .byte [(.int ((c0.toInt8.toInt32).toInt8.toInt32))]
set_option maxHeartbeats 40000000 in
theorem rm3n1 (l : Launch) (Z : State) (a0 : Array Value) (hw : ∀ d ∈ tables_1, d.before a0 Z = true) (ws : List Jvm.Cond) (a1 : Addr) (a2 : Addr) (cs : Int32) (c0 : Int32) (h0 : Heap) (n0 : Nat) (Z0 : n0 ≤ h0.size) (F0 : Exa Z h0 a1 "java/lang/String") (F1 : Fld Z h0 a1 "java/lang/String" "value" "[B" .null) (F2 : Fld Z h0 a1 "java/lang/String" "coder" "B" (.int (0 : Int32))) (F3 : own_A Z h0 a2 .char [(.int c0)]) (F4 : Sta Z h0 "java/lang/String" "COMPACT_STRINGS" "Z" (.int cs)) (ga : n0 ≤ a1) (hcs : ¬ (cs = (0 : Int32))) (hc0_ : ¬ ((255 : Int32) < c0)) :
    MetFree l (⟨"java/lang/String", "<init>", "([C)V"⟩ : MethodName) (head1 (Jvm.Cond.code (⟨"java/lang/String", "<init>", "([C)V"⟩ : MethodName) jdk_42_method_3_code 2 none :: ws) ({ frames := 3, cells := 1, slots := 1, locals := 52 } : Room)) (fun a U => a = #[(.ref a1), (.ref a2)] ∧ Z.Warmed39 U.vm ∧ U.heap = h0) (fun _ _ _ _ _ => True) (fun _ U o U' => ∃ v L, o = .returned v ∧ Q3n1 Z a1 a2 cs c0 h0 n0 v U'.heap L ∧ FrameEnd U o U' L ({ frames := 3, cells := 1, slots := 1, locals := 52 } : Room).cells ({ frames := 3, cells := 1, slots := 1, locals := 52 } : Room).slots) := by
  refine MetFree.of_bodySF (plainFor_of_name own_pn3) hisR ?_
  intro p e s m args below meth c s₁ Bd hml0 hP hK
  obtain ⟨rfl, hZ, hh⟩ := hP
  have hx := Bd.exec
  have hby := Bd.bytes
  have hml : c.maxLocals = 2 := hml0
  have hlk : meth.locks = false := BodyLoose.notSynchronized Bd
  have hown : s.vm.findClass "java/lang/String" = some m.cls := findClass_of_methodNamed Bd.named
  have hnm := (name_of_methodNamed Bd.named Bd.method).1
  have X0 : Stand p l e ({ frames := 3, cells := 1, slots := 1, locals := 52 } : Room) s m #[(.ref a1), (.ref a2)] below meth c s₁ [] 0 0 := Stand.of_body Bd
  have e0 : s₁.heap = h0 := by rw [← hh, Bd.state]; rfl
  have N0 := Fr.nil n0
  show own_Go p e below s (Q3n1 Z a1 a2 cs c0 h0 n0) ({ frames := 3, cells := 1, slots := 1, locals := 52 } : Room).cells ({ frames := 3, cells := 1, slots := 1, locals := 52 } : Room).slots _
  refine own_st (B := s₁.setTop (mkF m 0 #[.val (.ref a1), .val (.ref a2)] [])) (fun t k => castTop (ef_3n1 m (a1) (a2)) k) ?_
  refine own_st (B := s₁.setTop (mkF m 1 #[.val (.ref a1), .val (.ref a2)] [(.ref a1)])) (fun t k => XS.aloadN X0.here hx rfl (hb hby d3_0) rfl rfl k) ?_
  refine own_st (B := s₁.setTop (mkF m 2 #[.val (.ref a1), .val (.ref a2)] [(.ref a2), (.ref a1)])) (fun t k => XS.aloadN X0.here hx rfl (hb hby d3_1) rfl rfl k) ?_
  refine own_st (B := s₁.setTop (mkF m 3 #[.val (.ref a1), .val (.ref a2)] [(.int (0 : Int32)), (.ref a2), (.ref a1)])) (fun t k => XS.iconst X0.here hx rfl (hb hby d3_2) k) ?_
  refine own_st (B := s₁.setTop (mkF m 4 #[.val (.ref a1), .val (.ref a2)] [(.ref a2), (.int (0 : Int32)), (.ref a2), (.ref a1)])) (fun t k => XS.aloadN X0.here hx rfl (hb hby d3_3) rfl rfl k) ?_
  refine own_st (B := s₁.setTop (mkF m 5 #[.val (.ref a1), .val (.ref a2)] [(.int (1 : Int32)), (.int (0 : Int32)), (.ref a2), (.ref a1)])) (fun t k => own_len X0 hx hZ e0 F3 (g := (mkF m 4 #[.val (.ref a1), .val (.ref a2)] [(.ref a2), (.int (0 : Int32)), (.ref a2), (.ref a1)])) (n := (1 : Int32)) (show (1 : Int32).toInt = ((1 : Nat) : Int) from by decide) rfl rfl (hb hby d3_4) k) ?_
  refine own_st (B := s₁.setTop (mkF m 6 #[.val (.ref a1), .val (.ref a2)] [.null, (.int (1 : Int32)), (.int (0 : Int32)), (.ref a2), (.ref a1)])) (fun t k => XS.aconstNull X0.here hx rfl (hb hby d3_5) k) ?_
  obtain ⟨_, _, ⟨T1, L1, k1, j1⟩, -, X1, ⟨Lc1, hQ1, l1, y1_, z1_⟩, st1⟩ := X0.specialBack hx (y := (⟨"java/lang/String", "<init>", "([CIILjava/lang/Void;)V"⟩ : MethodName)) rfl hown (mvT hZ (w_17 hw)) (mvT hZ (w_18 hw)) (mvT hZ (w_20 hw)) (by decide) (backOf (W := 0) (rm4n1 l Z a0 hw [] a1 a2 cs c0 h0 n0 Z0 F0 F1 F2 F3 F4 ga hcs hc0_) hZ (w_20 hw) (w_12 hw) (by decide) (by decide)) (g := (mkF m 6 #[.val (.ref a1), .val (.ref a2)] [.null, (.int (1 : Int32)), (.int (0 : Int32)), (.ref a2), (.ref a1)])) rfl (by rw [hml]; rfl) (Steps.refl _) (a := a1) (argsL := [(.ref a2), (.int (0 : Int32)), (.int (1 : Int32)), .null]) (rest := []) (lenOf own_pd6 rfl) rfl (by show 2 * 0 + _ ≤ _; exact Nat.le_of_eq rfl) (hb hby d3_6) (fun _ _ => ⟨rfl, e0, (by decide : 0 + 1 ≤ _), (by decide : 0 + 1 ≤ _)⟩)
  dsimp only [Pt.U, Pt.locs, Pt.cells, Pt.slots] at X1 l1 y1_ z1_ st1 hQ1
  subst l1 y1_ z1_
  obtain ⟨b_1, rfl, N1q, K1, u1_b, y1_b, p1_0, p1_1, p1_2, p1_3⟩ := hQ1
  have N1 := Fr.app N0 N1q
  have q1_b_a1 : a1 ≠ b_1 := Nat.ne_of_lt (Nat.lt_of_lt_of_le F0.lt y1_b)
  have q1_b_a2 : a2 ≠ b_1 := Nat.ne_of_lt (Nat.lt_of_lt_of_le F3.lt y1_b)
  have y2 : h0.size ≤ b_1 := Nat.le_trans (Keep.refl h0 [a1]).1 y1_b
  have z3 : n0 ≤ T1.heap.size := Nat.le_trans Z0 K1.1
  have kp3 : Keep h0 T1.heap [a1] := (Keep.refl h0 [a1]).trans K1 (allS (Or.inl (List.mem_of_getElem? (i := 0) rfl)) all0)
  refine own_ss (B := T1.setTop (mkF m 9 #[.val (.ref a1), .val (.ref a2)] [])) st1 ?_
  refine own_retV X1 hx hlk Bd.returns (hb hby d3_9) (by decide) (by decide) ?_
  show Q3n1 Z a1 a2 cs c0 h0 n0 _ T1.heap _
  exact ⟨b_1, rfl, N1, kp3, u1_b, y2, p1_0, p1_1, p1_2, p1_3⟩
theorem ef_12n2 (m : MethodId) (x0 : Addr) (x1 : Int32) (x2 : Addr) (x3 : Int32) (x4 : Int32) : entryFrame m #[(.ref x0), (.int x1), (.ref x2), (.int x3), (.int x4)] 7 = mkF m 0 #[.val (.ref x0), .val (.int x1), .val (.ref x2), .val (.int x3), .val (.int x4), .unset, .unset] [] := by first | (simp [entryFrame, mkF, argsToLocals, Value.category]; done) | rfl
def Q12n2 (Z : State) (a1 : Addr) (a2 : Addr) (c0 : Int32) (c1 : Int32) (h0 : Heap) (n0 : Nat) (v : Option Value) (h : Heap) (L : List Loc) : Prop := v = some (.int (2 : Int32)) ∧ Fr n0 L ∧ Keep h0 h [a2] ∧ own_A Z h a2 .byte [(.int ((c0.toInt8.toInt32).toInt8.toInt32)), (.int ((c1.toInt8.toInt32).toInt8.toInt32))]
set_option maxHeartbeats 40000000 in
theorem rm12n2 (l : Launch) (Z : State) (a0 : Array Value) (hw : ∀ d ∈ tables_1, d.before a0 Z = true) (ws : List Jvm.Cond) (a1 : Addr) (a2 : Addr) (c0 : Int32) (c1 : Int32) (h0 : Heap) (n0 : Nat) (Z0 : n0 ≤ h0.size) (F0 : own_A Z h0 a1 .char [(.int c0), (.int c1)]) (F1 : own_A Z h0 a2 .byte [(.int (0 : Int32)), (.int (0 : Int32))]) (na : a1 ≠ a2) (ga : n0 ≤ a2) (hc0_ : ¬ ((255 : Int32) < c0)) (hc1_ : ¬ ((255 : Int32) < c1)) :
    MetFree l (⟨"java/lang/StringUTF16", "compress", "([CI[BII)I"⟩ : MethodName) (head1 (Jvm.Cond.code (⟨"java/lang/StringUTF16", "compress", "([CI[BII)I"⟩ : MethodName) jdk_52_method_21_code 7 (some .int) :: ws) ({ frames := 0, cells := 0, slots := 0, locals := 0 } : Room)) (fun a U => a = #[(.ref a1), (.int (0 : Int32)), (.ref a2), (.int (0 : Int32)), (.int (2 : Int32))] ∧ Z.Warmed39 U.vm ∧ U.heap = h0) (fun _ _ _ _ _ => True) (fun _ U o U' => ∃ v L, o = .returned v ∧ Q12n2 Z a1 a2 c0 c1 h0 n0 v U'.heap L ∧ FrameEnd U o U' L ({ frames := 0, cells := 0, slots := 0, locals := 0 } : Room).cells ({ frames := 0, cells := 0, slots := 0, locals := 0 } : Room).slots) := by
  refine MetFree.of_bodySF (plainFor_of_name own_pn2) hisR ?_
  intro p e s m args below meth c s₁ Bd hml0 hP hK
  obtain ⟨rfl, hZ, hh⟩ := hP
  have hx := Bd.exec
  have hby := Bd.bytes
  have hml : c.maxLocals = 7 := hml0
  have hlk : meth.locks = false := BodyLoose.notSynchronized Bd
  have hown : s.vm.findClass "java/lang/StringUTF16" = some m.cls := findClass_of_methodNamed Bd.named
  have hnm := (name_of_methodNamed Bd.named Bd.method).1
  have X0 : Stand p l e ({ frames := 0, cells := 0, slots := 0, locals := 0 } : Room) s m #[(.ref a1), (.int (0 : Int32)), (.ref a2), (.int (0 : Int32)), (.int (2 : Int32))] below meth c s₁ [] 0 0 := Stand.of_body Bd
  have e0 : s₁.heap = h0 := by rw [← hh, Bd.state]; rfl
  have N0 := Fr.nil n0
  show own_Go p e below s (Q12n2 Z a1 a2 c0 c1 h0 n0) ({ frames := 0, cells := 0, slots := 0, locals := 0 } : Room).cells ({ frames := 0, cells := 0, slots := 0, locals := 0 } : Room).slots _
  refine own_st (B := s₁.setTop (mkF m 0 #[.val (.ref a1), .val (.int (0 : Int32)), .val (.ref a2), .val (.int (0 : Int32)), .val (.int (2 : Int32)), .unset, .unset] [])) (fun t k => castTop (ef_12n2 m (a1) ((0 : Int32)) (a2) ((0 : Int32)) ((2 : Int32))) k) ?_
  refine own_st (B := s₁.setTop (mkF m 1 #[.val (.ref a1), .val (.int (0 : Int32)), .val (.ref a2), .val (.int (0 : Int32)), .val (.int (2 : Int32)), .unset, .unset] [(.int (0 : Int32))])) (fun t k => XS.iconst X0.here hx rfl (hb hby d12_0) k) ?_
  refine own_st (B := s₁.setTop (mkF m 3 #[.val (.ref a1), .val (.int (0 : Int32)), .val (.ref a2), .val (.int (0 : Int32)), .val (.int (2 : Int32)), .val (.int (0 : Int32)), .unset] [])) (fun t k => XS.istore X0.here hx rfl (hb hby d12_1) rfl (l' := #[.val (.ref a1), .val (.int (0 : Int32)), .val (.ref a2), .val (.int (0 : Int32)), .val (.int (2 : Int32)), .val (.int (0 : Int32)), .unset]) rfl k) ?_
  refine own_st (B := s₁.setTop (mkF m 5 #[.val (.ref a1), .val (.int (0 : Int32)), .val (.ref a2), .val (.int (0 : Int32)), .val (.int (2 : Int32)), .val (.int (0 : Int32)), .unset] [(.int (0 : Int32))])) (fun t k => XS.iload X0.here hx rfl (hb hby d12_3) rfl k) ?_
  refine own_st (B := s₁.setTop (mkF m 7 #[.val (.ref a1), .val (.int (0 : Int32)), .val (.ref a2), .val (.int (0 : Int32)), .val (.int (2 : Int32)), .val (.int (0 : Int32)), .unset] [(.int (2 : Int32)), (.int (0 : Int32))])) (fun t k => XS.iload X0.here hx rfl (hb hby d12_5) rfl k) ?_
  refine own_st (B := s₁.setTop (mkF m 10 #[.val (.ref a1), .val (.int (0 : Int32)), .val (.ref a2), .val (.int (0 : Int32)), .val (.int (2 : Int32)), .val (.int (0 : Int32)), .unset] [])) (fun t k => XS.icmpNo X0.here hx rfl (hb hby d12_7) rfl (by decide) k) ?_
  refine own_st (B := s₁.setTop (mkF m 11 #[.val (.ref a1), .val (.int (0 : Int32)), .val (.ref a2), .val (.int (0 : Int32)), .val (.int (2 : Int32)), .val (.int (0 : Int32)), .unset] [(.ref a1)])) (fun t k => XS.aloadN X0.here hx rfl (hb hby d12_10) rfl rfl k) ?_
  refine own_st (B := s₁.setTop (mkF m 12 #[.val (.ref a1), .val (.int (0 : Int32)), .val (.ref a2), .val (.int (0 : Int32)), .val (.int (2 : Int32)), .val (.int (0 : Int32)), .unset] [(.int (0 : Int32)), (.ref a1)])) (fun t k => XS.iloadN X0.here hx rfl (hb hby d12_11) rfl k) ?_
  refine own_st (B := s₁.setTop (mkF m 13 #[.val (.ref a1), .val (.int (0 : Int32)), .val (.ref a2), .val (.int (0 : Int32)), .val (.int (2 : Int32)), .val (.int (0 : Int32)), .unset] [(.int c0)])) (fun t k => own_ldC X0 hx hZ e0 F0 (g := (mkF m 12 #[.val (.ref a1), .val (.int (0 : Int32)), .val (.ref a2), .val (.int (0 : Int32)), .val (.int (2 : Int32)), .val (.int (0 : Int32)), .unset] [(.int (0 : Int32)), (.ref a1)])) (i := 0) (by decide) rfl rfl rfl (hb hby d12_12) k) ?_
  refine own_st (B := s₁.setTop (mkF m 15 #[.val (.ref a1), .val (.int (0 : Int32)), .val (.ref a2), .val (.int (0 : Int32)), .val (.int (2 : Int32)), .val (.int (0 : Int32)), .val (.int c0)] [])) (fun t k => XS.istore X0.here hx rfl (hb hby d12_13) rfl (l' := #[.val (.ref a1), .val (.int (0 : Int32)), .val (.ref a2), .val (.int (0 : Int32)), .val (.int (2 : Int32)), .val (.int (0 : Int32)), .val (.int c0)]) rfl k) ?_
  refine own_st (B := s₁.setTop (mkF m 17 #[.val (.ref a1), .val (.int (0 : Int32)), .val (.ref a2), .val (.int (0 : Int32)), .val (.int (2 : Int32)), .val (.int (0 : Int32)), .val (.int c0)] [(.int c0)])) (fun t k => XS.iload X0.here hx rfl (hb hby d12_15) rfl k) ?_
  refine own_st (B := s₁.setTop (mkF m 20 #[.val (.ref a1), .val (.int (0 : Int32)), .val (.ref a2), .val (.int (0 : Int32)), .val (.int (2 : Int32)), .val (.int (0 : Int32)), .val (.int c0)] [(.int (255 : Int32)), (.int c0)])) (fun t k => XS.sipush X0.here hx rfl (hb hby d12_17) k) ?_
  refine own_st (B := s₁.setTop (mkF m 26 #[.val (.ref a1), .val (.int (0 : Int32)), .val (.ref a2), .val (.int (0 : Int32)), .val (.int (2 : Int32)), .val (.int (0 : Int32)), .val (.int c0)] [])) (fun t k => XS.icmpYes X0.here hx rfl (pc0 := 20) (pc' := 26) rfl (hb hby d12_20) rfl (XT.ii_le_t hc0_) (by decide) (by decide) k) ?_
  refine own_st (B := s₁.setTop (mkF m 27 #[.val (.ref a1), .val (.int (0 : Int32)), .val (.ref a2), .val (.int (0 : Int32)), .val (.int (2 : Int32)), .val (.int (0 : Int32)), .val (.int c0)] [(.ref a2)])) (fun t k => XS.aloadN X0.here hx rfl (hb hby d12_26) rfl rfl k) ?_
  refine own_st (B := s₁.setTop (mkF m 28 #[.val (.ref a1), .val (.int (0 : Int32)), .val (.ref a2), .val (.int (0 : Int32)), .val (.int (2 : Int32)), .val (.int (0 : Int32)), .val (.int c0)] [(.int (0 : Int32)), (.ref a2)])) (fun t k => XS.iloadN X0.here hx rfl (hb hby d12_27) rfl k) ?_
  refine own_st (B := s₁.setTop (mkF m 30 #[.val (.ref a1), .val (.int (0 : Int32)), .val (.ref a2), .val (.int (0 : Int32)), .val (.int (2 : Int32)), .val (.int (0 : Int32)), .val (.int c0)] [(.int c0), (.int (0 : Int32)), (.ref a2)])) (fun t k => XS.iload X0.here hx rfl (hb hby d12_28) rfl k) ?_
  refine own_st (B := s₁.setTop (mkF m 31 #[.val (.ref a1), .val (.int (0 : Int32)), .val (.ref a2), .val (.int (0 : Int32)), .val (.int (2 : Int32)), .val (.int (0 : Int32)), .val (.int c0)] [(.int (c0.toInt8.toInt32)), (.int (0 : Int32)), (.ref a2)])) (fun t k => XS.i2b X0.here hx rfl (hb hby d12_30) rfl k) ?_
  obtain ⟨T1, h1, X1, e1, W1, A1, st1⟩ := own_stB X0 hx hZ e0 F1 (j := (0 : Int32)) (x := (c0.toInt8.toInt32)) (i := 0) (by decide) (show 0 < 2 from by decide) (g := (mkF m 31 #[.val (.ref a1), .val (.int (0 : Int32)), .val (.ref a2), .val (.int (0 : Int32)), .val (.int (2 : Int32)), .val (.int (0 : Int32)), .val (.int c0)] [(.int (c0.toInt8.toInt32)), (.int (0 : Int32)), (.ref a2)])) rfl rfl (hb hby d12_31)
  have f1_ : own_A Z h1 a2 .byte [(.int ((c0.toInt8.toInt32).toInt8.toInt32)), (.int (0 : Int32))] := A1
  have z2 : n0 ≤ h1.size := Nat.le_trans Z0 (Keep.of_wr W1).1
  have kp2 : Keep h0 h1 [a2] := (Keep.refl h0 [a2]).wr W1 (Or.inl (List.mem_of_getElem? (i := 0) rfl))
  have n3 := Fr.snoc X1 N0 ga
  refine own_st (B := T1.setTop (mkF m 32 #[.val (.ref a1), .val (.int (0 : Int32)), .val (.ref a2), .val (.int (0 : Int32)), .val (.int (2 : Int32)), .val (.int (0 : Int32)), .val (.int c0)] [])) (fun t k => st1 t k) ?_
  refine own_st (B := T1.setTop (mkF m 35 #[.val (.ref a1), .val (.int ((0 : Int32) + (1 : Int32))), .val (.ref a2), .val (.int (0 : Int32)), .val (.int (2 : Int32)), .val (.int (0 : Int32)), .val (.int c0)] [])) (fun t k => XS.iinc X1.here hx rfl (hb hby d12_32) rfl (l' := #[.val (.ref a1), .val (.int ((0 : Int32) + (1 : Int32))), .val (.ref a2), .val (.int (0 : Int32)), .val (.int (2 : Int32)), .val (.int (0 : Int32)), .val (.int c0)]) rfl k) ?_
  refine own_st (B := T1.setTop (mkF m 38 #[.val (.ref a1), .val (.int ((0 : Int32) + (1 : Int32))), .val (.ref a2), .val (.int ((0 : Int32) + (1 : Int32))), .val (.int (2 : Int32)), .val (.int (0 : Int32)), .val (.int c0)] [])) (fun t k => XS.iinc X1.here hx rfl (hb hby d12_35) rfl (l' := #[.val (.ref a1), .val (.int ((0 : Int32) + (1 : Int32))), .val (.ref a2), .val (.int ((0 : Int32) + (1 : Int32))), .val (.int (2 : Int32)), .val (.int (0 : Int32)), .val (.int c0)]) rfl k) ?_
  refine own_st (B := T1.setTop (mkF m 41 #[.val (.ref a1), .val (.int ((0 : Int32) + (1 : Int32))), .val (.ref a2), .val (.int ((0 : Int32) + (1 : Int32))), .val (.int (2 : Int32)), .val (.int ((0 : Int32) + (1 : Int32))), .val (.int c0)] [])) (fun t k => XS.iinc X1.here hx rfl (hb hby d12_38) rfl (l' := #[.val (.ref a1), .val (.int ((0 : Int32) + (1 : Int32))), .val (.ref a2), .val (.int ((0 : Int32) + (1 : Int32))), .val (.int (2 : Int32)), .val (.int ((0 : Int32) + (1 : Int32))), .val (.int c0)]) rfl k) ?_
  refine own_st (B := T1.setTop (mkF m 3 #[.val (.ref a1), .val (.int ((0 : Int32) + (1 : Int32))), .val (.ref a2), .val (.int ((0 : Int32) + (1 : Int32))), .val (.int (2 : Int32)), .val (.int ((0 : Int32) + (1 : Int32))), .val (.int c0)] [])) (fun t k => XS.goto X1.here hx rfl (pc0 := 41) (pc' := 3) rfl (hb hby d12_41) (by decide) (by decide) k) ?_
  refine own_st (B := T1.setTop (mkF m 5 #[.val (.ref a1), .val (.int ((0 : Int32) + (1 : Int32))), .val (.ref a2), .val (.int ((0 : Int32) + (1 : Int32))), .val (.int (2 : Int32)), .val (.int ((0 : Int32) + (1 : Int32))), .val (.int c0)] [(.int ((0 : Int32) + (1 : Int32)))])) (fun t k => XS.iload X1.here hx rfl (hb hby d12_3) rfl k) ?_
  refine own_st (B := T1.setTop (mkF m 7 #[.val (.ref a1), .val (.int ((0 : Int32) + (1 : Int32))), .val (.ref a2), .val (.int ((0 : Int32) + (1 : Int32))), .val (.int (2 : Int32)), .val (.int ((0 : Int32) + (1 : Int32))), .val (.int c0)] [(.int (2 : Int32)), (.int ((0 : Int32) + (1 : Int32)))])) (fun t k => XS.iload X1.here hx rfl (hb hby d12_5) rfl k) ?_
  refine own_st (B := T1.setTop (mkF m 10 #[.val (.ref a1), .val (.int ((0 : Int32) + (1 : Int32))), .val (.ref a2), .val (.int ((0 : Int32) + (1 : Int32))), .val (.int (2 : Int32)), .val (.int ((0 : Int32) + (1 : Int32))), .val (.int c0)] [])) (fun t k => XS.icmpNo X1.here hx rfl (hb hby d12_7) rfl (by decide) k) ?_
  refine own_st (B := T1.setTop (mkF m 11 #[.val (.ref a1), .val (.int ((0 : Int32) + (1 : Int32))), .val (.ref a2), .val (.int ((0 : Int32) + (1 : Int32))), .val (.int (2 : Int32)), .val (.int ((0 : Int32) + (1 : Int32))), .val (.int c0)] [(.ref a1)])) (fun t k => XS.aloadN X1.here hx rfl (hb hby d12_10) rfl rfl k) ?_
  refine own_st (B := T1.setTop (mkF m 12 #[.val (.ref a1), .val (.int ((0 : Int32) + (1 : Int32))), .val (.ref a2), .val (.int ((0 : Int32) + (1 : Int32))), .val (.int (2 : Int32)), .val (.int ((0 : Int32) + (1 : Int32))), .val (.int c0)] [(.int ((0 : Int32) + (1 : Int32))), (.ref a1)])) (fun t k => XS.iloadN X1.here hx rfl (hb hby d12_11) rfl k) ?_
  have f4 : own_A Z h1 a1 .char [(.int c0), (.int c1)] := (F0.other W1 na)
  refine own_st (B := T1.setTop (mkF m 13 #[.val (.ref a1), .val (.int ((0 : Int32) + (1 : Int32))), .val (.ref a2), .val (.int ((0 : Int32) + (1 : Int32))), .val (.int (2 : Int32)), .val (.int ((0 : Int32) + (1 : Int32))), .val (.int c0)] [(.int c1)])) (fun t k => own_ldC X1 hx hZ e1 f4 (g := (mkF m 12 #[.val (.ref a1), .val (.int ((0 : Int32) + (1 : Int32))), .val (.ref a2), .val (.int ((0 : Int32) + (1 : Int32))), .val (.int (2 : Int32)), .val (.int ((0 : Int32) + (1 : Int32))), .val (.int c0)] [(.int ((0 : Int32) + (1 : Int32))), (.ref a1)])) (i := 1) (by decide) rfl rfl rfl (hb hby d12_12) k) ?_
  refine own_st (B := T1.setTop (mkF m 15 #[.val (.ref a1), .val (.int ((0 : Int32) + (1 : Int32))), .val (.ref a2), .val (.int ((0 : Int32) + (1 : Int32))), .val (.int (2 : Int32)), .val (.int ((0 : Int32) + (1 : Int32))), .val (.int c1)] [])) (fun t k => XS.istore X1.here hx rfl (hb hby d12_13) rfl (l' := #[.val (.ref a1), .val (.int ((0 : Int32) + (1 : Int32))), .val (.ref a2), .val (.int ((0 : Int32) + (1 : Int32))), .val (.int (2 : Int32)), .val (.int ((0 : Int32) + (1 : Int32))), .val (.int c1)]) rfl k) ?_
  refine own_st (B := T1.setTop (mkF m 17 #[.val (.ref a1), .val (.int ((0 : Int32) + (1 : Int32))), .val (.ref a2), .val (.int ((0 : Int32) + (1 : Int32))), .val (.int (2 : Int32)), .val (.int ((0 : Int32) + (1 : Int32))), .val (.int c1)] [(.int c1)])) (fun t k => XS.iload X1.here hx rfl (hb hby d12_15) rfl k) ?_
  refine own_st (B := T1.setTop (mkF m 20 #[.val (.ref a1), .val (.int ((0 : Int32) + (1 : Int32))), .val (.ref a2), .val (.int ((0 : Int32) + (1 : Int32))), .val (.int (2 : Int32)), .val (.int ((0 : Int32) + (1 : Int32))), .val (.int c1)] [(.int (255 : Int32)), (.int c1)])) (fun t k => XS.sipush X1.here hx rfl (hb hby d12_17) k) ?_
  refine own_st (B := T1.setTop (mkF m 26 #[.val (.ref a1), .val (.int ((0 : Int32) + (1 : Int32))), .val (.ref a2), .val (.int ((0 : Int32) + (1 : Int32))), .val (.int (2 : Int32)), .val (.int ((0 : Int32) + (1 : Int32))), .val (.int c1)] [])) (fun t k => XS.icmpYes X1.here hx rfl (pc0 := 20) (pc' := 26) rfl (hb hby d12_20) rfl (XT.ii_le_t hc1_) (by decide) (by decide) k) ?_
  refine own_st (B := T1.setTop (mkF m 27 #[.val (.ref a1), .val (.int ((0 : Int32) + (1 : Int32))), .val (.ref a2), .val (.int ((0 : Int32) + (1 : Int32))), .val (.int (2 : Int32)), .val (.int ((0 : Int32) + (1 : Int32))), .val (.int c1)] [(.ref a2)])) (fun t k => XS.aloadN X1.here hx rfl (hb hby d12_26) rfl rfl k) ?_
  refine own_st (B := T1.setTop (mkF m 28 #[.val (.ref a1), .val (.int ((0 : Int32) + (1 : Int32))), .val (.ref a2), .val (.int ((0 : Int32) + (1 : Int32))), .val (.int (2 : Int32)), .val (.int ((0 : Int32) + (1 : Int32))), .val (.int c1)] [(.int ((0 : Int32) + (1 : Int32))), (.ref a2)])) (fun t k => XS.iloadN X1.here hx rfl (hb hby d12_27) rfl k) ?_
  refine own_st (B := T1.setTop (mkF m 30 #[.val (.ref a1), .val (.int ((0 : Int32) + (1 : Int32))), .val (.ref a2), .val (.int ((0 : Int32) + (1 : Int32))), .val (.int (2 : Int32)), .val (.int ((0 : Int32) + (1 : Int32))), .val (.int c1)] [(.int c1), (.int ((0 : Int32) + (1 : Int32))), (.ref a2)])) (fun t k => XS.iload X1.here hx rfl (hb hby d12_28) rfl k) ?_
  refine own_st (B := T1.setTop (mkF m 31 #[.val (.ref a1), .val (.int ((0 : Int32) + (1 : Int32))), .val (.ref a2), .val (.int ((0 : Int32) + (1 : Int32))), .val (.int (2 : Int32)), .val (.int ((0 : Int32) + (1 : Int32))), .val (.int c1)] [(.int (c1.toInt8.toInt32)), (.int ((0 : Int32) + (1 : Int32))), (.ref a2)])) (fun t k => XS.i2b X1.here hx rfl (hb hby d12_30) rfl k) ?_
  obtain ⟨T5, h5, X5, e5, W5, A5, st5⟩ := own_stB X1 hx hZ e1 f1_ (j := ((0 : Int32) + (1 : Int32))) (x := (c1.toInt8.toInt32)) (i := 1) (by decide) (show 1 < 2 from by decide) (g := (mkF m 31 #[.val (.ref a1), .val (.int ((0 : Int32) + (1 : Int32))), .val (.ref a2), .val (.int ((0 : Int32) + (1 : Int32))), .val (.int (2 : Int32)), .val (.int ((0 : Int32) + (1 : Int32))), .val (.int c1)] [(.int (c1.toInt8.toInt32)), (.int ((0 : Int32) + (1 : Int32))), (.ref a2)])) rfl rfl (hb hby d12_31)
  have f5_ : own_A Z h5 a2 .byte [(.int ((c0.toInt8.toInt32).toInt8.toInt32)), (.int ((c1.toInt8.toInt32).toInt8.toInt32))] := A5
  have z6 : n0 ≤ h5.size := Nat.le_trans z2 (Keep.of_wr W5).1
  have kp6 : Keep h0 h5 [a2] := kp2.wr W5 (Or.inl (List.mem_of_getElem? (i := 0) rfl))
  have n7 := Fr.snoc X5 n3 ga
  refine own_st (B := T5.setTop (mkF m 32 #[.val (.ref a1), .val (.int ((0 : Int32) + (1 : Int32))), .val (.ref a2), .val (.int ((0 : Int32) + (1 : Int32))), .val (.int (2 : Int32)), .val (.int ((0 : Int32) + (1 : Int32))), .val (.int c1)] [])) (fun t k => st5 t k) ?_
  refine own_st (B := T5.setTop (mkF m 35 #[.val (.ref a1), .val (.int (((0 : Int32) + (1 : Int32)) + (1 : Int32))), .val (.ref a2), .val (.int ((0 : Int32) + (1 : Int32))), .val (.int (2 : Int32)), .val (.int ((0 : Int32) + (1 : Int32))), .val (.int c1)] [])) (fun t k => XS.iinc X5.here hx rfl (hb hby d12_32) rfl (l' := #[.val (.ref a1), .val (.int (((0 : Int32) + (1 : Int32)) + (1 : Int32))), .val (.ref a2), .val (.int ((0 : Int32) + (1 : Int32))), .val (.int (2 : Int32)), .val (.int ((0 : Int32) + (1 : Int32))), .val (.int c1)]) rfl k) ?_
  refine own_st (B := T5.setTop (mkF m 38 #[.val (.ref a1), .val (.int (((0 : Int32) + (1 : Int32)) + (1 : Int32))), .val (.ref a2), .val (.int (((0 : Int32) + (1 : Int32)) + (1 : Int32))), .val (.int (2 : Int32)), .val (.int ((0 : Int32) + (1 : Int32))), .val (.int c1)] [])) (fun t k => XS.iinc X5.here hx rfl (hb hby d12_35) rfl (l' := #[.val (.ref a1), .val (.int (((0 : Int32) + (1 : Int32)) + (1 : Int32))), .val (.ref a2), .val (.int (((0 : Int32) + (1 : Int32)) + (1 : Int32))), .val (.int (2 : Int32)), .val (.int ((0 : Int32) + (1 : Int32))), .val (.int c1)]) rfl k) ?_
  refine own_st (B := T5.setTop (mkF m 41 #[.val (.ref a1), .val (.int (((0 : Int32) + (1 : Int32)) + (1 : Int32))), .val (.ref a2), .val (.int (((0 : Int32) + (1 : Int32)) + (1 : Int32))), .val (.int (2 : Int32)), .val (.int (((0 : Int32) + (1 : Int32)) + (1 : Int32))), .val (.int c1)] [])) (fun t k => XS.iinc X5.here hx rfl (hb hby d12_38) rfl (l' := #[.val (.ref a1), .val (.int (((0 : Int32) + (1 : Int32)) + (1 : Int32))), .val (.ref a2), .val (.int (((0 : Int32) + (1 : Int32)) + (1 : Int32))), .val (.int (2 : Int32)), .val (.int (((0 : Int32) + (1 : Int32)) + (1 : Int32))), .val (.int c1)]) rfl k) ?_
  refine own_st (B := T5.setTop (mkF m 3 #[.val (.ref a1), .val (.int (((0 : Int32) + (1 : Int32)) + (1 : Int32))), .val (.ref a2), .val (.int (((0 : Int32) + (1 : Int32)) + (1 : Int32))), .val (.int (2 : Int32)), .val (.int (((0 : Int32) + (1 : Int32)) + (1 : Int32))), .val (.int c1)] [])) (fun t k => XS.goto X5.here hx rfl (pc0 := 41) (pc' := 3) rfl (hb hby d12_41) (by decide) (by decide) k) ?_
  refine own_st (B := T5.setTop (mkF m 5 #[.val (.ref a1), .val (.int (((0 : Int32) + (1 : Int32)) + (1 : Int32))), .val (.ref a2), .val (.int (((0 : Int32) + (1 : Int32)) + (1 : Int32))), .val (.int (2 : Int32)), .val (.int (((0 : Int32) + (1 : Int32)) + (1 : Int32))), .val (.int c1)] [(.int (((0 : Int32) + (1 : Int32)) + (1 : Int32)))])) (fun t k => XS.iload X5.here hx rfl (hb hby d12_3) rfl k) ?_
  refine own_st (B := T5.setTop (mkF m 7 #[.val (.ref a1), .val (.int (((0 : Int32) + (1 : Int32)) + (1 : Int32))), .val (.ref a2), .val (.int (((0 : Int32) + (1 : Int32)) + (1 : Int32))), .val (.int (2 : Int32)), .val (.int (((0 : Int32) + (1 : Int32)) + (1 : Int32))), .val (.int c1)] [(.int (2 : Int32)), (.int (((0 : Int32) + (1 : Int32)) + (1 : Int32)))])) (fun t k => XS.iload X5.here hx rfl (hb hby d12_5) rfl k) ?_
  refine own_st (B := T5.setTop (mkF m 44 #[.val (.ref a1), .val (.int (((0 : Int32) + (1 : Int32)) + (1 : Int32))), .val (.ref a2), .val (.int (((0 : Int32) + (1 : Int32)) + (1 : Int32))), .val (.int (2 : Int32)), .val (.int (((0 : Int32) + (1 : Int32)) + (1 : Int32))), .val (.int c1)] [])) (fun t k => XS.icmpYes X5.here hx rfl (pc0 := 7) (pc' := 44) rfl (hb hby d12_7) rfl (by decide) (by decide) (by decide) k) ?_
  refine own_st (B := T5.setTop (mkF m 46 #[.val (.ref a1), .val (.int (((0 : Int32) + (1 : Int32)) + (1 : Int32))), .val (.ref a2), .val (.int (((0 : Int32) + (1 : Int32)) + (1 : Int32))), .val (.int (2 : Int32)), .val (.int (((0 : Int32) + (1 : Int32)) + (1 : Int32))), .val (.int c1)] [(.int (2 : Int32))])) (fun t k => XS.iload X5.here hx rfl (hb hby d12_44) rfl k) ?_
  refine own_retI X5 hx hlk Bd.returns (hb hby d12_46) (by decide) (by decide) ?_
  show Q12n2 Z a1 a2 c0 c1 h0 n0 _ T5.heap _
  rw [e5]
  exact ⟨rfl, n7, kp6, f5_⟩
theorem ef_11n2 (m : MethodId) (x0 : Addr) (x1 : Int32) (x2 : Int32) : entryFrame m #[(.ref x0), (.int x1), (.int x2)] 6 = mkF m 0 #[.val (.ref x0), .val (.int x1), .val (.int x2), .unset, .unset, .unset] [] := by first | (simp [entryFrame, mkF, argsToLocals, Value.category]; done) | rfl
def Q11n2 (Z : State) (a1 : Addr) (c0 : Int32) (c1 : Int32) (h0 : Heap) (n0 : Nat) (v : Option Value) (h : Heap) (L : List Loc) : Prop := ∃ (b : Addr), v = some (.ref b) ∧ Fr n0 L ∧ Keep h0 h [] ∧ n0 ≤ b ∧ h0.size ≤ b ∧ own_A Z h b .byte [(.int ((c0.toInt8.toInt32).toInt8.toInt32)), (.int ((c1.toInt8.toInt32).toInt8.toInt32))]
set_option maxHeartbeats 40000000 in
theorem rm11n2 (l : Launch) (Z : State) (a0 : Array Value) (hw : ∀ d ∈ tables_1, d.before a0 Z = true) (ws : List Jvm.Cond) (a1 : Addr) (c0 : Int32) (c1 : Int32) (h0 : Heap) (n0 : Nat) (Z0 : n0 ≤ h0.size) (F0 : own_A Z h0 a1 .char [(.int c0), (.int c1)]) (hc0_ : ¬ ((255 : Int32) < c0)) (hc1_ : ¬ ((255 : Int32) < c1)) :
    MetFree l (⟨"java/lang/StringUTF16", "compress", "([CII)[B"⟩ : MethodName) (head1 (Jvm.Cond.code (⟨"java/lang/StringUTF16", "compress", "([CII)[B"⟩ : MethodName) jdk_52_method_16_code 6 (some (.array .byte)) :: ws) ({ frames := 1, cells := 1, slots := 2, locals := 18 } : Room)) (fun a U => a = #[(.ref a1), (.int (0 : Int32)), (.int (2 : Int32))] ∧ Z.Warmed39 U.vm ∧ U.heap = h0) (fun _ _ _ _ _ => True) (fun _ U o U' => ∃ v L, o = .returned v ∧ Q11n2 Z a1 c0 c1 h0 n0 v U'.heap L ∧ FrameEnd U o U' L ({ frames := 1, cells := 1, slots := 2, locals := 18 } : Room).cells ({ frames := 1, cells := 1, slots := 2, locals := 18 } : Room).slots) := by
  refine MetFree.of_bodySF (plainFor_of_name own_pn2) hisR ?_
  intro p e s m args below meth c s₁ Bd hml0 hP hK
  obtain ⟨rfl, hZ, hh⟩ := hP
  have hx := Bd.exec
  have hby := Bd.bytes
  have hml : c.maxLocals = 6 := hml0
  have hlk : meth.locks = false := BodyLoose.notSynchronized Bd
  have hown : s.vm.findClass "java/lang/StringUTF16" = some m.cls := findClass_of_methodNamed Bd.named
  have hnm := (name_of_methodNamed Bd.named Bd.method).1
  have X0 : Stand p l e ({ frames := 1, cells := 1, slots := 2, locals := 18 } : Room) s m #[(.ref a1), (.int (0 : Int32)), (.int (2 : Int32))] below meth c s₁ [] 0 0 := Stand.of_body Bd
  have e0 : s₁.heap = h0 := by rw [← hh, Bd.state]; rfl
  have N0 := Fr.nil n0
  show own_Go p e below s (Q11n2 Z a1 c0 c1 h0 n0) ({ frames := 1, cells := 1, slots := 2, locals := 18 } : Room).cells ({ frames := 1, cells := 1, slots := 2, locals := 18 } : Room).slots _
  refine own_st (B := s₁.setTop (mkF m 0 #[.val (.ref a1), .val (.int (0 : Int32)), .val (.int (2 : Int32)), .unset, .unset, .unset] [])) (fun t k => castTop (ef_11n2 m (a1) ((0 : Int32)) ((2 : Int32))) k) ?_
  refine own_st (B := s₁.setTop (mkF m 1 #[.val (.ref a1), .val (.int (0 : Int32)), .val (.int (2 : Int32)), .unset, .unset, .unset] [(.int (2 : Int32))])) (fun t k => XS.iloadN X0.here hx rfl (hb hby d11_0) rfl k) ?_
  obtain ⟨T1, h1, X1, e1, E1, A1, x1, st1⟩ := own_newP X0 hx hZ (aty := .byte) (w_25 hw) e0 (g := (mkF m 1 #[.val (.ref a1), .val (.int (0 : Int32)), .val (.int (2 : Int32)), .unset, .unset, .unset] [(.int (2 : Int32))])) rfl (hb hby d11_1) (n := (2 : Int32)) (rest := []) rfl (k := 2) (cap := 2) (by decide) (Nat.le_refl _) (by decide) (by decide) (by decide) (ad := "[B") rfl
  obtain ⟨b1, g1⟩ : ∃ z, z = h0.size := ⟨_, rfl⟩
  rw [← g1] at A1 x1 st1
  have q1_a1 : a1 ≠ b1 := Nat.ne_of_lt (Nat.lt_of_lt_of_le F0.lt (Nat.le_of_eq g1.symm))
  have u1 : n0 ≤ b1 := Nat.le_trans Z0 (Nat.le_of_eq g1.symm)
  have y1 : h0.size ≤ b1 := Nat.le_trans (Keep.refl h0 []).1 (Nat.le_of_eq g1.symm)
  have z2 : n0 ≤ h1.size := Nat.le_trans Z0 E1.1
  have kp2 : Keep h0 h1 [] := (Keep.refl h0 []).ext E1
  have f1_ : own_A Z h1 b1 .byte [(.int (0 : Int32)), (.int (0 : Int32))] := A1
  refine own_st (B := T1.setTop (mkF m 3 #[.val (.ref a1), .val (.int (0 : Int32)), .val (.int (2 : Int32)), .unset, .unset, .unset] [(.ref b1)])) (fun t k => st1 t k) ?_
  refine own_st (B := T1.setTop (mkF m 4 #[.val (.ref a1), .val (.int (0 : Int32)), .val (.int (2 : Int32)), .val (.ref b1), .unset, .unset] [])) (fun t k => XS.astoreN X1.here hx rfl (hb hby d11_3) rfl rfl (l' := #[.val (.ref a1), .val (.int (0 : Int32)), .val (.int (2 : Int32)), .val (.ref b1), .unset, .unset]) rfl k) ?_
  refine own_st (B := T1.setTop (mkF m 5 #[.val (.ref a1), .val (.int (0 : Int32)), .val (.int (2 : Int32)), .val (.ref b1), .unset, .unset] [(.ref a1)])) (fun t k => XS.aloadN X1.here hx rfl (hb hby d11_4) rfl rfl k) ?_
  refine own_st (B := T1.setTop (mkF m 6 #[.val (.ref a1), .val (.int (0 : Int32)), .val (.int (2 : Int32)), .val (.ref b1), .unset, .unset] [(.int (0 : Int32)), (.ref a1)])) (fun t k => XS.iloadN X1.here hx rfl (hb hby d11_5) rfl k) ?_
  refine own_st (B := T1.setTop (mkF m 7 #[.val (.ref a1), .val (.int (0 : Int32)), .val (.int (2 : Int32)), .val (.ref b1), .unset, .unset] [(.ref b1), (.int (0 : Int32)), (.ref a1)])) (fun t k => XS.aloadN X1.here hx rfl (hb hby d11_6) rfl rfl k) ?_
  refine own_st (B := T1.setTop (mkF m 8 #[.val (.ref a1), .val (.int (0 : Int32)), .val (.int (2 : Int32)), .val (.ref b1), .unset, .unset] [(.int (0 : Int32)), (.ref b1), (.int (0 : Int32)), (.ref a1)])) (fun t k => XS.iconst X1.here hx rfl (hb hby d11_7) k) ?_
  refine own_st (B := T1.setTop (mkF m 9 #[.val (.ref a1), .val (.int (0 : Int32)), .val (.int (2 : Int32)), .val (.ref b1), .unset, .unset] [(.int (2 : Int32)), (.int (0 : Int32)), (.ref b1), (.int (0 : Int32)), (.ref a1)])) (fun t k => XS.iloadN X1.here hx rfl (hb hby d11_8) rfl k) ?_
  have f3 : own_A Z h1 a1 .char [(.int c0), (.int c1)] := (F0.ext E1)
  obtain ⟨_, _, ⟨T4, L4, k4, j4⟩, -, X4, ⟨Lc4, hQ4, l4, y4_, z4_⟩, st4⟩ := Jvm.LawKit.callS X1 hx (y := (⟨"java/lang/StringUTF16", "compress", "([CI[BII)I"⟩ : MethodName)) hown (mvT hZ (w_67 hw)) (mvT hZ (w_68 hw)) (mvT hZ (w_65 hw)) (mvT hZ (w_69 hw)) (by decide) (backOf (W := 0) (rm12n2 l Z a0 hw [] a1 b1 c0 c1 h1 n0 z2 f3 f1_ q1_a1 u1 hc0_ hc1_) hZ (w_69 hw) (w_65 hw) (by decide) (by decide)) (g := (mkF m 9 #[.val (.ref a1), .val (.int (0 : Int32)), .val (.int (2 : Int32)), .val (.ref b1), .unset, .unset] [(.int (2 : Int32)), (.int (0 : Int32)), (.ref b1), (.int (0 : Int32)), (.ref a1)])) rfl (by rw [hml]; rfl) (argsL := [(.ref a1), (.int (0 : Int32)), (.ref b1), (.int (0 : Int32)), (.int (2 : Int32))]) (rest := []) (lenOf own_pd2 rfl) rfl (by show 2 * 0 + _ ≤ _; exact Nat.le_of_eq rfl) (hb hby d11_9) (fun _ _ => ⟨rfl, e1, (by decide : 1 + 0 ≤ _), (by decide : 2 + 0 ≤ _)⟩)
  dsimp only [Pt.U, Pt.locs, Pt.cells, Pt.slots] at X4 l4 y4_ z4_ st4 hQ4
  subst l4 y4_ z4_
  obtain ⟨rfl, N4q, K4, p4_0⟩ := hQ4
  have N4 := Fr.app N0 N4q
  have z5 : n0 ≤ T4.heap.size := Nat.le_trans z2 K4.1
  have kp5 : Keep h0 T4.heap [] := kp2.trans K4 (allS (Or.inr y1) all0)
  refine own_st (B := T4.setTop (mkF m 12 #[.val (.ref a1), .val (.int (0 : Int32)), .val (.int (2 : Int32)), .val (.ref b1), .unset, .unset] [(.int (2 : Int32))])) (fun t k => st4 t k) ?_
  refine own_st (B := T4.setTop (mkF m 14 #[.val (.ref a1), .val (.int (0 : Int32)), .val (.int (2 : Int32)), .val (.ref b1), .val (.int (2 : Int32)), .unset] [])) (fun t k => XS.istore X4.here hx rfl (hb hby d11_12) rfl (l' := #[.val (.ref a1), .val (.int (0 : Int32)), .val (.int (2 : Int32)), .val (.ref b1), .val (.int (2 : Int32)), .unset]) rfl k) ?_
  refine own_st (B := T4.setTop (mkF m 16 #[.val (.ref a1), .val (.int (0 : Int32)), .val (.int (2 : Int32)), .val (.ref b1), .val (.int (2 : Int32)), .unset] [(.int (2 : Int32))])) (fun t k => XS.iload X4.here hx rfl (hb hby d11_14) rfl k) ?_
  refine own_st (B := T4.setTop (mkF m 17 #[.val (.ref a1), .val (.int (0 : Int32)), .val (.int (2 : Int32)), .val (.ref b1), .val (.int (2 : Int32)), .unset] [(.int (2 : Int32)), (.int (2 : Int32))])) (fun t k => XS.iloadN X4.here hx rfl (hb hby d11_16) rfl k) ?_
  refine own_st (B := T4.setTop (mkF m 57 #[.val (.ref a1), .val (.int (0 : Int32)), .val (.int (2 : Int32)), .val (.ref b1), .val (.int (2 : Int32)), .unset] [])) (fun t k => XS.icmpYes X4.here hx rfl (pc0 := 17) (pc' := 57) rfl (hb hby d11_17) rfl (by decide) (by decide) (by decide) k) ?_
  refine own_st (B := T4.setTop (mkF m 58 #[.val (.ref a1), .val (.int (0 : Int32)), .val (.int (2 : Int32)), .val (.ref b1), .val (.int (2 : Int32)), .unset] [(.ref b1)])) (fun t k => XS.aloadN X4.here hx rfl (hb hby d11_57) rfl rfl k) ?_
  refine own_retR X4 hx hlk (t := (.array .byte)) Bd.returns rfl rfl rfl (hb hby d11_58) (by decide) (by decide) ?_
  show Q11n2 Z a1 c0 c1 h0 n0 _ T4.heap _
  exact ⟨b1, rfl, N4, kp5, u1, y1, p4_0⟩
theorem ef_13n2 (m : MethodId) (x0 : Addr) (x1 : Int32) : entryFrame m #[(.ref x0), (.int x1)] 2 = mkF m 0 #[.val (.ref x0), .val (.int x1)] [] := by first | (simp [entryFrame, mkF, argsToLocals, Value.category]; done) | rfl
def Q13n2 (Z : State) (a1 : Addr) (c0 : Int32) (c1 : Int32) (h0 : Heap) (n0 : Nat) (v : Option Value) (h : Heap) (L : List Loc) : Prop := v = some (.int (0 : Int32)) ∧ Fr n0 L ∧ h = h0
set_option maxHeartbeats 40000000 in
theorem rm13n2 (l : Launch) (Z : State) (a0 : Array Value) (hw : ∀ d ∈ tables_1, d.before a0 Z = true) (ws : List Jvm.Cond) (a1 : Addr) (c0 : Int32) (c1 : Int32) (h0 : Heap) (n0 : Nat) (Z0 : n0 ≤ h0.size) (F0 : own_A Z h0 a1 .byte [(.int ((c0.toInt8.toInt32).toInt8.toInt32)), (.int ((c1.toInt8.toInt32).toInt8.toInt32))]) :
    MetFree l (⟨"java/lang/StringUTF16", "coderFromArrayLen", "([BI)B"⟩ : MethodName) (head1 (Jvm.Cond.code (⟨"java/lang/StringUTF16", "coderFromArrayLen", "([BI)B"⟩ : MethodName) jdk_52_method_15_code 2 (some .byte) :: ws) ({ frames := 0, cells := 0, slots := 0, locals := 0 } : Room)) (fun a U => a = #[(.ref a1), (.int (2 : Int32))] ∧ Z.Warmed39 U.vm ∧ U.heap = h0) (fun _ _ _ _ _ => True) (fun _ U o U' => ∃ v L, o = .returned v ∧ Q13n2 Z a1 c0 c1 h0 n0 v U'.heap L ∧ FrameEnd U o U' L ({ frames := 0, cells := 0, slots := 0, locals := 0 } : Room).cells ({ frames := 0, cells := 0, slots := 0, locals := 0 } : Room).slots) := by
  refine MetFree.of_bodySF (plainFor_of_name own_pn2) hisR ?_
  intro p e s m args below meth c s₁ Bd hml0 hP hK
  obtain ⟨rfl, hZ, hh⟩ := hP
  have hx := Bd.exec
  have hby := Bd.bytes
  have hml : c.maxLocals = 2 := hml0
  have hlk : meth.locks = false := BodyLoose.notSynchronized Bd
  have hown : s.vm.findClass "java/lang/StringUTF16" = some m.cls := findClass_of_methodNamed Bd.named
  have hnm := (name_of_methodNamed Bd.named Bd.method).1
  have X0 : Stand p l e ({ frames := 0, cells := 0, slots := 0, locals := 0 } : Room) s m #[(.ref a1), (.int (2 : Int32))] below meth c s₁ [] 0 0 := Stand.of_body Bd
  have e0 : s₁.heap = h0 := by rw [← hh, Bd.state]; rfl
  have N0 := Fr.nil n0
  show own_Go p e below s (Q13n2 Z a1 c0 c1 h0 n0) ({ frames := 0, cells := 0, slots := 0, locals := 0 } : Room).cells ({ frames := 0, cells := 0, slots := 0, locals := 0 } : Room).slots _
  refine own_st (B := s₁.setTop (mkF m 0 #[.val (.ref a1), .val (.int (2 : Int32))] [])) (fun t k => castTop (ef_13n2 m (a1) ((2 : Int32))) k) ?_
  refine own_st (B := s₁.setTop (mkF m 1 #[.val (.ref a1), .val (.int (2 : Int32))] [(.int (2 : Int32))])) (fun t k => XS.iloadN X0.here hx rfl (hb hby d13_0) rfl k) ?_
  refine own_st (B := s₁.setTop (mkF m 2 #[.val (.ref a1), .val (.int (2 : Int32))] [(.ref a1), (.int (2 : Int32))])) (fun t k => XS.aloadN X0.here hx rfl (hb hby d13_1) rfl rfl k) ?_
  refine own_st (B := s₁.setTop (mkF m 3 #[.val (.ref a1), .val (.int (2 : Int32))] [(.int (2 : Int32)), (.int (2 : Int32))])) (fun t k => own_len X0 hx hZ e0 F0 (g := (mkF m 2 #[.val (.ref a1), .val (.int (2 : Int32))] [(.ref a1), (.int (2 : Int32))])) (n := (2 : Int32)) (show (2 : Int32).toInt = ((2 : Nat) : Int) from by decide) rfl rfl (hb hby d13_2) k) ?_
  refine own_st (B := s₁.setTop (mkF m 4 #[.val (.ref a1), .val (.int (2 : Int32))] [(.int ((2 : Int32) - (2 : Int32)))])) (fun t k => XS.isub X0.here hx rfl (hb hby d13_3) rfl k) ?_
  refine own_st (B := s₁.setTop (mkF m 6 #[.val (.ref a1), .val (.int (2 : Int32))] [(.int (31 : Int32)), (.int ((2 : Int32) - (2 : Int32)))])) (fun t k => XS.bipush X0.here hx rfl (hb hby d13_4) k) ?_
  refine own_st (B := s₁.setTop (mkF m 7 #[.val (.ref a1), .val (.int (2 : Int32))] [(.int ((((2 : Int32) - (2 : Int32)).toUInt32 >>> ((31 : Int32) &&& 31).toUInt32).toInt32))])) (fun t k => XS.iushr X0.here hx rfl (hb hby d13_6) rfl k) ?_
  refine own_st (B := s₁.setTop (mkF m 8 #[.val (.ref a1), .val (.int (2 : Int32))] [(.int (((((2 : Int32) - (2 : Int32)).toUInt32 >>> ((31 : Int32) &&& 31).toUInt32).toInt32).toInt8.toInt32))])) (fun t k => XS.i2b X0.here hx rfl (hb hby d13_7) rfl k) ?_
  refine own_retN X0 hx hlk (t := .byte) Bd.returns (by simp) (z' := (((((2 : Int32) - (2 : Int32)).toUInt32 >>> ((31 : Int32) &&& 31).toUInt32).toInt32).toInt8.toInt32)) (by decide) (hb hby d13_8) (by decide) (by decide) ?_
  show Q13n2 Z a1 c0 c1 h0 n0 _ s₁.heap _
  rw [e0]
  exact ⟨(congrArg (fun q => some (Value.int q)) (show (((((2 : Int32) - (2 : Int32)).toUInt32 >>> ((31 : Int32) &&& 31).toUInt32).toInt32).toInt8.toInt32) = (0 : Int32) from by decide)), N0, rfl⟩
theorem ef_4n2 (m : MethodId) (x0 : Addr) (x1 : Addr) (x2 : Int32) (x3 : Int32) : entryFrame m #[(.ref x0), (.ref x1), (.int x2), (.int x3), .null] 6 = mkF m 0 #[.val (.ref x0), .val (.ref x1), .val (.int x2), .val (.int x3), .val .null, .unset] [] := by first | (simp [entryFrame, mkF, argsToLocals, Value.category]; done) | rfl
def Q4n2 (Z : State) (a1 : Addr) (a2 : Addr) (cs : Int32) (c0 : Int32) (c1 : Int32) (h0 : Heap) (n0 : Nat) (v : Option Value) (h : Heap) (L : List Loc) : Prop := ∃ (b : Addr), v = none ∧ Fr n0 L ∧ Keep h0 h [a1] ∧ n0 ≤ b ∧ h0.size ≤ b ∧ Exa Z h a1 "java/lang/String" ∧ Fld Z h a1 "java/lang/String" "value" "[B" (.ref b) ∧ Fld Z h a1 "java/lang/String" "coder" "B" (.int (0 : Int32)) ∧ own_A Z h b .byte [(.int ((c0.toInt8.toInt32).toInt8.toInt32)), (.int ((c1.toInt8.toInt32).toInt8.toInt32))]
set_option maxHeartbeats 40000000 in
theorem rm4n2 (l : Launch) (Z : State) (a0 : Array Value) (hw : ∀ d ∈ tables_1, d.before a0 Z = true) (ws : List Jvm.Cond) (a1 : Addr) (a2 : Addr) (cs : Int32) (c0 : Int32) (c1 : Int32) (h0 : Heap) (n0 : Nat) (Z0 : n0 ≤ h0.size) (F0 : Exa Z h0 a1 "java/lang/String") (F1 : Fld Z h0 a1 "java/lang/String" "value" "[B" .null) (F2 : Fld Z h0 a1 "java/lang/String" "coder" "B" (.int (0 : Int32))) (F3 : own_A Z h0 a2 .char [(.int c0), (.int c1)]) (F4 : Sta Z h0 "java/lang/String" "COMPACT_STRINGS" "Z" (.int cs)) (ga : n0 ≤ a1) (hcs : ¬ (cs = (0 : Int32))) (hc0_ : ¬ ((255 : Int32) < c0)) (hc1_ : ¬ ((255 : Int32) < c1)) :
    MetFree l (⟨"java/lang/String", "<init>", "([CIILjava/lang/Void;)V"⟩ : MethodName) (head1 (Jvm.Cond.code (⟨"java/lang/String", "<init>", "([CIILjava/lang/Void;)V"⟩ : MethodName) jdk_42_method_149_code 6 none :: ws) ({ frames := 2, cells := 1, slots := 2, locals := 35 } : Room)) (fun a U => a = #[(.ref a1), (.ref a2), (.int (0 : Int32)), (.int (2 : Int32)), .null] ∧ Z.Warmed39 U.vm ∧ U.heap = h0) (fun _ _ _ _ _ => True) (fun _ U o U' => ∃ v L, o = .returned v ∧ Q4n2 Z a1 a2 cs c0 c1 h0 n0 v U'.heap L ∧ FrameEnd U o U' L ({ frames := 2, cells := 1, slots := 2, locals := 35 } : Room).cells ({ frames := 2, cells := 1, slots := 2, locals := 35 } : Room).slots) := by
  refine MetFree.of_bodySF (plainFor_of_name own_pn3) hisR ?_
  intro p e s m args below meth c s₁ Bd hml0 hP hK
  obtain ⟨rfl, hZ, hh⟩ := hP
  have hx := Bd.exec
  have hby := Bd.bytes
  have hml : c.maxLocals = 6 := hml0
  have hlk : meth.locks = false := BodyLoose.notSynchronized Bd
  have hown : s.vm.findClass "java/lang/String" = some m.cls := findClass_of_methodNamed Bd.named
  have hnm := (name_of_methodNamed Bd.named Bd.method).1
  have X0 : Stand p l e ({ frames := 2, cells := 1, slots := 2, locals := 35 } : Room) s m #[(.ref a1), (.ref a2), (.int (0 : Int32)), (.int (2 : Int32)), .null] below meth c s₁ [] 0 0 := Stand.of_body Bd
  have e0 : s₁.heap = h0 := by rw [← hh, Bd.state]; rfl
  have N0 := Fr.nil n0
  show own_Go p e below s (Q4n2 Z a1 a2 cs c0 c1 h0 n0) ({ frames := 2, cells := 1, slots := 2, locals := 35 } : Room).cells ({ frames := 2, cells := 1, slots := 2, locals := 35 } : Room).slots _
  refine own_st (B := s₁.setTop (mkF m 0 #[.val (.ref a1), .val (.ref a2), .val (.int (0 : Int32)), .val (.int (2 : Int32)), .val .null, .unset] [])) (fun t k => castTop (ef_4n2 m (a1) (a2) ((0 : Int32)) ((2 : Int32))) k) ?_
  refine own_st (B := s₁.setTop (mkF m 1 #[.val (.ref a1), .val (.ref a2), .val (.int (0 : Int32)), .val (.int (2 : Int32)), .val .null, .unset] [(.ref a1)])) (fun t k => XS.aloadN X0.here hx rfl (hb hby d4_0) rfl rfl k) ?_
  obtain ⟨T1, X1, e1, st1⟩ := initO X0 hx hZ hown (w_21 hw) (w_22 hw) (w_23 hw) e0 (g := (mkF m 1 #[.val (.ref a1), .val (.ref a2), .val (.int (0 : Int32)), .val (.int (2 : Int32)), .val .null, .unset] [(.ref a1)])) rfl (by rw [hml]; rfl) rfl (hb hby d4_1) (by decide) (W := 0) (by show 2 * 0 + _ ≤ _; exact Nat.le_of_eq rfl) (by decide)
  refine own_st (B := T1.setTop (mkF m 4 #[.val (.ref a1), .val (.ref a2), .val (.int (0 : Int32)), .val (.int (2 : Int32)), .val .null, .unset] [])) (fun t k => st1 t k) ?_
  refine own_st (B := T1.setTop (mkF m 5 #[.val (.ref a1), .val (.ref a2), .val (.int (0 : Int32)), .val (.int (2 : Int32)), .val .null, .unset] [(.int (2 : Int32))])) (fun t k => XS.iloadN X1.here hx rfl (hb hby d4_4) rfl k) ?_
  refine own_st (B := T1.setTop (mkF m 27 #[.val (.ref a1), .val (.ref a2), .val (.int (0 : Int32)), .val (.int (2 : Int32)), .val .null, .unset] [])) (fun t k => XS.ifYes X1.here hx rfl (pc0 := 5) (pc' := 27) rfl (hb hby d4_5) rfl (by decide) (by decide) (by decide) k) ?_
  obtain ⟨T2, X2, e2, st2⟩ := getS2 X1 hx hZ hown (host := "") (Or.inl (w_56 hw)) Via.refl e1 F4 (g := (mkF m 27 #[.val (.ref a1), .val (.ref a2), .val (.int (0 : Int32)), .val (.int (2 : Int32)), .val .null, .unset] [])) rfl (hb hby d4_27)
  refine own_st (B := T2.setTop (mkF m 30 #[.val (.ref a1), .val (.ref a2), .val (.int (0 : Int32)), .val (.int (2 : Int32)), .val .null, .unset] [(.int cs)])) (fun t k => st2 t k) ?_
  refine own_st (B := T2.setTop (mkF m 33 #[.val (.ref a1), .val (.ref a2), .val (.int (0 : Int32)), .val (.int (2 : Int32)), .val .null, .unset] [])) (fun t k => XS.ifNo X2.here hx rfl (hb hby d4_30) rfl (XT.i0_eq_f hcs) k) ?_
  refine own_st (B := T2.setTop (mkF m 34 #[.val (.ref a1), .val (.ref a2), .val (.int (0 : Int32)), .val (.int (2 : Int32)), .val .null, .unset] [(.ref a2)])) (fun t k => XS.aloadN X2.here hx rfl (hb hby d4_33) rfl rfl k) ?_
  refine own_st (B := T2.setTop (mkF m 35 #[.val (.ref a1), .val (.ref a2), .val (.int (0 : Int32)), .val (.int (2 : Int32)), .val .null, .unset] [(.int (0 : Int32)), (.ref a2)])) (fun t k => XS.iloadN X2.here hx rfl (hb hby d4_34) rfl k) ?_
  refine own_st (B := T2.setTop (mkF m 36 #[.val (.ref a1), .val (.ref a2), .val (.int (0 : Int32)), .val (.int (2 : Int32)), .val .null, .unset] [(.int (2 : Int32)), (.int (0 : Int32)), (.ref a2)])) (fun t k => XS.iloadN X2.here hx rfl (hb hby d4_35) rfl k) ?_
  obtain ⟨_, _, ⟨T3, L3, k3, j3⟩, -, X3, ⟨Lc3, hQ3, l3, y3_, z3_⟩, st3⟩ := Jvm.LawKit.callS X2 hx (y := (⟨"java/lang/StringUTF16", "compress", "([CII)[B"⟩ : MethodName)) hown (mvT hZ (w_63 hw)) (mvT hZ (w_64 hw)) (mvT hZ (w_65 hw)) (mvT hZ (w_66 hw)) (by decide) (backOf (W := 0) (rm11n2 l Z a0 hw [] a2 c0 c1 h0 n0 Z0 F3 hc0_ hc1_) hZ (w_66 hw) (w_65 hw) (by decide) (by decide)) (g := (mkF m 36 #[.val (.ref a1), .val (.ref a2), .val (.int (0 : Int32)), .val (.int (2 : Int32)), .val .null, .unset] [(.int (2 : Int32)), (.int (0 : Int32)), (.ref a2)])) rfl (by rw [hml]; rfl) (argsL := [(.ref a2), (.int (0 : Int32)), (.int (2 : Int32))]) (rest := []) (lenOf own_pd3 rfl) rfl (by show 2 * 0 + _ ≤ _; exact Nat.le_of_eq rfl) (hb hby d4_36) (fun _ _ => ⟨rfl, e2, (by decide : 0 + 1 ≤ _), (by decide : 0 + 2 ≤ _)⟩)
  dsimp only [Pt.U, Pt.locs, Pt.cells, Pt.slots] at X3 l3 y3_ z3_ st3 hQ3
  subst l3 y3_ z3_
  obtain ⟨b_3, rfl, N3q, K3, u3_b, y3_b, p3_0⟩ := hQ3
  have N3 := Fr.app N0 N3q
  have q3_b_a1 : a1 ≠ b_3 := Nat.ne_of_lt (Nat.lt_of_lt_of_le F0.lt y3_b)
  have q3_b_a2 : a2 ≠ b_3 := Nat.ne_of_lt (Nat.lt_of_lt_of_le F3.lt y3_b)
  have y4 : h0.size ≤ b_3 := Nat.le_trans (Keep.refl h0 [a1]).1 y3_b
  have z5 : n0 ≤ T3.heap.size := Nat.le_trans Z0 K3.1
  have kp5 : Keep h0 T3.heap [a1] := (Keep.refl h0 [a1]).trans K3 all0
  refine own_st (B := T3.setTop (mkF m 39 #[.val (.ref a1), .val (.ref a2), .val (.int (0 : Int32)), .val (.int (2 : Int32)), .val .null, .unset] [(.ref b_3)])) (fun t k => st3 t k) ?_
  refine own_st (B := T3.setTop (mkF m 41 #[.val (.ref a1), .val (.ref a2), .val (.int (0 : Int32)), .val (.int (2 : Int32)), .val .null, .val (.ref b_3)] [])) (fun t k => XS.astore X3.here hx rfl (hb hby d4_39) rfl rfl (l' := #[.val (.ref a1), .val (.ref a2), .val (.int (0 : Int32)), .val (.int (2 : Int32)), .val .null, .val (.ref b_3)]) rfl k) ?_
  refine own_st (B := T3.setTop (mkF m 42 #[.val (.ref a1), .val (.ref a2), .val (.int (0 : Int32)), .val (.int (2 : Int32)), .val .null, .val (.ref b_3)] [(.ref a1)])) (fun t k => XS.aloadN X3.here hx rfl (hb hby d4_41) rfl rfl k) ?_
  refine own_st (B := T3.setTop (mkF m 44 #[.val (.ref a1), .val (.ref a2), .val (.int (0 : Int32)), .val (.int (2 : Int32)), .val .null, .val (.ref b_3)] [(.ref b_3), (.ref a1)])) (fun t k => XS.aload X3.here hx rfl (hb hby d4_42) rfl rfl k) ?_
  refine own_st (B := T3.setTop (mkF m 45 #[.val (.ref a1), .val (.ref a2), .val (.int (0 : Int32)), .val (.int (2 : Int32)), .val .null, .val (.ref b_3)] [(.int (2 : Int32)), (.ref b_3), (.ref a1)])) (fun t k => XS.iloadN X3.here hx rfl (hb hby d4_44) rfl k) ?_
  obtain ⟨_, _, ⟨T6, L6, k6, j6⟩, -, X6, ⟨Lc6, hQ6, l6, y6_, z6_⟩, st6⟩ := Jvm.LawKit.callS X3 hx (y := (⟨"java/lang/StringUTF16", "coderFromArrayLen", "([BI)B"⟩ : MethodName)) hown (mvT hZ (w_70 hw)) (mvT hZ (w_71 hw)) (mvT hZ (w_65 hw)) (mvT hZ (w_72 hw)) (by decide) (backOf (W := 1) (rm13n2 l Z a0 hw [] b_3 c0 c1 T3.heap n0 z5 p3_0) hZ (w_72 hw) (w_65 hw) (by decide) (by decide)) (g := (mkF m 45 #[.val (.ref a1), .val (.ref a2), .val (.int (0 : Int32)), .val (.int (2 : Int32)), .val .null, .val (.ref b_3)] [(.int (2 : Int32)), (.ref b_3), (.ref a1)])) rfl (by rw [hml]; rfl) (argsL := [(.ref b_3), (.int (2 : Int32))]) (rest := [(.ref a1)]) (lenOf own_pd4 rfl) rfl (by show 2 * 0 + _ ≤ _; exact Nat.le_of_eq rfl) (hb hby d4_45) (fun _ _ => ⟨rfl, rfl, (by decide : 1 + 0 ≤ _), (by decide : 2 + 0 ≤ _)⟩)
  dsimp only [Pt.U, Pt.locs, Pt.cells, Pt.slots] at X6 l6 y6_ z6_ st6 hQ6
  subst l6 y6_ z6_
  obtain ⟨rfl, N6q, e6q⟩ := hQ6
  have N6 := Fr.app N3 N6q
  refine own_st (B := T6.setTop (mkF m 48 #[.val (.ref a1), .val (.ref a2), .val (.int (0 : Int32)), .val (.int (2 : Int32)), .val .null, .val (.ref b_3)] [(.int (0 : Int32)), (.ref a1)])) (fun t k => st6 t k) ?_
  have f7 : Exa Z T3.heap a1 "java/lang/String" := (F0.keep K3)
  have f8 : Fld Z T3.heap a1 "java/lang/String" "coder" "B" (.int (0 : Int32)) := (F2.keep K3 nin0)
  obtain ⟨T9, h9, X9, e9, W9, st9⟩ := putFN X6 hx hZ hown (w_31 hw) Via.refl e6q f8 f7 (Or.inr ⟨(w_27 hw), rfl, hnm⟩) (w_11 hw) (ty := .byte) (v' := .int (nar .byte (0 : Int32))) (by decide) rfl (fits_nar_byte _) (g := (mkF m 48 #[.val (.ref a1), .val (.ref a2), .val (.int (0 : Int32)), .val (.int (2 : Int32)), .val .null, .val (.ref b_3)] [(.int (0 : Int32)), (.ref a1)])) rfl rfl (hb hby d4_48)
  have f9_ : Fld Z h9 a1 "java/lang/String" "coder" "B" (.int (nar .byte (0 : Int32))) := f8.same W9
  have z10 : n0 ≤ h9.size := Nat.le_trans z5 (Keep.of_wr W9).1
  have kp10 : Keep h0 h9 [a1] := kp5.wr W9 (Or.inl (List.mem_of_getElem? (i := 0) rfl))
  have n11 := Fr.snoc X9 N6 ga
  refine own_st (B := T9.setTop (mkF m 51 #[.val (.ref a1), .val (.ref a2), .val (.int (0 : Int32)), .val (.int (2 : Int32)), .val .null, .val (.ref b_3)] [])) (fun t k => st9 t k) ?_
  have f12 : Fld Z h9 a1 "java/lang/String" "coder" "B" (.int (0 : Int32)) := by have q : nar .byte (0 : Int32) = (0 : Int32) := (by decide); rw [q] at f9_; exact f9_
  refine own_st (B := T9.setTop (mkF m 52 #[.val (.ref a1), .val (.ref a2), .val (.int (0 : Int32)), .val (.int (2 : Int32)), .val .null, .val (.ref b_3)] [(.ref a1)])) (fun t k => XS.aloadN X9.here hx rfl (hb hby d4_51) rfl rfl k) ?_
  refine own_st (B := T9.setTop (mkF m 54 #[.val (.ref a1), .val (.ref a2), .val (.int (0 : Int32)), .val (.int (2 : Int32)), .val .null, .val (.ref b_3)] [(.ref b_3), (.ref a1)])) (fun t k => XS.aload X9.here hx rfl (hb hby d4_52) rfl rfl k) ?_
  have f13 : Exa Z h9 a1 "java/lang/String" := (f7.wr W9)
  have f14 : Fld Z h9 a1 "java/lang/String" "value" "[B" .null := ((F1.keep K3 nin0).other W9 (Or.inr (slot_ne (Or.inr (w_26 hw)) (Or.inr (w_27 hw)) (by decide) (t := (.array .byte)) (t' := .byte) (by decide) (by decide))))
  obtain ⟨T15, h15, X15, e15, W15, st15⟩ := putF X9 hx hZ hown (host := "") (Or.inl (w_30 hw)) Via.refl e9 f14 f13 (Or.inr ⟨(w_26 hw), rfl, hnm⟩) (w_11 hw) (ty := (.array .byte)) (by decide) rfl rfl (g := (mkF m 54 #[.val (.ref a1), .val (.ref a2), .val (.int (0 : Int32)), .val (.int (2 : Int32)), .val .null, .val (.ref b_3)] [(.ref b_3), (.ref a1)])) rfl rfl (hb hby d4_54)
  have f15_ : Fld Z h15 a1 "java/lang/String" "value" "[B" (.ref b_3) := f14.same W15
  have z16 : n0 ≤ h15.size := Nat.le_trans z10 (Keep.of_wr W15).1
  have kp16 : Keep h0 h15 [a1] := kp10.wr W15 (Or.inl (List.mem_of_getElem? (i := 0) rfl))
  have n17 := Fr.snoc X15 n11 ga
  refine own_st (B := T15.setTop (mkF m 57 #[.val (.ref a1), .val (.ref a2), .val (.int (0 : Int32)), .val (.int (2 : Int32)), .val .null, .val (.ref b_3)] [])) (fun t k => st15 t k) ?_
  refine own_retV X15 hx hlk Bd.returns (hb hby d4_57) (by decide) (by decide) ?_
  show Q4n2 Z a1 a2 cs c0 c1 h0 n0 _ T15.heap _
  rw [e15]
  have f18 : Exa Z h15 a1 "java/lang/String" := (f13.wr W15)
  have f19 : Fld Z h15 a1 "java/lang/String" "coder" "B" (.int (0 : Int32)) := (f12.other W15 (Or.inr (slot_ne (Or.inr (w_27 hw)) (Or.inr (w_26 hw)) (by decide) (t := .byte) (t' := (.array .byte)) (by decide) (by decide))))
  have f20 : own_A Z h15 b_3 .byte [(.int ((c0.toInt8.toInt32).toInt8.toInt32)), (.int ((c1.toInt8.toInt32).toInt8.toInt32))] := ((p3_0.other W9 (Ne.symm q3_b_a1)).other W15 (Ne.symm q3_b_a1))
  exact ⟨b_3, rfl, n17, kp16, u3_b, y4, f18, f15_, f19, f20⟩
theorem ef_3n2 (m : MethodId) (x0 : Addr) (x1 : Addr) : entryFrame m #[(.ref x0), (.ref x1)] 2 = mkF m 0 #[.val (.ref x0), .val (.ref x1)] [] := by first | (simp [entryFrame, mkF, argsToLocals, Value.category]; done) | rfl
def Q3n2 (Z : State) (a1 : Addr) (a2 : Addr) (cs : Int32) (c0 : Int32) (c1 : Int32) (h0 : Heap) (n0 : Nat) (v : Option Value) (h : Heap) (L : List Loc) : Prop := ∃ (b : Addr), v = none ∧ Fr n0 L ∧ Keep h0 h [a1] ∧ n0 ≤ b ∧ h0.size ≤ b ∧ Exa Z h a1 "java/lang/String" ∧ Fld Z h a1 "java/lang/String" "value" "[B" (.ref b) ∧ Fld Z h a1 "java/lang/String" "coder" "B" (.int (0 : Int32)) ∧ own_A Z h b .byte [(.int ((c0.toInt8.toInt32).toInt8.toInt32)), (.int ((c1.toInt8.toInt32).toInt8.toInt32))]
set_option maxHeartbeats 40000000 in
theorem rm3n2 (l : Launch) (Z : State) (a0 : Array Value) (hw : ∀ d ∈ tables_1, d.before a0 Z = true) (ws : List Jvm.Cond) (a1 : Addr) (a2 : Addr) (cs : Int32) (c0 : Int32) (c1 : Int32) (h0 : Heap) (n0 : Nat) (Z0 : n0 ≤ h0.size) (F0 : Exa Z h0 a1 "java/lang/String") (F1 : Fld Z h0 a1 "java/lang/String" "value" "[B" .null) (F2 : Fld Z h0 a1 "java/lang/String" "coder" "B" (.int (0 : Int32))) (F3 : own_A Z h0 a2 .char [(.int c0), (.int c1)]) (F4 : Sta Z h0 "java/lang/String" "COMPACT_STRINGS" "Z" (.int cs)) (ga : n0 ≤ a1) (hcs : ¬ (cs = (0 : Int32))) (hc0_ : ¬ ((255 : Int32) < c0)) (hc1_ : ¬ ((255 : Int32) < c1)) :
    MetFree l (⟨"java/lang/String", "<init>", "([C)V"⟩ : MethodName) (head1 (Jvm.Cond.code (⟨"java/lang/String", "<init>", "([C)V"⟩ : MethodName) jdk_42_method_3_code 2 none :: ws) ({ frames := 3, cells := 1, slots := 2, locals := 52 } : Room)) (fun a U => a = #[(.ref a1), (.ref a2)] ∧ Z.Warmed39 U.vm ∧ U.heap = h0) (fun _ _ _ _ _ => True) (fun _ U o U' => ∃ v L, o = .returned v ∧ Q3n2 Z a1 a2 cs c0 c1 h0 n0 v U'.heap L ∧ FrameEnd U o U' L ({ frames := 3, cells := 1, slots := 2, locals := 52 } : Room).cells ({ frames := 3, cells := 1, slots := 2, locals := 52 } : Room).slots) := by
  refine MetFree.of_bodySF (plainFor_of_name own_pn3) hisR ?_
  intro p e s m args below meth c s₁ Bd hml0 hP hK
  obtain ⟨rfl, hZ, hh⟩ := hP
  have hx := Bd.exec
  have hby := Bd.bytes
  have hml : c.maxLocals = 2 := hml0
  have hlk : meth.locks = false := BodyLoose.notSynchronized Bd
  have hown : s.vm.findClass "java/lang/String" = some m.cls := findClass_of_methodNamed Bd.named
  have hnm := (name_of_methodNamed Bd.named Bd.method).1
  have X0 : Stand p l e ({ frames := 3, cells := 1, slots := 2, locals := 52 } : Room) s m #[(.ref a1), (.ref a2)] below meth c s₁ [] 0 0 := Stand.of_body Bd
  have e0 : s₁.heap = h0 := by rw [← hh, Bd.state]; rfl
  have N0 := Fr.nil n0
  show own_Go p e below s (Q3n2 Z a1 a2 cs c0 c1 h0 n0) ({ frames := 3, cells := 1, slots := 2, locals := 52 } : Room).cells ({ frames := 3, cells := 1, slots := 2, locals := 52 } : Room).slots _
  refine own_st (B := s₁.setTop (mkF m 0 #[.val (.ref a1), .val (.ref a2)] [])) (fun t k => castTop (ef_3n2 m (a1) (a2)) k) ?_
  refine own_st (B := s₁.setTop (mkF m 1 #[.val (.ref a1), .val (.ref a2)] [(.ref a1)])) (fun t k => XS.aloadN X0.here hx rfl (hb hby d3_0) rfl rfl k) ?_
  refine own_st (B := s₁.setTop (mkF m 2 #[.val (.ref a1), .val (.ref a2)] [(.ref a2), (.ref a1)])) (fun t k => XS.aloadN X0.here hx rfl (hb hby d3_1) rfl rfl k) ?_
  refine own_st (B := s₁.setTop (mkF m 3 #[.val (.ref a1), .val (.ref a2)] [(.int (0 : Int32)), (.ref a2), (.ref a1)])) (fun t k => XS.iconst X0.here hx rfl (hb hby d3_2) k) ?_
  refine own_st (B := s₁.setTop (mkF m 4 #[.val (.ref a1), .val (.ref a2)] [(.ref a2), (.int (0 : Int32)), (.ref a2), (.ref a1)])) (fun t k => XS.aloadN X0.here hx rfl (hb hby d3_3) rfl rfl k) ?_
  refine own_st (B := s₁.setTop (mkF m 5 #[.val (.ref a1), .val (.ref a2)] [(.int (2 : Int32)), (.int (0 : Int32)), (.ref a2), (.ref a1)])) (fun t k => own_len X0 hx hZ e0 F3 (g := (mkF m 4 #[.val (.ref a1), .val (.ref a2)] [(.ref a2), (.int (0 : Int32)), (.ref a2), (.ref a1)])) (n := (2 : Int32)) (show (2 : Int32).toInt = ((2 : Nat) : Int) from by decide) rfl rfl (hb hby d3_4) k) ?_
  refine own_st (B := s₁.setTop (mkF m 6 #[.val (.ref a1), .val (.ref a2)] [.null, (.int (2 : Int32)), (.int (0 : Int32)), (.ref a2), (.ref a1)])) (fun t k => XS.aconstNull X0.here hx rfl (hb hby d3_5) k) ?_
  obtain ⟨_, _, ⟨T1, L1, k1, j1⟩, -, X1, ⟨Lc1, hQ1, l1, y1_, z1_⟩, st1⟩ := X0.specialBack hx (y := (⟨"java/lang/String", "<init>", "([CIILjava/lang/Void;)V"⟩ : MethodName)) rfl hown (mvT hZ (w_17 hw)) (mvT hZ (w_18 hw)) (mvT hZ (w_20 hw)) (by decide) (backOf (W := 0) (rm4n2 l Z a0 hw [] a1 a2 cs c0 c1 h0 n0 Z0 F0 F1 F2 F3 F4 ga hcs hc0_ hc1_) hZ (w_20 hw) (w_12 hw) (by decide) (by decide)) (g := (mkF m 6 #[.val (.ref a1), .val (.ref a2)] [.null, (.int (2 : Int32)), (.int (0 : Int32)), (.ref a2), (.ref a1)])) rfl (by rw [hml]; rfl) (Steps.refl _) (a := a1) (argsL := [(.ref a2), (.int (0 : Int32)), (.int (2 : Int32)), .null]) (rest := []) (lenOf own_pd6 rfl) rfl (by show 2 * 0 + _ ≤ _; exact Nat.le_of_eq rfl) (hb hby d3_6) (fun _ _ => ⟨rfl, e0, (by decide : 0 + 1 ≤ _), (by decide : 0 + 2 ≤ _)⟩)
  dsimp only [Pt.U, Pt.locs, Pt.cells, Pt.slots] at X1 l1 y1_ z1_ st1 hQ1
  subst l1 y1_ z1_
  obtain ⟨b_1, rfl, N1q, K1, u1_b, y1_b, p1_0, p1_1, p1_2, p1_3⟩ := hQ1
  have N1 := Fr.app N0 N1q
  have q1_b_a1 : a1 ≠ b_1 := Nat.ne_of_lt (Nat.lt_of_lt_of_le F0.lt y1_b)
  have q1_b_a2 : a2 ≠ b_1 := Nat.ne_of_lt (Nat.lt_of_lt_of_le F3.lt y1_b)
  have y2 : h0.size ≤ b_1 := Nat.le_trans (Keep.refl h0 [a1]).1 y1_b
  have z3 : n0 ≤ T1.heap.size := Nat.le_trans Z0 K1.1
  have kp3 : Keep h0 T1.heap [a1] := (Keep.refl h0 [a1]).trans K1 (allS (Or.inl (List.mem_of_getElem? (i := 0) rfl)) all0)
  refine own_ss (B := T1.setTop (mkF m 9 #[.val (.ref a1), .val (.ref a2)] [])) st1 ?_
  refine own_retV X1 hx hlk Bd.returns (hb hby d3_9) (by decide) (by decide) ?_
  show Q3n2 Z a1 a2 cs c0 c1 h0 n0 _ T1.heap _
  exact ⟨b_1, rfl, N1, kp3, u1_b, y2, p1_0, p1_1, p1_2, p1_3⟩
theorem d4_8 : decode jdk_42_method_149_code 8 = .ok (.aload_n 0, 1) := by decide +kernel
theorem d4_9 : decode jdk_42_method_149_code 9 = .ok (.ldc 7, 2) := by decide +kernel
theorem d4_11 : decode jdk_42_method_149_code 11 = .ok (.getfield 9, 3) := by decide +kernel
theorem d4_14 : decode jdk_42_method_149_code 14 = .ok (.putfield 9, 3) := by decide +kernel
theorem d4_17 : decode jdk_42_method_149_code 17 = .ok (.aload_n 0, 1) := by decide +kernel
theorem d4_18 : decode jdk_42_method_149_code 18 = .ok (.ldc 7, 2) := by decide +kernel
theorem d4_20 : decode jdk_42_method_149_code 20 = .ok (.getfield 15, 3) := by decide +kernel
theorem d4_23 : decode jdk_42_method_149_code 23 = .ok (.putfield 15, 3) := by decide +kernel
theorem d4_26 : decode jdk_42_method_149_code 26 = .ok (.return_, 1) := by decide +kernel
theorem ef_4n0 (m : MethodId) (x0 : Addr) (x1 : Addr) (x2 : Int32) (x3 : Int32) : entryFrame m #[(.ref x0), (.ref x1), (.int x2), (.int x3), .null] 6 = mkF m 0 #[.val (.ref x0), .val (.ref x1), .val (.int x2), .val (.int x3), .val .null, .unset] [] := by first | (simp [entryFrame, mkF, argsToLocals, Value.category]; done) | rfl
def Q4n0 (Z : State) (a1 : Addr) (a2 : Addr) (h0 : Heap) (n0 : Nat) (v : Option Value) (h : Heap) (L : List Loc) : Prop := ∃ (b : Addr), v = none ∧ Fr n0 L ∧ Keep h0 h [a1] ∧ Exa Z h a1 "java/lang/String" ∧ Fld Z h a1 "java/lang/String" "value" "[B" (.ref b) ∧ Fld Z h a1 "java/lang/String" "coder" "B" (.int (0 : Int32)) ∧ own_A Z h b .byte ([] : List Value)
set_option maxHeartbeats 40000000 in
theorem rm4n0 (l : Launch) (Z : State) (a0 : Array Value) (hw : ∀ d ∈ tables_1, d.before a0 Z = true) (ws : List Jvm.Cond) (a1 : Addr) (a2 : Addr) (h0 : Heap) (n0 : Nat) (Z0 : n0 ≤ h0.size) (F0 : Exa Z h0 a1 "java/lang/String") (F1 : Fld Z h0 a1 "java/lang/String" "value" "[B" .null) (F2 : Fld Z h0 a1 "java/lang/String" "coder" "B" (.int (0 : Int32))) (ga : n0 ≤ a1) :
    MetFree l (⟨"java/lang/String", "<init>", "([CIILjava/lang/Void;)V"⟩ : MethodName) (head1 (Jvm.Cond.code (⟨"java/lang/String", "<init>", "([CIILjava/lang/Void;)V"⟩ : MethodName) jdk_42_method_149_code 6 none :: ws) ({ frames := 1, cells := 4, slots := 8, locals := 12 } : Room)) (fun a U => a = #[(.ref a1), (.ref a2), (.int (0 : Int32)), (.int (0 : Int32)), .null] ∧ Z.Warmed39 U.vm ∧ U.heap = h0 ∧ CHv Z own_EL U.vm h0 ∧ ∀ x ∈ ([a1] : List Addr), Safe Z own_EL U.vm h0 x) (fun _ _ _ _ _ => True) (fun _ U o U' => ∃ v L, o = .returned v ∧ Q4n0 Z a1 a2 h0 n0 v U'.heap L ∧ CHr Z own_EL U.vm h0 U'.vm U'.heap ∧ ReturnedEndW U o U' L ({ frames := 1, cells := 4, slots := 8, locals := 12 } : Room).cells ({ frames := 1, cells := 4, slots := 8, locals := 12 } : Room).slots) := by
  refine MetFree.of_bodySF (plainFor_of_name own_pn3) hisR ?_
  intro p e s m args below meth c s₁ Bd hml0 hP hK
  obtain ⟨rfl, hZ, hh, hCH, hSF⟩ := hP
  have hx := Bd.exec
  have hby := Bd.bytes
  have hml : c.maxLocals = 6 := hml0
  have hlk : meth.locks = false := BodyLoose.notSynchronized Bd
  have hown : s.vm.findClass "java/lang/String" = some m.cls := findClass_of_methodNamed Bd.named
  have hnm := (name_of_methodNamed Bd.named Bd.method).1
  have X0 : Stand p l e ({ frames := 1, cells := 4, slots := 8, locals := 12 } : Room) (s.setVm s.vm) m #[(.ref a1), (.ref a2), (.int (0 : Int32)), (.int (0 : Int32)), .null] below meth c s₁ [] 0 0 := Stand.of_body Bd
  have e0 : s₁.heap = h0 := by rw [← hh, Bd.state]; rfl
  have N0 := Fr.nil n0
  have hS0 : s.Since s.vm s.heap.size := (State.WarmedH.refl s).since _
  have hk0 : s.heap.size ≤ h0.size := Nat.le_of_eq (congrArg Array.size hh)
  have ch0 : CHr Z own_EL s.vm h0 s.vm h0 := CHr.refl hCH
  show own_GoW p e below s (Q4n0 Z a1 a2 h0 n0) (fun vm h => CHr Z own_EL s.vm h0 vm h) ({ frames := 1, cells := 4, slots := 8, locals := 12 } : Room).cells ({ frames := 1, cells := 4, slots := 8, locals := 12 } : Room).slots _
  refine own_stW (B := s₁.setTop (mkF m 0 #[.val (.ref a1), .val (.ref a2), .val (.int (0 : Int32)), .val (.int (0 : Int32)), .val .null, .unset] [])) (fun t k => castTop (ef_4n0 m (a1) (a2) ((0 : Int32)) ((0 : Int32))) k) ?_
  refine own_stW (B := s₁.setTop (mkF m 1 #[.val (.ref a1), .val (.ref a2), .val (.int (0 : Int32)), .val (.int (0 : Int32)), .val .null, .unset] [(.ref a1)])) (fun t k => XS.aloadN X0.here hx rfl (hb hby d4_0) rfl rfl k) ?_
  obtain ⟨T1, X1, e1, st1⟩ := initO X0 hx hZ hown (w_21 hw) (w_22 hw) (w_23 hw) e0 (g := (mkF m 1 #[.val (.ref a1), .val (.ref a2), .val (.int (0 : Int32)), .val (.int (0 : Int32)), .val .null, .unset] [(.ref a1)])) rfl (by rw [hml]; rfl) rfl (hb hby d4_1) (by decide) (W := 0) (by show 2 * 0 + _ ≤ _; exact Nat.le_of_eq rfl) (by decide)
  refine own_stW (B := T1.setTop (mkF m 4 #[.val (.ref a1), .val (.ref a2), .val (.int (0 : Int32)), .val (.int (0 : Int32)), .val .null, .unset] [])) (fun t k => st1 t k) ?_
  refine own_stW (B := T1.setTop (mkF m 5 #[.val (.ref a1), .val (.ref a2), .val (.int (0 : Int32)), .val (.int (0 : Int32)), .val .null, .unset] [(.int (0 : Int32))])) (fun t k => XS.iloadN X1.here hx rfl (hb hby d4_4) rfl k) ?_
  refine own_stW (B := T1.setTop (mkF m 8 #[.val (.ref a1), .val (.ref a2), .val (.int (0 : Int32)), .val (.int (0 : Int32)), .val .null, .unset] [])) (fun t k => XS.ifNo X1.here hx rfl (hb hby d4_5) rfl (by decide) k) ?_
  refine own_stW (B := T1.setTop (mkF m 9 #[.val (.ref a1), .val (.ref a2), .val (.int (0 : Int32)), .val (.int (0 : Int32)), .val .null, .unset] [(.ref a1)])) (fun t k => XS.aloadN X1.here hx rfl (hb hby d4_8) rfl rfl k) ?_
  obtain ⟨b2, T2, h2, kk2, bb2, kc2, X2, e2, E2, hS2, hk2, hZ, hown, A2, C2, V2, R2, -, -, ch2_, -, hne2, st2⟩ := ldcCH (EL := own_EL) (a0 := a0) X1 hx hZ hown (w_24 hw) (own_sA hw) e1 hS0 hk0 (own_ew hw) (List.mem_of_getElem? (i := 0) rfl) ch0.1 (vs := []) (z := (0 : Int32)) ⟨by decide, rfl⟩ (by decide) rfl (g := (mkF m 9 #[.val (.ref a1), .val (.ref a2), .val (.int (0 : Int32)), .val (.int (0 : Int32)), .val .null, .unset] [(.ref a1)])) rfl (hb hby d4_9) (n := 0) (by decide) (by decide) (by decide) (by decide)
  have ch3 := ch0.trans ch2_
  have sf4 := CHr.safe ch2_ F0.lt (hSF a1 (List.mem_of_getElem? (i := 0) rfl))
  have z5 : n0 ≤ h2.size := Nat.le_trans Z0 E2.1
  have kp5 : Keep h0 h2 [a1] := (Keep.refl h0 [a1]).ext E2
  have fa2 : own_A Z h2 bb2 .byte ([] : List Value) := own_ofArv R2
  refine own_stW (B := T2.setTop (mkF m 11 #[.val (.ref a1), .val (.ref a2), .val (.int (0 : Int32)), .val (.int (0 : Int32)), .val .null, .unset] [(.ref b2), (.ref a1)])) (fun t k => st2 t k) ?_
  obtain ⟨T6, X6, e6, st6⟩ := getF X2 hx hZ hown (host := "") (Or.inl (w_30 hw)) Via.refl e2 V2 (g := (mkF m 11 #[.val (.ref a1), .val (.ref a2), .val (.int (0 : Int32)), .val (.int (0 : Int32)), .val .null, .unset] [(.ref b2), (.ref a1)])) rfl rfl (hb hby d4_11)
  refine own_stW (B := T6.setTop (mkF m 14 #[.val (.ref a1), .val (.ref a2), .val (.int (0 : Int32)), .val (.int (0 : Int32)), .val .null, .unset] [(.ref bb2), (.ref a1)])) (fun t k => st6 t k) ?_
  have f7 : Exa Z h2 a1 "java/lang/String" := (F0.ext E2)
  have f8 : Fld Z h2 a1 "java/lang/String" "value" "[B" .null := (F1.ext E2)
  obtain ⟨T9, h9, X9, e9, W9, st9⟩ := putF X6 hx hZ hown (host := "") (Or.inl (w_30 hw)) Via.refl e6 f8 f7 (Or.inr ⟨(w_26 hw), rfl, hnm⟩) (w_11 hw) (ty := (.array .byte)) (by decide) rfl rfl (g := (mkF m 14 #[.val (.ref a1), .val (.ref a2), .val (.int (0 : Int32)), .val (.int (0 : Int32)), .val .null, .unset] [(.ref bb2), (.ref a1)])) rfl rfl (hb hby d4_14)
  have f9_ : Fld Z h9 a1 "java/lang/String" "value" "[B" (.ref bb2) := f8.same W9
  have ch10 := ch3.trans (CHr.wr W9 sf4 ch3.1)
  have sf11 := Safe.wr W9 sf4 ch3.1 sf4
  have hk10 := Nat.le_trans hk2 (Keep.of_wr W9).1
  have z12 : n0 ≤ h9.size := Nat.le_trans z5 (Keep.of_wr W9).1
  have kp12 : Keep h0 h9 [a1] := kp5.wr W9 (Or.inl (List.mem_of_getElem? (i := 0) rfl))
  have n13 := Fr.snoc X9 N0 ga
  refine own_stW (B := T9.setTop (mkF m 17 #[.val (.ref a1), .val (.ref a2), .val (.int (0 : Int32)), .val (.int (0 : Int32)), .val .null, .unset] [])) (fun t k => st9 t k) ?_
  refine own_stW (B := T9.setTop (mkF m 18 #[.val (.ref a1), .val (.ref a2), .val (.int (0 : Int32)), .val (.int (0 : Int32)), .val .null, .unset] [(.ref a1)])) (fun t k => XS.aloadN X9.here hx rfl (hb hby d4_17) rfl rfl k) ?_
  obtain ⟨b14, T14, h14, kk14, bb14, kc14, X14, e14, E14, hS14, hk14, hZ, hown, A14, C14, V14, R14, -, -, ch14_, -, hne14, st14⟩ := ldcCH (EL := own_EL) (a0 := a0) X9 hx hZ hown (w_24 hw) (own_sA hw) e9 hS2 hk10 (own_ew hw) (List.mem_of_getElem? (i := 0) rfl) ch10.1 (vs := []) (z := (0 : Int32)) ⟨by decide, rfl⟩ (by decide) rfl (g := (mkF m 18 #[.val (.ref a1), .val (.ref a2), .val (.int (0 : Int32)), .val (.int (0 : Int32)), .val .null, .unset] [(.ref a1)])) rfl (hb hby d4_18) (n := 0) (by decide) (by decide) (by decide) (by decide)
  have f16 : Exa Z h9 a1 "java/lang/String" := (f7.wr W9)
  have ch15 := ch10.trans ch14_
  have sf17 := CHr.safe ch14_ f16.lt sf11
  have z18 : n0 ≤ h14.size := Nat.le_trans z12 E14.1
  have kp18 : Keep h0 h14 [a1] := kp12.ext E14
  have fa14 : own_A Z h14 bb14 .byte ([] : List Value) := own_ofArv R14
  refine own_stW (B := T14.setTop (mkF m 20 #[.val (.ref a1), .val (.ref a2), .val (.int (0 : Int32)), .val (.int (0 : Int32)), .val .null, .unset] [(.ref b14), (.ref a1)])) (fun t k => st14 t k) ?_
  obtain ⟨T19, X19, e19, st19⟩ := getF X14 hx hZ hown (host := "") (Or.inl (w_31 hw)) Via.refl e14 C14 (g := (mkF m 20 #[.val (.ref a1), .val (.ref a2), .val (.int (0 : Int32)), .val (.int (0 : Int32)), .val .null, .unset] [(.ref b14), (.ref a1)])) rfl rfl (hb hby d4_20)
  refine own_stW (B := T19.setTop (mkF m 23 #[.val (.ref a1), .val (.ref a2), .val (.int (0 : Int32)), .val (.int (0 : Int32)), .val .null, .unset] [(.int (0 : Int32)), (.ref a1)])) (fun t k => st19 t k) ?_
  have f20 : Exa Z h14 a1 "java/lang/String" := (f16.ext E14)
  have f21 : Fld Z h14 a1 "java/lang/String" "coder" "B" (.int (0 : Int32)) := (((F2.ext E2).other W9 (Or.inr (slot_ne (Or.inr (w_27 hw)) (Or.inr (w_26 hw)) (by decide) (t := .byte) (t' := (.array .byte)) (by decide) (by decide)))).ext E14)
  obtain ⟨T22, h22, X22, e22, W22, st22⟩ := putFN X19 hx hZ hown (w_31 hw) Via.refl e19 f21 f20 (Or.inr ⟨(w_27 hw), rfl, hnm⟩) (w_11 hw) (ty := .byte) (v' := .int (nar .byte (0 : Int32))) (by decide) rfl (fits_nar_byte _) (g := (mkF m 23 #[.val (.ref a1), .val (.ref a2), .val (.int (0 : Int32)), .val (.int (0 : Int32)), .val .null, .unset] [(.int (0 : Int32)), (.ref a1)])) rfl rfl (hb hby d4_23)
  have f22_ : Fld Z h22 a1 "java/lang/String" "coder" "B" (.int (nar .byte (0 : Int32))) := f21.same W22
  have ch23 := ch15.trans (CHr.wr W22 sf17 ch15.1)
  have sf24 := Safe.wr W22 sf17 ch15.1 sf17
  have hk23 := Nat.le_trans hk14 (Keep.of_wr W22).1
  have z25 : n0 ≤ h22.size := Nat.le_trans z18 (Keep.of_wr W22).1
  have kp25 : Keep h0 h22 [a1] := kp18.wr W22 (Or.inl (List.mem_of_getElem? (i := 0) rfl))
  have n26 := Fr.snoc X22 n13 ga
  refine own_stW (B := T22.setTop (mkF m 26 #[.val (.ref a1), .val (.ref a2), .val (.int (0 : Int32)), .val (.int (0 : Int32)), .val .null, .unset] [])) (fun t k => st22 t k) ?_
  have f27 : Fld Z h22 a1 "java/lang/String" "coder" "B" (.int (0 : Int32)) := by have q : nar .byte (0 : Int32) = (0 : Int32) := (by decide); rw [q] at f22_; exact f22_
  refine own_retVW X22 hS14 (show _ ≤ T22.heap.size by rw [e22]; exact hk23) hx hlk Bd.returns (hb hby d4_26) (by decide) (by decide) (show CHr Z own_EL s.vm h0 T22.vm T22.heap by rw [e22]; exact ch23.trans (CHv.at X22 hZ (own_ew hw) ch23.1)) ?_
  show Q4n0 Z a1 a2 h0 n0 _ T22.heap _
  rw [e22]
  have f28 : Exa Z h22 a1 "java/lang/String" := (f20.wr W22)
  have f29 : Fld Z h22 a1 "java/lang/String" "value" "[B" (.ref bb2) := ((f9_.ext E14).other W22 (Or.inr (slot_ne (Or.inr (w_26 hw)) (Or.inr (w_27 hw)) (by decide) (t := (.array .byte)) (t' := .byte) (by decide) (by decide))))
  have f30 : own_A Z h22 bb2 .byte ([] : List Value) := (((fa2.other W9 (Ne.symm (hne2 a1 sf4).2)).ext E14).other W22 (Ne.symm (hne2 a1 sf4).2))
  exact ⟨bb2, rfl, n26, kp25, f28, f29, f27, f30⟩
theorem ef_3n0 (m : MethodId) (x0 : Addr) (x1 : Addr) : entryFrame m #[(.ref x0), (.ref x1)] 2 = mkF m 0 #[.val (.ref x0), .val (.ref x1)] [] := by first | (simp [entryFrame, mkF, argsToLocals, Value.category]; done) | rfl
def Q3n0 (Z : State) (a1 : Addr) (a2 : Addr) (h0 : Heap) (n0 : Nat) (v : Option Value) (h : Heap) (L : List Loc) : Prop := ∃ (b : Addr), v = none ∧ Fr n0 L ∧ Keep h0 h [a1] ∧ Exa Z h a1 "java/lang/String" ∧ Fld Z h a1 "java/lang/String" "value" "[B" (.ref b) ∧ Fld Z h a1 "java/lang/String" "coder" "B" (.int (0 : Int32)) ∧ own_A Z h b .byte ([] : List Value)
set_option maxHeartbeats 40000000 in
theorem rm3n0 (l : Launch) (Z : State) (a0 : Array Value) (hw : ∀ d ∈ tables_1, d.before a0 Z = true) (ws : List Jvm.Cond) (a1 : Addr) (a2 : Addr) (h0 : Heap) (n0 : Nat) (Z0 : n0 ≤ h0.size) (F0 : Exa Z h0 a1 "java/lang/String") (F1 : Fld Z h0 a1 "java/lang/String" "value" "[B" .null) (F2 : Fld Z h0 a1 "java/lang/String" "coder" "B" (.int (0 : Int32))) (F3 : own_A Z h0 a2 .char []) (ga : n0 ≤ a1) :
    MetFree l (⟨"java/lang/String", "<init>", "([C)V"⟩ : MethodName) (head1 (Jvm.Cond.code (⟨"java/lang/String", "<init>", "([C)V"⟩ : MethodName) jdk_42_method_3_code 2 none :: ws) ({ frames := 2, cells := 4, slots := 8, locals := 29 } : Room)) (fun a U => a = #[(.ref a1), (.ref a2)] ∧ Z.Warmed39 U.vm ∧ U.heap = h0 ∧ CHv Z own_EL U.vm h0 ∧ ∀ x ∈ ([a1] : List Addr), Safe Z own_EL U.vm h0 x) (fun _ _ _ _ _ => True) (fun _ U o U' => ∃ v L, o = .returned v ∧ Q3n0 Z a1 a2 h0 n0 v U'.heap L ∧ CHr Z own_EL U.vm h0 U'.vm U'.heap ∧ ReturnedEndW U o U' L ({ frames := 2, cells := 4, slots := 8, locals := 29 } : Room).cells ({ frames := 2, cells := 4, slots := 8, locals := 29 } : Room).slots) := by
  refine MetFree.of_bodySF (plainFor_of_name own_pn3) hisR ?_
  intro p e s m args below meth c s₁ Bd hml0 hP hK
  obtain ⟨rfl, hZ, hh, hCH, hSF⟩ := hP
  have hx := Bd.exec
  have hby := Bd.bytes
  have hml : c.maxLocals = 2 := hml0
  have hlk : meth.locks = false := BodyLoose.notSynchronized Bd
  have hown : s.vm.findClass "java/lang/String" = some m.cls := findClass_of_methodNamed Bd.named
  have hnm := (name_of_methodNamed Bd.named Bd.method).1
  have X0 : Stand p l e ({ frames := 2, cells := 4, slots := 8, locals := 29 } : Room) (s.setVm s.vm) m #[(.ref a1), (.ref a2)] below meth c s₁ [] 0 0 := Stand.of_body Bd
  have e0 : s₁.heap = h0 := by rw [← hh, Bd.state]; rfl
  have N0 := Fr.nil n0
  have hS0 : s.Since s.vm s.heap.size := (State.WarmedH.refl s).since _
  have hk0 : s.heap.size ≤ h0.size := Nat.le_of_eq (congrArg Array.size hh)
  have ch0 : CHr Z own_EL s.vm h0 s.vm h0 := CHr.refl hCH
  show own_GoW p e below s (Q3n0 Z a1 a2 h0 n0) (fun vm h => CHr Z own_EL s.vm h0 vm h) ({ frames := 2, cells := 4, slots := 8, locals := 29 } : Room).cells ({ frames := 2, cells := 4, slots := 8, locals := 29 } : Room).slots _
  refine own_stW (B := s₁.setTop (mkF m 0 #[.val (.ref a1), .val (.ref a2)] [])) (fun t k => castTop (ef_3n0 m (a1) (a2)) k) ?_
  refine own_stW (B := s₁.setTop (mkF m 1 #[.val (.ref a1), .val (.ref a2)] [(.ref a1)])) (fun t k => XS.aloadN X0.here hx rfl (hb hby d3_0) rfl rfl k) ?_
  refine own_stW (B := s₁.setTop (mkF m 2 #[.val (.ref a1), .val (.ref a2)] [(.ref a2), (.ref a1)])) (fun t k => XS.aloadN X0.here hx rfl (hb hby d3_1) rfl rfl k) ?_
  refine own_stW (B := s₁.setTop (mkF m 3 #[.val (.ref a1), .val (.ref a2)] [(.int (0 : Int32)), (.ref a2), (.ref a1)])) (fun t k => XS.iconst X0.here hx rfl (hb hby d3_2) k) ?_
  refine own_stW (B := s₁.setTop (mkF m 4 #[.val (.ref a1), .val (.ref a2)] [(.ref a2), (.int (0 : Int32)), (.ref a2), (.ref a1)])) (fun t k => XS.aloadN X0.here hx rfl (hb hby d3_3) rfl rfl k) ?_
  refine own_stW (B := s₁.setTop (mkF m 5 #[.val (.ref a1), .val (.ref a2)] [(.int (0 : Int32)), (.int (0 : Int32)), (.ref a2), (.ref a1)])) (fun t k => own_len X0 hx hZ e0 F3 (g := (mkF m 4 #[.val (.ref a1), .val (.ref a2)] [(.ref a2), (.int (0 : Int32)), (.ref a2), (.ref a1)])) (n := (0 : Int32)) (show (0 : Int32).toInt = ((0 : Nat) : Int) from by decide) rfl rfl (hb hby d3_4) k) ?_
  refine own_stW (B := s₁.setTop (mkF m 6 #[.val (.ref a1), .val (.ref a2)] [.null, (.int (0 : Int32)), (.int (0 : Int32)), (.ref a2), (.ref a1)])) (fun t k => XS.aconstNull X0.here hx rfl (hb hby d3_5) k) ?_
  obtain ⟨_, _, ⟨T1, L1, k1, j1⟩, -, X1, hs1, hg1, ⟨Lc1, hQ1, l1, y1_, z1_, ch1_⟩, st1⟩ := X0.specialBackS hx (y := (⟨"java/lang/String", "<init>", "([CIILjava/lang/Void;)V"⟩ : MethodName)) rfl hown (mvT hZ (w_17 hw)) (mvT hZ (w_18 hw)) (mvT hZ (w_20 hw)) (by decide) (own_backSH (EL := own_EL) (W := 0) (rm4n0 l Z a0 hw [] a1 a2 h0 n0 Z0 F0 F1 F2 ga) hZ (w_20 hw) (w_12 hw) (by decide) (by decide) (own_ew hw) ch0.1 (allS ⟨F0.lt, (hSF a1 (List.mem_of_getElem? (i := 0) rfl))⟩ all0)) (g := (mkF m 6 #[.val (.ref a1), .val (.ref a2)] [.null, (.int (0 : Int32)), (.int (0 : Int32)), (.ref a2), (.ref a1)])) rfl (by rw [hml]; rfl) (Steps.refl _) (a := a1) (argsL := [(.ref a2), (.int (0 : Int32)), (.int (0 : Int32)), .null]) (rest := []) (lenOf own_pd6 rfl) rfl (by show 2 * 0 + _ ≤ _; exact Nat.le_of_eq rfl) (hb hby d3_6) (fun _ _ => ⟨rfl, e0, (by decide : 0 + 4 ≤ _), (by decide : 0 + 8 ≤ _)⟩)
  dsimp only [Pt.U, Pt.locs, Pt.cells, Pt.slots] at X1 hs1 hg1 ch1_ l1 y1_ z1_ st1 hQ1
  subst l1 y1_ z1_
  obtain ⟨X1, hS1, hZ, hown⟩ := rebS hS0 (show _ ≤ s₁.heap.size by rw [e0]; exact hk0) X1 hs1 hg1 hZ hown
  obtain ⟨b_1, rfl, N1q, K1, p1_0, p1_1, p1_2, p1_3⟩ := hQ1
  have N1 := Fr.app N0 N1q
  have ch2 := ch0.trans ch1_
  have sf3 := CHr.safe ch1_ F0.lt (hSF a1 (List.mem_of_getElem? (i := 0) rfl))
  have z4 : n0 ≤ T1.heap.size := Nat.le_trans Z0 K1.1
  have kp4 : Keep h0 T1.heap [a1] := (Keep.refl h0 [a1]).trans K1 (allS (Or.inl (List.mem_of_getElem? (i := 0) rfl)) all0)
  have q5_ : a1 ≠ b_1 := own_neA p1_0 p1_3 (w_11 hw)
  refine own_ssW (B := T1.setTop (mkF m 9 #[.val (.ref a1), .val (.ref a2)] [])) st1 ?_
  refine own_retVW X1 hS1 (show _ ≤ T1.heap.size by exact (Nat.le_refl _)) hx hlk Bd.returns (hb hby d3_9) (by decide) (by decide) (show CHr Z own_EL s.vm h0 T1.vm T1.heap by exact ch2.trans (CHv.at X1 hZ (own_ew hw) ch2.1)) ?_
  show Q3n0 Z a1 a2 h0 n0 _ T1.heap _
  exact ⟨b_1, rfl, N1, kp4, p1_0, p1_1, p1_2, p1_3⟩
theorem own_cc (x : Int32) : ((((x &&& (255 : Int32)).toUInt32.toUInt16.toUInt32.toInt32)).toUInt32.toUInt16.toUInt32.toInt32) = (x &&& (255 : Int32)) := by
  have h1 := c_mask x 255 8 (by decide) (by decide)
  have h2 := c_i2c (x &&& 255)
  have h3 : ((x &&& (255 : Int32)).toUInt32.toUInt16.toUInt32.toInt32) = (x &&& (255 : Int32)) := Int32.toInt_inj.mp (by omega)
  rw [h3, h3]
theorem own_c8 (x : Int32) : ¬ ((255 : Int32) < ((((x &&& (255 : Int32)).toUInt32.toUInt16.toUInt32.toInt32)).toUInt32.toUInt16.toUInt32.toInt32)) := by
  rw [own_cc, Int32.lt_iff_toInt_lt, c_mask x 255 8 (by decide) (by decide)]
  have h2 : (255 : Int32).toInt = 255 := rfl
  omega
def own_b0 (p1 : Int32) : Int32 := ((((((p1 &&& (255 : Int32)).toUInt32.toUInt16.toUInt32.toInt32)).toUInt32.toUInt16.toUInt32.toInt32).toInt8.toInt32).toInt8.toInt32)
def own_b1 (p1 : Int32) : Int32 := ((((((((p1.toUInt32 >>> ((8 : Int32) &&& 31).toUInt32).toInt32) &&& (255 : Int32)).toUInt32.toUInt16.toUInt32.toInt32)).toUInt32.toUInt16.toUInt32.toInt32).toInt8.toInt32).toInt8.toInt32)
def own_bs (p1 : Int32) : List Int32 := if own_len1 p1 = (0 : Int32) then [] else if own_len1 p1 = (1 : Int32) then [own_b0 p1] else [own_b0 p1, own_b1 p1]
theorem own_bq (x y : Int32) : ((((x &&& (255 : Int32)).toInt8.toInt32).toInt8.toInt32) = (((y &&& (255 : Int32)).toInt8.toInt32).toInt8.toInt32)) ↔ (x &&& (255 : Int32)) = (y &&& (255 : Int32)) := by
  rw [Int8.toInt8_toInt32, Int8.toInt8_toInt32]
  have h1 := c_mask x 255 8 (by decide) (by decide)
  have h2 := c_mask y 255 8 (by decide) (by decide)
  have h3 := c_i2b (x &&& 255)
  have h4 := c_i2b (y &&& 255)
  rw [← Int32.toInt_inj, ← Int32.toInt_inj (x := (x &&& (255 : Int32))) (y := (y &&& (255 : Int32)))]
  omega
theorem own_bq0 (x y : Int32) : own_b0 x = own_b0 y ↔ (x &&& (255 : Int32)) = (y &&& (255 : Int32)) := by
  unfold own_b0
  rw [own_cc, own_cc]; exact own_bq x y
theorem own_bq1 (x y : Int32) : own_b1 x = own_b1 y ↔ (((x.toUInt32 >>> ((8 : Int32) &&& 31).toUInt32).toInt32) &&& (255 : Int32)) = (((y.toUInt32 >>> ((8 : Int32) &&& 31).toUInt32).toInt32) &&& (255 : Int32)) := by
  unfold own_b1
  rw [own_cc, own_cc]; exact own_bq _ _
theorem own_len3 (x : Int32) : 0 ≤ (own_len1 x).toInt ∧ (own_len1 x).toInt ≤ 2 := by
  unfold own_len1
  have h1 := c_mask ((x.toUInt32 >>> ((16 : Int32) &&& 31).toUInt32).toInt32) 3 2 (by decide) (by decide)
  have h2 := c_irem (((x.toUInt32 >>> ((16 : Int32) &&& 31).toUInt32).toInt32) &&& 3) 3 3 rfl
  omega
theorem own_pd7 : parseMethodDescriptor "(I)I" = some ⟨[.int], some .int⟩ := by decide +kernel
theorem own_pd8 : parseMethodDescriptor "([C)V" = some ⟨[(.array .char)], none⟩ := by decide +kernel
theorem d1_0 : decode method_3_code 0 = .ok (.iload_n 0, 1) := by decide +kernel
theorem d1_1 : decode method_3_code 1 = .ok (.invokestatic 7, 3) := by decide +kernel
theorem d1_4 : decode method_3_code 4 = .ok (.istore_n 1, 1) := by decide +kernel
theorem d1_5 : decode method_3_code 5 = .ok (.iload_n 1, 1) := by decide +kernel
theorem d1_6 : decode method_3_code 6 = .ok (.ifCond .ne 14, 3) := by decide +kernel
theorem d1_9 : decode method_3_code 9 = .ok (.new 13, 3) := by decide +kernel
theorem d1_12 : decode method_3_code 12 = .ok (.dup, 1) := by decide +kernel
theorem d1_13 : decode method_3_code 13 = .ok (.iconst 0, 1) := by decide +kernel
theorem d1_14 : decode method_3_code 14 = .ok (.newarray .char, 2) := by decide +kernel
theorem d1_16 : decode method_3_code 16 = .ok (.invokespecial 15, 3) := by decide +kernel
theorem d1_19 : decode method_3_code 19 = .ok (.areturn, 1) := by decide +kernel
theorem d1_20 : decode method_3_code 20 = .ok (.iload_n 1, 1) := by decide +kernel
theorem d1_21 : decode method_3_code 21 = .ok (.iconst 1, 1) := by decide +kernel
theorem d1_22 : decode method_3_code 22 = .ok (.if_icmp .ne 25, 3) := by decide +kernel
theorem d1_25 : decode method_3_code 25 = .ok (.iconst 1, 1) := by decide +kernel
theorem d1_26 : decode method_3_code 26 = .ok (.newarray .char, 2) := by decide +kernel
theorem d1_28 : decode method_3_code 28 = .ok (.astore_n 2, 1) := by decide +kernel
theorem d1_29 : decode method_3_code 29 = .ok (.aload_n 2, 1) := by decide +kernel
theorem d1_30 : decode method_3_code 30 = .ok (.iconst 0, 1) := by decide +kernel
theorem d1_31 : decode method_3_code 31 = .ok (.iload_n 0, 1) := by decide +kernel
theorem d1_32 : decode method_3_code 32 = .ok (.sipush 255, 3) := by decide +kernel
theorem d1_35 : decode method_3_code 35 = .ok (.iand, 1) := by decide +kernel
theorem d1_36 : decode method_3_code 36 = .ok (.i2c, 1) := by decide +kernel
theorem d1_37 : decode method_3_code 37 = .ok (.castore, 1) := by decide +kernel
theorem d1_38 : decode method_3_code 38 = .ok (.new 13, 3) := by decide +kernel
theorem d1_41 : decode method_3_code 41 = .ok (.dup, 1) := by decide +kernel
theorem d1_42 : decode method_3_code 42 = .ok (.aload_n 2, 1) := by decide +kernel
theorem d1_43 : decode method_3_code 43 = .ok (.invokespecial 15, 3) := by decide +kernel
theorem d1_46 : decode method_3_code 46 = .ok (.areturn, 1) := by decide +kernel
theorem d1_47 : decode method_3_code 47 = .ok (.iconst 2, 1) := by decide +kernel
theorem d1_48 : decode method_3_code 48 = .ok (.newarray .char, 2) := by decide +kernel
theorem d1_50 : decode method_3_code 50 = .ok (.astore_n 2, 1) := by decide +kernel
theorem d1_51 : decode method_3_code 51 = .ok (.aload_n 2, 1) := by decide +kernel
theorem d1_52 : decode method_3_code 52 = .ok (.iconst 0, 1) := by decide +kernel
theorem d1_53 : decode method_3_code 53 = .ok (.iload_n 0, 1) := by decide +kernel
theorem d1_54 : decode method_3_code 54 = .ok (.sipush 255, 3) := by decide +kernel
theorem d1_57 : decode method_3_code 57 = .ok (.iand, 1) := by decide +kernel
theorem d1_58 : decode method_3_code 58 = .ok (.i2c, 1) := by decide +kernel
theorem d1_59 : decode method_3_code 59 = .ok (.castore, 1) := by decide +kernel
theorem d1_60 : decode method_3_code 60 = .ok (.aload_n 2, 1) := by decide +kernel
theorem d1_61 : decode method_3_code 61 = .ok (.iconst 1, 1) := by decide +kernel
theorem d1_62 : decode method_3_code 62 = .ok (.iload_n 0, 1) := by decide +kernel
theorem d1_63 : decode method_3_code 63 = .ok (.bipush 8, 2) := by decide +kernel
theorem d1_65 : decode method_3_code 65 = .ok (.iushr, 1) := by decide +kernel
theorem d1_66 : decode method_3_code 66 = .ok (.sipush 255, 3) := by decide +kernel
theorem d1_69 : decode method_3_code 69 = .ok (.iand, 1) := by decide +kernel
theorem d1_70 : decode method_3_code 70 = .ok (.i2c, 1) := by decide +kernel
theorem d1_71 : decode method_3_code 71 = .ok (.castore, 1) := by decide +kernel
theorem d1_72 : decode method_3_code 72 = .ok (.new 13, 3) := by decide +kernel
theorem d1_75 : decode method_3_code 75 = .ok (.dup, 1) := by decide +kernel
theorem d1_76 : decode method_3_code 76 = .ok (.aload_n 2, 1) := by decide +kernel
theorem d1_77 : decode method_3_code 77 = .ok (.invokespecial 15, 3) := by decide +kernel
theorem d1_80 : decode method_3_code 80 = .ok (.areturn, 1) := by decide +kernel
theorem ef_1 (m : MethodId) (x0 : Int32) : entryFrame m #[(.int x0)] 3 = mkF m 0 #[.val (.int x0), .unset, .unset] [] := by first | (simp [entryFrame, mkF, argsToLocals, Value.category]; done) | rfl
def Q1 (Z : State) (p1 : Int32) (cs : Int32) (h0 : Heap) (n0 : Nat) (v : Option Value) (h : Heap) (L : List Loc) : Prop := ∃ (o : Addr) (b : Addr), v = some (.ref o) ∧ Fr n0 L ∧ Keep h0 h [] ∧ n0 ≤ o ∧ h0.size ≤ o ∧ Exa Z h o "java/lang/String" ∧ Fld Z h o "java/lang/String" "coder" "B" (.int (0 : Int32)) ∧ Fld Z h o "java/lang/String" "value" "[B" (.ref b) ∧ own_A Z h b .byte ((own_bs p1).map Value.int)
set_option maxHeartbeats 40000000 in
theorem rm1 (l : Launch) (Z : State) (a0 : Array Value) (hw : ∀ d ∈ tables_1, d.before a0 Z = true) (ws : List Jvm.Cond) (p1 : Int32) (cs : Int32) (h0 : Heap) (n0 : Nat) (Z0 : n0 ≤ h0.size) (F0 : Sta Z h0 "java/lang/String" "COMPACT_STRINGS" "Z" (.int cs)) (hcs : ¬ (cs = (0 : Int32))) :
    MetFree l (⟨"com/example/marshal_lock/marshallock/internal/HoldEqualsPinLaw", "str", "(I)Ljava/lang/String;"⟩ : MethodName) (head1 (Jvm.Cond.code (⟨"com/example/marshal_lock/marshallock/internal/HoldEqualsPinLaw", "str", "(I)Ljava/lang/String;"⟩ : MethodName) method_3_code 3 (some (.object "java/lang/String")) :: ws) ({ frames := 4, cells := 6, slots := 12, locals := 66 } : Room)) (fun a U => a = #[(.int p1)] ∧ Z.Warmed39 U.vm ∧ U.heap = h0 ∧ CHv Z own_EL U.vm h0 ∧ ∀ x ∈ ([] : List Addr), Safe Z own_EL U.vm h0 x) (fun _ _ _ _ _ => True) (fun _ U o U' => ∃ v L, o = .returned v ∧ Q1 Z p1 cs h0 n0 v U'.heap L ∧ CHr Z own_EL U.vm h0 U'.vm U'.heap ∧ ReturnedEndW U o U' L ({ frames := 4, cells := 6, slots := 12, locals := 66 } : Room).cells ({ frames := 4, cells := 6, slots := 12, locals := 66 } : Room).slots) := by
  refine MetFree.of_bodySF (plainFor_of_name own_pn1) hisR ?_
  intro p e s m args below meth c s₁ Bd hml0 hP hK
  obtain ⟨rfl, hZ, hh, hCH, hSF⟩ := hP
  have hx := Bd.exec
  have hby := Bd.bytes
  have hml : c.maxLocals = 3 := hml0
  have hlk : meth.locks = false := BodyLoose.notSynchronized Bd
  have hown : s.vm.findClass "com/example/marshal_lock/marshallock/internal/HoldEqualsPinLaw" = some m.cls := findClass_of_methodNamed Bd.named
  have hnm := (name_of_methodNamed Bd.named Bd.method).1
  have X0 : Stand p l e ({ frames := 4, cells := 6, slots := 12, locals := 66 } : Room) (s.setVm s.vm) m #[(.int p1)] below meth c s₁ [] 0 0 := Stand.of_body Bd
  have e0 : s₁.heap = h0 := by rw [← hh, Bd.state]; rfl
  have N0 := Fr.nil n0
  have hS0 : s.Since s.vm s.heap.size := (State.WarmedH.refl s).since _
  have hk0 : s.heap.size ≤ h0.size := Nat.le_of_eq (congrArg Array.size hh)
  have ch0 : CHr Z own_EL s.vm h0 s.vm h0 := CHr.refl hCH
  show own_GoW p e below s (Q1 Z p1 cs h0 n0) (fun vm h => CHr Z own_EL s.vm h0 vm h) ({ frames := 4, cells := 6, slots := 12, locals := 66 } : Room).cells ({ frames := 4, cells := 6, slots := 12, locals := 66 } : Room).slots _
  refine own_stW (B := s₁.setTop (mkF m 0 #[.val (.int p1), .unset, .unset] [])) (fun t k => castTop (ef_1 m (p1)) k) ?_
  refine own_stW (B := s₁.setTop (mkF m 1 #[.val (.int p1), .unset, .unset] [(.int p1)])) (fun t k => XS.iloadN X0.here hx rfl (hb hby d1_0) rfl k) ?_
  obtain ⟨_, _, ⟨T1, L1, k1, j1⟩, -, X1, ⟨Lc1, hQ1, l1, y1_, z1_⟩, st1⟩ := Jvm.LawKit.callS X0 hx (y := (⟨"com/example/marshal_lock/marshallock/internal/HoldEqualsPinLaw", "len", "(I)I"⟩ : MethodName)) hown (mvT hZ (w_7 hw)) (mvT hZ (w_8 hw)) (mvT hZ (w_5 hw)) (mvT hZ (w_9 hw)) (by decide) (backOf (W := 0) (rm2 l Z a0 hw [] p1 h0 n0 Z0 ) hZ (w_9 hw) (w_5 hw) (by decide) (by decide)) (g := (mkF m 1 #[.val (.int p1), .unset, .unset] [(.int p1)])) rfl (by rw [hml]; rfl) (argsL := [(.int p1)]) (rest := []) (lenOf own_pd7 rfl) rfl (by show 2 * 0 + _ ≤ _; exact Nat.le_of_eq rfl) (hb hby d1_1) (fun _ _ => ⟨rfl, e0, (by decide : 0 + 0 ≤ _), (by decide : 0 + 0 ≤ _)⟩)
  dsimp only [Pt.U, Pt.locs, Pt.cells, Pt.slots] at X1 l1 y1_ z1_ st1 hQ1
  subst l1 y1_ z1_
  obtain ⟨rfl, N1q, e1q⟩ := hQ1
  have N1 := Fr.app N0 N1q
  refine own_stW (B := T1.setTop (mkF m 4 #[.val (.int p1), .unset, .unset] [(.int (own_len1 p1))])) (fun t k => st1 t k) ?_
  obtain ⟨v2, ev2⟩ : ∃ z : Int32, z = (own_len1 p1) := ⟨_, rfl⟩
  rw [← ev2]
  refine own_stW (B := T1.setTop (mkF m 5 #[.val (.int p1), .val (.int v2), .unset] [])) (fun t k => XS.istoreN X1.here hx rfl (hb hby d1_4) rfl (l' := #[.val (.int p1), .val (.int v2), .unset]) rfl k) ?_
  refine own_stW (B := T1.setTop (mkF m 6 #[.val (.int p1), .val (.int v2), .unset] [(.int v2)])) (fun t k => XS.iloadN X1.here hx rfl (hb hby d1_5) rfl k) ?_
  by_cases hc3 : v2 = (0 : Int32)
  · refine own_stW (B := T1.setTop (mkF m 9 #[.val (.int p1), .val (.int v2), .unset] [])) (fun t k => XS.ifNo X1.here hx rfl (hb hby d1_6) rfl (XT.i0_ne_f hc3) k) ?_
    obtain ⟨T4, h4, X4, e4, E4, A4, D4, -, st4⟩ := newO X1 hx hZ hown (w_10 hw) (w_11 hw) (w_12 hw) e1q (g := (mkF m 9 #[.val (.int p1), .val (.int v2), .unset] [])) rfl (hb hby d1_9) (by decide) (by decide)
    obtain ⟨b4, g4⟩ : ∃ z, z = h0.size := ⟨_, rfl⟩
    rw [← g4] at A4 D4 st4
    have u4 : n0 ≤ b4 := Nat.le_trans Z0 (Nat.le_of_eq g4.symm)
    have y4 : h0.size ≤ b4 := Nat.le_trans (Keep.refl h0 []).1 (Nat.le_of_eq g4.symm)
    have ch5 := ch0.trans (CHr.ext E4 ch0.1)
    have sf6 := Safe.ext E4 ch0.1 (Safe.new (Nat.le_of_eq g4.symm))
    have hk5 := Nat.le_trans hk0 E4.1
    have z7 : n0 ≤ h4.size := Nat.le_trans Z0 E4.1
    have kp7 : Keep h0 h4 [] := (Keep.refl h0 []).ext E4
    have f8 : Fld Z h4 b4 "java/lang/String" "value" "[B" .null := D4 (Or.inr (w_26 hw)) (ty := (.array .byte)) (by decide)
    have f9 : Fld Z h4 b4 "java/lang/String" "coder" "B" (.int (0 : Int32)) := D4 (Or.inr (w_27 hw)) (ty := .byte) (by decide)
    refine own_stW (B := T4.setTop (mkF m 12 #[.val (.int p1), .val (.int v2), .unset] [(.ref b4)])) (fun t k => st4 t k) ?_
    refine own_stW (B := T4.setTop (mkF m 13 #[.val (.int p1), .val (.int v2), .unset] [(.ref b4), (.ref b4)])) (fun t k => XS.dup X4.here hx rfl (hb hby d1_12) rfl rfl k) ?_
    refine own_stW (B := T4.setTop (mkF m 14 #[.val (.int p1), .val (.int v2), .unset] [(.int (0 : Int32)), (.ref b4), (.ref b4)])) (fun t k => XS.iconst X4.here hx rfl (hb hby d1_13) k) ?_
    obtain ⟨T10, h10, X10, e10, E10, A10, x10, st10⟩ := own_newP X4 hx hZ (aty := .char) (w_13 hw) e4 (g := (mkF m 14 #[.val (.int p1), .val (.int v2), .unset] [(.int (0 : Int32)), (.ref b4), (.ref b4)])) rfl (hb hby d1_14) (n := (0 : Int32)) (rest := [(.ref b4), (.ref b4)]) rfl (k := 0) (cap := 0) (by decide) (Nat.le_refl _) (by decide) (by decide) (by decide) (ad := "[C") rfl
    obtain ⟨b10, g10⟩ : ∃ z, z = h4.size := ⟨_, rfl⟩
    rw [← g10] at A10 x10 st10
    have q10_b4 : b4 ≠ b10 := Nat.ne_of_lt (Nat.lt_of_lt_of_le A4.lt (Nat.le_of_eq g10.symm))
    have u10 : n0 ≤ b10 := Nat.le_trans z7 (Nat.le_of_eq g10.symm)
    have y10 : h0.size ≤ b10 := Nat.le_trans kp7.1 (Nat.le_of_eq g10.symm)
    have ch11 := ch5.trans (CHr.ext E10 ch5.1)
    have sf12 := Safe.ext E10 ch5.1 sf6
    have hk11 := Nat.le_trans hk5 E10.1
    have z13 : n0 ≤ h10.size := Nat.le_trans z7 E10.1
    have kp13 : Keep h0 h10 [] := kp7.ext E10
    have f10_ : own_A Z h10 b10 .char [] := A10
    refine own_stW (B := T10.setTop (mkF m 16 #[.val (.int p1), .val (.int v2), .unset] [(.ref b10), (.ref b4), (.ref b4)])) (fun t k => st10 t k) ?_
    have f14 : Exa Z h10 b4 "java/lang/String" := (A4.ext E10)
    have f15 : Fld Z h10 b4 "java/lang/String" "value" "[B" .null := (f8.ext E10)
    have f16 : Fld Z h10 b4 "java/lang/String" "coder" "B" (.int (0 : Int32)) := (f9.ext E10)
    obtain ⟨_, _, ⟨T17, L17, k17, j17⟩, -, X17, hs17, hg17, ⟨Lc17, hQ17, l17, y17_, z17_, ch17_⟩, st17⟩ := X10.specialBackS hx (y := (⟨"java/lang/String", "<init>", "([C)V"⟩ : MethodName)) rfl hown (mvT hZ (w_14 hw)) (mvT hZ (w_15 hw)) (mvT hZ (w_16 hw)) (by decide) (own_backSH (EL := own_EL) (W := 1) (rm3n0 l Z a0 hw [] b4 b10 h10 n0 z13 f14 f15 f16 f10_ u4) hZ (w_16 hw) (w_12 hw) (by decide) (by decide) (own_ew hw) ch11.1 (allS ⟨f14.lt, sf12⟩ all0)) (g := (mkF m 16 #[.val (.int p1), .val (.int v2), .unset] [(.ref b10), (.ref b4), (.ref b4)])) rfl (by rw [hml]; rfl) (Steps.refl _) (a := b4) (argsL := [(.ref b10)]) (rest := [(.ref b4)]) (lenOf own_pd8 rfl) rfl (by show 2 * 0 + _ ≤ _; exact Nat.le_of_eq rfl) (hb hby d1_16) (fun _ _ => ⟨rfl, e10, (by decide : 2 + 4 ≤ _), (by decide : 4 + 8 ≤ _)⟩)
    dsimp only [Pt.U, Pt.locs, Pt.cells, Pt.slots] at X17 hs17 hg17 ch17_ l17 y17_ z17_ st17 hQ17
    subst l17 y17_ z17_
    obtain ⟨X17, hS17, hZ, hown⟩ := rebS hS0 (show _ ≤ T10.heap.size by rw [e10]; exact hk11) X17 hs17 hg17 hZ hown
    obtain ⟨b_17, rfl, N17q, K17, p17_0, p17_1, p17_2, p17_3⟩ := hQ17
    have N17 := Fr.app N1 N17q
    have ch18 := ch11.trans ch17_
    have sf19 := CHr.safe ch17_ f14.lt sf12
    have z20 : n0 ≤ T17.heap.size := Nat.le_trans z13 K17.1
    have kp20 : Keep h0 T17.heap [] := kp13.trans K17 (allS (Or.inr y4) all0)
    have q21_ : b4 ≠ b_17 := own_neA p17_0 p17_3 (w_11 hw)
    refine own_ssW (B := T17.setTop (mkF m 19 #[.val (.int p1), .val (.int v2), .unset] [(.ref b4)])) st17 ?_
    refine own_retRW X17 hS17 (show _ ≤ T17.heap.size by exact (Nat.le_refl _)) hx hlk (t := (.object "java/lang/String")) Bd.returns rfl rfl rfl (hb hby d1_19) (by decide) (by decide) (show CHr Z own_EL s.vm h0 T17.vm T17.heap by exact ch18.trans (CHv.at X17 hZ (own_ew hw) ch18.1)) ?_
    show Q1 Z p1 cs h0 n0 _ T17.heap _
    exact ⟨b4, b_17, rfl, N17, kp20, u4, y4, p17_0, p17_2, p17_1, (by have eb : own_bs p1 = [] := (by unfold own_bs; rw [if_pos (by rw [← ev2]; exact hc3)]); rw [eb]; exact p17_3)⟩
  · refine own_stW (B := T1.setTop (mkF m 20 #[.val (.int p1), .val (.int v2), .unset] [])) (fun t k => XS.ifYes X1.here hx rfl (pc0 := 6) (pc' := 20) rfl (hb hby d1_6) rfl (XT.i0_ne_t hc3) (by decide) (by decide) k) ?_
    refine own_stW (B := T1.setTop (mkF m 21 #[.val (.int p1), .val (.int v2), .unset] [(.int v2)])) (fun t k => XS.iloadN X1.here hx rfl (hb hby d1_20) rfl k) ?_
    refine own_stW (B := T1.setTop (mkF m 22 #[.val (.int p1), .val (.int v2), .unset] [(.int (1 : Int32)), (.int v2)])) (fun t k => XS.iconst X1.here hx rfl (hb hby d1_21) k) ?_
    by_cases hc22 : v2 = (1 : Int32)
    · refine own_stW (B := T1.setTop (mkF m 25 #[.val (.int p1), .val (.int v2), .unset] [])) (fun t k => XS.icmpNo X1.here hx rfl (hb hby d1_22) rfl (XT.ii_ne_f hc22) k) ?_
      refine own_stW (B := T1.setTop (mkF m 26 #[.val (.int p1), .val (.int v2), .unset] [(.int (1 : Int32))])) (fun t k => XS.iconst X1.here hx rfl (hb hby d1_25) k) ?_
      obtain ⟨T23, h23, X23, e23, E23, A23, x23, st23⟩ := own_newP X1 hx hZ (aty := .char) (w_13 hw) e1q (g := (mkF m 26 #[.val (.int p1), .val (.int v2), .unset] [(.int (1 : Int32))])) rfl (hb hby d1_26) (n := (1 : Int32)) (rest := []) rfl (k := 1) (cap := 1) (by decide) (Nat.le_refl _) (by decide) (by decide) (by decide) (ad := "[C") rfl
      obtain ⟨b23, g23⟩ : ∃ z, z = h0.size := ⟨_, rfl⟩
      rw [← g23] at A23 x23 st23
      have u23 : n0 ≤ b23 := Nat.le_trans Z0 (Nat.le_of_eq g23.symm)
      have y23 : h0.size ≤ b23 := Nat.le_trans (Keep.refl h0 []).1 (Nat.le_of_eq g23.symm)
      have ch24 := ch0.trans (CHr.ext E23 ch0.1)
      have hk24 := Nat.le_trans hk0 E23.1
      have z25 : n0 ≤ h23.size := Nat.le_trans Z0 E23.1
      have kp25 : Keep h0 h23 [] := (Keep.refl h0 []).ext E23
      have f23_ : own_A Z h23 b23 .char [(.int (0 : Int32))] := A23
      refine own_stW (B := T23.setTop (mkF m 28 #[.val (.int p1), .val (.int v2), .unset] [(.ref b23)])) (fun t k => st23 t k) ?_
      refine own_stW (B := T23.setTop (mkF m 29 #[.val (.int p1), .val (.int v2), .val (.ref b23)] [])) (fun t k => XS.astoreN X23.here hx rfl (hb hby d1_28) rfl rfl (l' := #[.val (.int p1), .val (.int v2), .val (.ref b23)]) rfl k) ?_
      refine own_stW (B := T23.setTop (mkF m 30 #[.val (.int p1), .val (.int v2), .val (.ref b23)] [(.ref b23)])) (fun t k => XS.aloadN X23.here hx rfl (hb hby d1_29) rfl rfl k) ?_
      refine own_stW (B := T23.setTop (mkF m 31 #[.val (.int p1), .val (.int v2), .val (.ref b23)] [(.int (0 : Int32)), (.ref b23)])) (fun t k => XS.iconst X23.here hx rfl (hb hby d1_30) k) ?_
      refine own_stW (B := T23.setTop (mkF m 32 #[.val (.int p1), .val (.int v2), .val (.ref b23)] [(.int p1), (.int (0 : Int32)), (.ref b23)])) (fun t k => XS.iloadN X23.here hx rfl (hb hby d1_31) rfl k) ?_
      refine own_stW (B := T23.setTop (mkF m 35 #[.val (.int p1), .val (.int v2), .val (.ref b23)] [(.int (255 : Int32)), (.int p1), (.int (0 : Int32)), (.ref b23)])) (fun t k => XS.sipush X23.here hx rfl (hb hby d1_32) k) ?_
      refine own_stW (B := T23.setTop (mkF m 36 #[.val (.int p1), .val (.int v2), .val (.ref b23)] [(.int (p1 &&& (255 : Int32))), (.int (0 : Int32)), (.ref b23)])) (fun t k => XS.iand X23.here hx rfl (hb hby d1_35) rfl k) ?_
      refine own_stW (B := T23.setTop (mkF m 37 #[.val (.int p1), .val (.int v2), .val (.ref b23)] [(.int ((p1 &&& (255 : Int32)).toUInt32.toUInt16.toUInt32.toInt32)), (.int (0 : Int32)), (.ref b23)])) (fun t k => XS.i2c X23.here hx rfl (hb hby d1_36) rfl k) ?_
      obtain ⟨T26, h26, X26, e26, W26, A26, st26⟩ := own_stC X23 hx hZ e23 f23_ (j := (0 : Int32)) (x := ((p1 &&& (255 : Int32)).toUInt32.toUInt16.toUInt32.toInt32)) (i := 0) (by decide) (show 0 < 1 from by decide) (g := (mkF m 37 #[.val (.int p1), .val (.int v2), .val (.ref b23)] [(.int ((p1 &&& (255 : Int32)).toUInt32.toUInt16.toUInt32.toInt32)), (.int (0 : Int32)), (.ref b23)])) rfl rfl (hb hby d1_37)
      have f26_ : own_A Z h26 b23 .char [(.int (((p1 &&& (255 : Int32)).toUInt32.toUInt16.toUInt32.toInt32).toUInt32.toUInt16.toUInt32.toInt32))] := A26
      have ch27 := ch24.trans (CHr.wr W26 (Safe.exa hZ.alike x23 (by decide) (by decide)) ch24.1)
      have hk27 := Nat.le_trans hk24 (Keep.of_wr W26).1
      have z28 : n0 ≤ h26.size := Nat.le_trans z25 (Keep.of_wr W26).1
      have kp28 : Keep h0 h26 [] := kp25.wr W26 (Or.inr y23)
      have n29 := Fr.snoc X26 N1 u23
      refine own_stW (B := T26.setTop (mkF m 38 #[.val (.int p1), .val (.int v2), .val (.ref b23)] [])) (fun t k => st26 t k) ?_
      obtain ⟨T30, h30, X30, e30, E30, A30, D30, -, st30⟩ := newO X26 hx hZ hown (w_10 hw) (w_11 hw) (w_12 hw) e26 (g := (mkF m 38 #[.val (.int p1), .val (.int v2), .val (.ref b23)] [])) rfl (hb hby d1_38) (by decide) (by decide)
      obtain ⟨b30, g30⟩ : ∃ z, z = h26.size := ⟨_, rfl⟩
      rw [← g30] at A30 D30 st30
      have q30_b23 : b23 ≠ b30 := Nat.ne_of_lt (Nat.lt_of_lt_of_le f26_.lt (Nat.le_of_eq g30.symm))
      have u30 : n0 ≤ b30 := Nat.le_trans z28 (Nat.le_of_eq g30.symm)
      have y30 : h0.size ≤ b30 := Nat.le_trans kp28.1 (Nat.le_of_eq g30.symm)
      have ch31 := ch27.trans (CHr.ext E30 ch27.1)
      have sf32 := Safe.ext E30 ch27.1 (Safe.new (Nat.le_of_eq g30.symm))
      have hk31 := Nat.le_trans hk27 E30.1
      have z33 : n0 ≤ h30.size := Nat.le_trans z28 E30.1
      have kp33 : Keep h0 h30 [] := kp28.ext E30
      have f34 : Fld Z h30 b30 "java/lang/String" "value" "[B" .null := D30 (Or.inr (w_26 hw)) (ty := (.array .byte)) (by decide)
      have f35 : Fld Z h30 b30 "java/lang/String" "coder" "B" (.int (0 : Int32)) := D30 (Or.inr (w_27 hw)) (ty := .byte) (by decide)
      refine own_stW (B := T30.setTop (mkF m 41 #[.val (.int p1), .val (.int v2), .val (.ref b23)] [(.ref b30)])) (fun t k => st30 t k) ?_
      refine own_stW (B := T30.setTop (mkF m 42 #[.val (.int p1), .val (.int v2), .val (.ref b23)] [(.ref b30), (.ref b30)])) (fun t k => XS.dup X30.here hx rfl (hb hby d1_41) rfl rfl k) ?_
      refine own_stW (B := T30.setTop (mkF m 43 #[.val (.int p1), .val (.int v2), .val (.ref b23)] [(.ref b23), (.ref b30), (.ref b30)])) (fun t k => XS.aloadN X30.here hx rfl (hb hby d1_42) rfl rfl k) ?_
      have f36 : own_A Z h30 b23 .char [(.int (((p1 &&& (255 : Int32)).toUInt32.toUInt16.toUInt32.toInt32).toUInt32.toUInt16.toUInt32.toInt32))] := (f26_.ext E30)
      have f37 : Sta Z h30 "java/lang/String" "COMPACT_STRINGS" "Z" (.int cs) := (((F0.ext E23).wr W26).ext E30)
      obtain ⟨_, _, ⟨T38, L38, k38, j38⟩, -, X38, ⟨Lc38, hQ38, l38, y38_, z38_⟩, st38⟩ := X30.specialBack hx (y := (⟨"java/lang/String", "<init>", "([C)V"⟩ : MethodName)) rfl hown (mvT hZ (w_14 hw)) (mvT hZ (w_15 hw)) (mvT hZ (w_16 hw)) (by decide) (backOf (W := 1) (rm3n1 l Z a0 hw [] b30 b23 cs (((p1 &&& (255 : Int32)).toUInt32.toUInt16.toUInt32.toInt32).toUInt32.toUInt16.toUInt32.toInt32) h30 n0 z33 A30 f34 f35 f36 f37 u30 hcs (own_c8 _)) hZ (w_16 hw) (w_12 hw) (by decide) (by decide)) (g := (mkF m 43 #[.val (.int p1), .val (.int v2), .val (.ref b23)] [(.ref b23), (.ref b30), (.ref b30)])) rfl (by rw [hml]; rfl) (Steps.refl _) (a := b30) (argsL := [(.ref b23)]) (rest := [(.ref b30)]) (lenOf own_pd8 rfl) rfl (by show 2 * 0 + _ ≤ _; exact Nat.le_of_eq rfl) (hb hby d1_43) (fun _ _ => ⟨rfl, e30, (by decide : 2 + 1 ≤ _), (by decide : 5 + 1 ≤ _)⟩)
      dsimp only [Pt.U, Pt.locs, Pt.cells, Pt.slots] at X38 l38 y38_ z38_ st38 hQ38
      subst l38 y38_ z38_
      obtain ⟨b_38, rfl, N38q, K38, u38_b, y38_b, p38_0, p38_1, p38_2, p38_3⟩ := hQ38
      have N38 := Fr.app n29 N38q
      have q38_b_b23 : b23 ≠ b_38 := Nat.ne_of_lt (Nat.lt_of_lt_of_le f36.lt y38_b)
      have q38_b_b30 : b30 ≠ b_38 := Nat.ne_of_lt (Nat.lt_of_lt_of_le A30.lt y38_b)
      have y39 : h0.size ≤ b_38 := Nat.le_trans kp33.1 y38_b
      have ch40 := ch31.trans (CHr.keep K38 (allS sf32 all0) ch31.1)
      have sf41 := Safe.keep K38 (allS sf32 all0) ch31.1 sf32
      have hk40 := Nat.le_trans hk31 K38.1
      have z42 : n0 ≤ T38.heap.size := Nat.le_trans z33 K38.1
      have kp42 : Keep h0 T38.heap [] := kp33.trans K38 (allS (Or.inr y30) all0)
      refine own_ssW (B := T38.setTop (mkF m 46 #[.val (.int p1), .val (.int v2), .val (.ref b23)] [(.ref b30)])) st38 ?_
      refine own_retRW X38 hS0 (show _ ≤ T38.heap.size by exact hk40) hx hlk (t := (.object "java/lang/String")) Bd.returns rfl rfl rfl (hb hby d1_46) (by decide) (by decide) (show CHr Z own_EL s.vm h0 T38.vm T38.heap by exact ch40.trans (CHv.at X38 hZ (own_ew hw) ch40.1)) ?_
      show Q1 Z p1 cs h0 n0 _ T38.heap _
      exact ⟨b30, b_38, rfl, N38, kp42, u30, y30, p38_0, p38_2, p38_1, (by have eb : own_bs p1 = [own_b0 p1] := (by unfold own_bs; rw [if_neg (by rw [← ev2]; exact hc3), if_pos (by rw [← ev2]; exact hc22)]); rw [eb]; exact p38_3)⟩
    · refine own_stW (B := T1.setTop (mkF m 47 #[.val (.int p1), .val (.int v2), .unset] [])) (fun t k => XS.icmpYes X1.here hx rfl (pc0 := 22) (pc' := 47) rfl (hb hby d1_22) rfl (XT.ii_ne_t hc22) (by decide) (by decide) k) ?_
      refine own_stW (B := T1.setTop (mkF m 48 #[.val (.int p1), .val (.int v2), .unset] [(.int (2 : Int32))])) (fun t k => XS.iconst X1.here hx rfl (hb hby d1_47) k) ?_
      obtain ⟨T43, h43, X43, e43, E43, A43, x43, st43⟩ := own_newP X1 hx hZ (aty := .char) (w_13 hw) e1q (g := (mkF m 48 #[.val (.int p1), .val (.int v2), .unset] [(.int (2 : Int32))])) rfl (hb hby d1_48) (n := (2 : Int32)) (rest := []) rfl (k := 2) (cap := 2) (by decide) (Nat.le_refl _) (by decide) (by decide) (by decide) (ad := "[C") rfl
      obtain ⟨b43, g43⟩ : ∃ z, z = h0.size := ⟨_, rfl⟩
      rw [← g43] at A43 x43 st43
      have u43 : n0 ≤ b43 := Nat.le_trans Z0 (Nat.le_of_eq g43.symm)
      have y43 : h0.size ≤ b43 := Nat.le_trans (Keep.refl h0 []).1 (Nat.le_of_eq g43.symm)
      have ch44 := ch0.trans (CHr.ext E43 ch0.1)
      have hk44 := Nat.le_trans hk0 E43.1
      have z45 : n0 ≤ h43.size := Nat.le_trans Z0 E43.1
      have kp45 : Keep h0 h43 [] := (Keep.refl h0 []).ext E43
      have f43_ : own_A Z h43 b43 .char [(.int (0 : Int32)), (.int (0 : Int32))] := A43
      refine own_stW (B := T43.setTop (mkF m 50 #[.val (.int p1), .val (.int v2), .unset] [(.ref b43)])) (fun t k => st43 t k) ?_
      refine own_stW (B := T43.setTop (mkF m 51 #[.val (.int p1), .val (.int v2), .val (.ref b43)] [])) (fun t k => XS.astoreN X43.here hx rfl (hb hby d1_50) rfl rfl (l' := #[.val (.int p1), .val (.int v2), .val (.ref b43)]) rfl k) ?_
      refine own_stW (B := T43.setTop (mkF m 52 #[.val (.int p1), .val (.int v2), .val (.ref b43)] [(.ref b43)])) (fun t k => XS.aloadN X43.here hx rfl (hb hby d1_51) rfl rfl k) ?_
      refine own_stW (B := T43.setTop (mkF m 53 #[.val (.int p1), .val (.int v2), .val (.ref b43)] [(.int (0 : Int32)), (.ref b43)])) (fun t k => XS.iconst X43.here hx rfl (hb hby d1_52) k) ?_
      refine own_stW (B := T43.setTop (mkF m 54 #[.val (.int p1), .val (.int v2), .val (.ref b43)] [(.int p1), (.int (0 : Int32)), (.ref b43)])) (fun t k => XS.iloadN X43.here hx rfl (hb hby d1_53) rfl k) ?_
      refine own_stW (B := T43.setTop (mkF m 57 #[.val (.int p1), .val (.int v2), .val (.ref b43)] [(.int (255 : Int32)), (.int p1), (.int (0 : Int32)), (.ref b43)])) (fun t k => XS.sipush X43.here hx rfl (hb hby d1_54) k) ?_
      refine own_stW (B := T43.setTop (mkF m 58 #[.val (.int p1), .val (.int v2), .val (.ref b43)] [(.int (p1 &&& (255 : Int32))), (.int (0 : Int32)), (.ref b43)])) (fun t k => XS.iand X43.here hx rfl (hb hby d1_57) rfl k) ?_
      refine own_stW (B := T43.setTop (mkF m 59 #[.val (.int p1), .val (.int v2), .val (.ref b43)] [(.int ((p1 &&& (255 : Int32)).toUInt32.toUInt16.toUInt32.toInt32)), (.int (0 : Int32)), (.ref b43)])) (fun t k => XS.i2c X43.here hx rfl (hb hby d1_58) rfl k) ?_
      obtain ⟨T46, h46, X46, e46, W46, A46, st46⟩ := own_stC X43 hx hZ e43 f43_ (j := (0 : Int32)) (x := ((p1 &&& (255 : Int32)).toUInt32.toUInt16.toUInt32.toInt32)) (i := 0) (by decide) (show 0 < 2 from by decide) (g := (mkF m 59 #[.val (.int p1), .val (.int v2), .val (.ref b43)] [(.int ((p1 &&& (255 : Int32)).toUInt32.toUInt16.toUInt32.toInt32)), (.int (0 : Int32)), (.ref b43)])) rfl rfl (hb hby d1_59)
      have f46_ : own_A Z h46 b43 .char [(.int (((p1 &&& (255 : Int32)).toUInt32.toUInt16.toUInt32.toInt32).toUInt32.toUInt16.toUInt32.toInt32)), (.int (0 : Int32))] := A46
      have ch47 := ch44.trans (CHr.wr W46 (Safe.exa hZ.alike x43 (by decide) (by decide)) ch44.1)
      have hk47 := Nat.le_trans hk44 (Keep.of_wr W46).1
      have z48 : n0 ≤ h46.size := Nat.le_trans z45 (Keep.of_wr W46).1
      have kp48 : Keep h0 h46 [] := kp45.wr W46 (Or.inr y43)
      have n49 := Fr.snoc X46 N1 u43
      refine own_stW (B := T46.setTop (mkF m 60 #[.val (.int p1), .val (.int v2), .val (.ref b43)] [])) (fun t k => st46 t k) ?_
      refine own_stW (B := T46.setTop (mkF m 61 #[.val (.int p1), .val (.int v2), .val (.ref b43)] [(.ref b43)])) (fun t k => XS.aloadN X46.here hx rfl (hb hby d1_60) rfl rfl k) ?_
      refine own_stW (B := T46.setTop (mkF m 62 #[.val (.int p1), .val (.int v2), .val (.ref b43)] [(.int (1 : Int32)), (.ref b43)])) (fun t k => XS.iconst X46.here hx rfl (hb hby d1_61) k) ?_
      refine own_stW (B := T46.setTop (mkF m 63 #[.val (.int p1), .val (.int v2), .val (.ref b43)] [(.int p1), (.int (1 : Int32)), (.ref b43)])) (fun t k => XS.iloadN X46.here hx rfl (hb hby d1_62) rfl k) ?_
      refine own_stW (B := T46.setTop (mkF m 65 #[.val (.int p1), .val (.int v2), .val (.ref b43)] [(.int (8 : Int32)), (.int p1), (.int (1 : Int32)), (.ref b43)])) (fun t k => XS.bipush X46.here hx rfl (hb hby d1_63) k) ?_
      refine own_stW (B := T46.setTop (mkF m 66 #[.val (.int p1), .val (.int v2), .val (.ref b43)] [(.int ((p1.toUInt32 >>> ((8 : Int32) &&& 31).toUInt32).toInt32)), (.int (1 : Int32)), (.ref b43)])) (fun t k => XS.iushr X46.here hx rfl (hb hby d1_65) rfl k) ?_
      refine own_stW (B := T46.setTop (mkF m 69 #[.val (.int p1), .val (.int v2), .val (.ref b43)] [(.int (255 : Int32)), (.int ((p1.toUInt32 >>> ((8 : Int32) &&& 31).toUInt32).toInt32)), (.int (1 : Int32)), (.ref b43)])) (fun t k => XS.sipush X46.here hx rfl (hb hby d1_66) k) ?_
      refine own_stW (B := T46.setTop (mkF m 70 #[.val (.int p1), .val (.int v2), .val (.ref b43)] [(.int (((p1.toUInt32 >>> ((8 : Int32) &&& 31).toUInt32).toInt32) &&& (255 : Int32))), (.int (1 : Int32)), (.ref b43)])) (fun t k => XS.iand X46.here hx rfl (hb hby d1_69) rfl k) ?_
      refine own_stW (B := T46.setTop (mkF m 71 #[.val (.int p1), .val (.int v2), .val (.ref b43)] [(.int ((((p1.toUInt32 >>> ((8 : Int32) &&& 31).toUInt32).toInt32) &&& (255 : Int32)).toUInt32.toUInt16.toUInt32.toInt32)), (.int (1 : Int32)), (.ref b43)])) (fun t k => XS.i2c X46.here hx rfl (hb hby d1_70) rfl k) ?_
      obtain ⟨T50, h50, X50, e50, W50, A50, st50⟩ := own_stC X46 hx hZ e46 f46_ (j := (1 : Int32)) (x := ((((p1.toUInt32 >>> ((8 : Int32) &&& 31).toUInt32).toInt32) &&& (255 : Int32)).toUInt32.toUInt16.toUInt32.toInt32)) (i := 1) (by decide) (show 1 < 2 from by decide) (g := (mkF m 71 #[.val (.int p1), .val (.int v2), .val (.ref b43)] [(.int ((((p1.toUInt32 >>> ((8 : Int32) &&& 31).toUInt32).toInt32) &&& (255 : Int32)).toUInt32.toUInt16.toUInt32.toInt32)), (.int (1 : Int32)), (.ref b43)])) rfl rfl (hb hby d1_71)
      have f50_ : own_A Z h50 b43 .char [(.int (((p1 &&& (255 : Int32)).toUInt32.toUInt16.toUInt32.toInt32).toUInt32.toUInt16.toUInt32.toInt32)), (.int (((((p1.toUInt32 >>> ((8 : Int32) &&& 31).toUInt32).toInt32) &&& (255 : Int32)).toUInt32.toUInt16.toUInt32.toInt32).toUInt32.toUInt16.toUInt32.toInt32))] := A50
      have f52 : Exa Z h46 b43 "[C" := (x43.wr W46)
      have ch51 := ch47.trans (CHr.wr W50 (Safe.exa hZ.alike f52 (by decide) (by decide)) ch47.1)
      have hk51 := Nat.le_trans hk47 (Keep.of_wr W50).1
      have z53 : n0 ≤ h50.size := Nat.le_trans z48 (Keep.of_wr W50).1
      have kp53 : Keep h0 h50 [] := kp48.wr W50 (Or.inr y43)
      have n54 := Fr.snoc X50 n49 u43
      refine own_stW (B := T50.setTop (mkF m 72 #[.val (.int p1), .val (.int v2), .val (.ref b43)] [])) (fun t k => st50 t k) ?_
      obtain ⟨T55, h55, X55, e55, E55, A55, D55, -, st55⟩ := newO X50 hx hZ hown (w_10 hw) (w_11 hw) (w_12 hw) e50 (g := (mkF m 72 #[.val (.int p1), .val (.int v2), .val (.ref b43)] [])) rfl (hb hby d1_72) (by decide) (by decide)
      obtain ⟨b55, g55⟩ : ∃ z, z = h50.size := ⟨_, rfl⟩
      rw [← g55] at A55 D55 st55
      have q55_b43 : b43 ≠ b55 := Nat.ne_of_lt (Nat.lt_of_lt_of_le f50_.lt (Nat.le_of_eq g55.symm))
      have u55 : n0 ≤ b55 := Nat.le_trans z53 (Nat.le_of_eq g55.symm)
      have y55 : h0.size ≤ b55 := Nat.le_trans kp53.1 (Nat.le_of_eq g55.symm)
      have ch56 := ch51.trans (CHr.ext E55 ch51.1)
      have sf57 := Safe.ext E55 ch51.1 (Safe.new (Nat.le_of_eq g55.symm))
      have hk56 := Nat.le_trans hk51 E55.1
      have z58 : n0 ≤ h55.size := Nat.le_trans z53 E55.1
      have kp58 : Keep h0 h55 [] := kp53.ext E55
      have f59 : Fld Z h55 b55 "java/lang/String" "value" "[B" .null := D55 (Or.inr (w_26 hw)) (ty := (.array .byte)) (by decide)
      have f60 : Fld Z h55 b55 "java/lang/String" "coder" "B" (.int (0 : Int32)) := D55 (Or.inr (w_27 hw)) (ty := .byte) (by decide)
      refine own_stW (B := T55.setTop (mkF m 75 #[.val (.int p1), .val (.int v2), .val (.ref b43)] [(.ref b55)])) (fun t k => st55 t k) ?_
      refine own_stW (B := T55.setTop (mkF m 76 #[.val (.int p1), .val (.int v2), .val (.ref b43)] [(.ref b55), (.ref b55)])) (fun t k => XS.dup X55.here hx rfl (hb hby d1_75) rfl rfl k) ?_
      refine own_stW (B := T55.setTop (mkF m 77 #[.val (.int p1), .val (.int v2), .val (.ref b43)] [(.ref b43), (.ref b55), (.ref b55)])) (fun t k => XS.aloadN X55.here hx rfl (hb hby d1_76) rfl rfl k) ?_
      have f61 : own_A Z h55 b43 .char [(.int (((p1 &&& (255 : Int32)).toUInt32.toUInt16.toUInt32.toInt32).toUInt32.toUInt16.toUInt32.toInt32)), (.int (((((p1.toUInt32 >>> ((8 : Int32) &&& 31).toUInt32).toInt32) &&& (255 : Int32)).toUInt32.toUInt16.toUInt32.toInt32).toUInt32.toUInt16.toUInt32.toInt32))] := (f50_.ext E55)
      have f62 : Sta Z h55 "java/lang/String" "COMPACT_STRINGS" "Z" (.int cs) := ((((F0.ext E43).wr W46).wr W50).ext E55)
      obtain ⟨_, _, ⟨T63, L63, k63, j63⟩, -, X63, ⟨Lc63, hQ63, l63, y63_, z63_⟩, st63⟩ := X55.specialBack hx (y := (⟨"java/lang/String", "<init>", "([C)V"⟩ : MethodName)) rfl hown (mvT hZ (w_14 hw)) (mvT hZ (w_15 hw)) (mvT hZ (w_16 hw)) (by decide) (backOf (W := 1) (rm3n2 l Z a0 hw [] b55 b43 cs (((p1 &&& (255 : Int32)).toUInt32.toUInt16.toUInt32.toInt32).toUInt32.toUInt16.toUInt32.toInt32) (((((p1.toUInt32 >>> ((8 : Int32) &&& 31).toUInt32).toInt32) &&& (255 : Int32)).toUInt32.toUInt16.toUInt32.toInt32).toUInt32.toUInt16.toUInt32.toInt32) h55 n0 z58 A55 f59 f60 f61 f62 u55 hcs (own_c8 _) (own_c8 _)) hZ (w_16 hw) (w_12 hw) (by decide) (by decide)) (g := (mkF m 77 #[.val (.int p1), .val (.int v2), .val (.ref b43)] [(.ref b43), (.ref b55), (.ref b55)])) rfl (by rw [hml]; rfl) (Steps.refl _) (a := b55) (argsL := [(.ref b43)]) (rest := [(.ref b55)]) (lenOf own_pd8 rfl) rfl (by show 2 * 0 + _ ≤ _; exact Nat.le_of_eq rfl) (hb hby d1_77) (fun _ _ => ⟨rfl, e55, (by decide : 2 + 1 ≤ _), (by decide : 6 + 2 ≤ _)⟩)
      dsimp only [Pt.U, Pt.locs, Pt.cells, Pt.slots] at X63 l63 y63_ z63_ st63 hQ63
      subst l63 y63_ z63_
      obtain ⟨b_63, rfl, N63q, K63, u63_b, y63_b, p63_0, p63_1, p63_2, p63_3⟩ := hQ63
      have N63 := Fr.app n54 N63q
      have q63_b_b43 : b43 ≠ b_63 := Nat.ne_of_lt (Nat.lt_of_lt_of_le f61.lt y63_b)
      have q63_b_b55 : b55 ≠ b_63 := Nat.ne_of_lt (Nat.lt_of_lt_of_le A55.lt y63_b)
      have y64 : h0.size ≤ b_63 := Nat.le_trans kp58.1 y63_b
      have ch65 := ch56.trans (CHr.keep K63 (allS sf57 all0) ch56.1)
      have sf66 := Safe.keep K63 (allS sf57 all0) ch56.1 sf57
      have hk65 := Nat.le_trans hk56 K63.1
      have z67 : n0 ≤ T63.heap.size := Nat.le_trans z58 K63.1
      have kp67 : Keep h0 T63.heap [] := kp58.trans K63 (allS (Or.inr y55) all0)
      refine own_ssW (B := T63.setTop (mkF m 80 #[.val (.int p1), .val (.int v2), .val (.ref b43)] [(.ref b55)])) st63 ?_
      refine own_retRW X63 hS0 (show _ ≤ T63.heap.size by exact hk65) hx hlk (t := (.object "java/lang/String")) Bd.returns rfl rfl rfl (hb hby d1_80) (by decide) (by decide) (show CHr Z own_EL s.vm h0 T63.vm T63.heap by exact ch65.trans (CHv.at X63 hZ (own_ew hw) ch65.1)) ?_
      show Q1 Z p1 cs h0 n0 _ T63.heap _
      exact ⟨b55, b_63, rfl, N63, kp67, u55, y55, p63_0, p63_2, p63_1, (by have eb : own_bs p1 = [own_b0 p1, own_b1 p1] := (by unfold own_bs; rw [if_neg (by rw [← ev2]; exact hc3), if_neg (by rw [← ev2]; exact hc22)]); rw [eb]; exact p63_3)⟩
theorem own_pn4 : plainName "com/example/marshal_lock/marshallock/internal/Hold" = true := by first | (simp [plainName, overriddenIn]; done) | decide +kernel
theorem d6_0 : decode prog_6_method_1_code 0 = .ok (.aload_n 0, 1) := by decide +kernel
theorem d6_1 : decode prog_6_method_1_code 1 = .ok (.invokespecial 1, 3) := by decide +kernel
theorem d6_4 : decode prog_6_method_1_code 4 = .ok (.aload_n 0, 1) := by decide +kernel
theorem d6_5 : decode prog_6_method_1_code 5 = .ok (.aload_n 1, 1) := by decide +kernel
theorem d6_6 : decode prog_6_method_1_code 6 = .ok (.putfield 7, 3) := by decide +kernel
theorem d6_9 : decode prog_6_method_1_code 9 = .ok (.aload_n 0, 1) := by decide +kernel
theorem d6_10 : decode prog_6_method_1_code 10 = .ok (.aload_n 2, 1) := by decide +kernel
theorem d6_11 : decode prog_6_method_1_code 11 = .ok (.putfield 13, 3) := by decide +kernel
theorem d6_14 : decode prog_6_method_1_code 14 = .ok (.return_, 1) := by decide +kernel
theorem ef_6 (m : MethodId) (x0 : Addr) (x1 : Addr) (x2 : Addr) : entryFrame m #[(.ref x0), (.ref x1), (.ref x2)] 3 = mkF m 0 #[.val (.ref x0), .val (.ref x1), .val (.ref x2)] [] := by first | (simp [entryFrame, mkF, argsToLocals, Value.category]; done) | rfl
def Q6 (Z : State) (a1 : Addr) (a2 : Addr) (a3 : Addr) (h0 : Heap) (n0 : Nat) (v : Option Value) (h : Heap) (L : List Loc) : Prop := v = none ∧ Fr n0 L ∧ Keep h0 h [a1] ∧ Exa Z h a1 "com/example/marshal_lock/marshallock/internal/Hold" ∧ Fld Z h a1 "com/example/marshal_lock/marshallock/internal/Hold" "lockKey" "Ljava/lang/String;" (.ref a2) ∧ Fld Z h a1 "com/example/marshal_lock/marshallock/internal/Hold" "owner" "Ljava/lang/String;" (.ref a3)
set_option maxHeartbeats 40000000 in
theorem rm6 (l : Launch) (Z : State) (a0 : Array Value) (hw : ∀ d ∈ tables_1, d.before a0 Z = true) (ws : List Jvm.Cond) (a1 : Addr) (a2 : Addr) (a3 : Addr) (h0 : Heap) (n0 : Nat) (Z0 : n0 ≤ h0.size) (F0 : Exa Z h0 a1 "com/example/marshal_lock/marshallock/internal/Hold") (F1 : Fld Z h0 a1 "com/example/marshal_lock/marshallock/internal/Hold" "lockKey" "Ljava/lang/String;" .null) (F2 : Fld Z h0 a1 "com/example/marshal_lock/marshallock/internal/Hold" "owner" "Ljava/lang/String;" .null) (ga : n0 ≤ a1) :
    MetFree l (⟨"com/example/marshal_lock/marshallock/internal/Hold", "<init>", "(Ljava/lang/String;Ljava/lang/String;)V"⟩ : MethodName) (head1 (Jvm.Cond.code (⟨"com/example/marshal_lock/marshallock/internal/Hold", "<init>", "(Ljava/lang/String;Ljava/lang/String;)V"⟩ : MethodName) prog_6_method_1_code 3 none :: ws) ({ frames := 1, cells := 0, slots := 0, locals := 12 } : Room)) (fun a U => a = #[(.ref a1), (.ref a2), (.ref a3)] ∧ Z.Warmed39 U.vm ∧ U.heap = h0) (fun _ _ _ _ _ => True) (fun _ U o U' => ∃ v L, o = .returned v ∧ Q6 Z a1 a2 a3 h0 n0 v U'.heap L ∧ FrameEnd U o U' L ({ frames := 1, cells := 0, slots := 0, locals := 12 } : Room).cells ({ frames := 1, cells := 0, slots := 0, locals := 12 } : Room).slots) := by
  refine MetFree.of_bodySF (plainFor_of_name own_pn4) hisR ?_
  intro p e s m args below meth c s₁ Bd hml0 hP hK
  obtain ⟨rfl, hZ, hh⟩ := hP
  have hx := Bd.exec
  have hby := Bd.bytes
  have hml : c.maxLocals = 3 := hml0
  have hlk : meth.locks = false := BodyLoose.notSynchronized Bd
  have hown : s.vm.findClass "com/example/marshal_lock/marshallock/internal/Hold" = some m.cls := findClass_of_methodNamed Bd.named
  have hnm := (name_of_methodNamed Bd.named Bd.method).1
  have X0 : Stand p l e ({ frames := 1, cells := 0, slots := 0, locals := 12 } : Room) s m #[(.ref a1), (.ref a2), (.ref a3)] below meth c s₁ [] 0 0 := Stand.of_body Bd
  have e0 : s₁.heap = h0 := by rw [← hh, Bd.state]; rfl
  have N0 := Fr.nil n0
  show own_Go p e below s (Q6 Z a1 a2 a3 h0 n0) ({ frames := 1, cells := 0, slots := 0, locals := 12 } : Room).cells ({ frames := 1, cells := 0, slots := 0, locals := 12 } : Room).slots _
  refine own_st (B := s₁.setTop (mkF m 0 #[.val (.ref a1), .val (.ref a2), .val (.ref a3)] [])) (fun t k => castTop (ef_6 m (a1) (a2) (a3)) k) ?_
  refine own_st (B := s₁.setTop (mkF m 1 #[.val (.ref a1), .val (.ref a2), .val (.ref a3)] [(.ref a1)])) (fun t k => XS.aloadN X0.here hx rfl (hb hby d6_0) rfl rfl k) ?_
  obtain ⟨T1, X1, e1, st1⟩ := initO X0 hx hZ hown (w_35 hw) (w_22 hw) (w_23 hw) e0 (g := (mkF m 1 #[.val (.ref a1), .val (.ref a2), .val (.ref a3)] [(.ref a1)])) rfl (by rw [hml]; rfl) rfl (hb hby d6_1) (by decide) (W := 0) (by show 2 * 0 + _ ≤ _; exact Nat.le_of_eq rfl) (by decide)
  refine own_st (B := T1.setTop (mkF m 4 #[.val (.ref a1), .val (.ref a2), .val (.ref a3)] [])) (fun t k => st1 t k) ?_
  refine own_st (B := T1.setTop (mkF m 5 #[.val (.ref a1), .val (.ref a2), .val (.ref a3)] [(.ref a1)])) (fun t k => XS.aloadN X1.here hx rfl (hb hby d6_4) rfl rfl k) ?_
  refine own_st (B := T1.setTop (mkF m 6 #[.val (.ref a1), .val (.ref a2), .val (.ref a3)] [(.ref a2), (.ref a1)])) (fun t k => XS.aloadN X1.here hx rfl (hb hby d6_5) rfl rfl k) ?_
  obtain ⟨T2, h2, X2, e2, W2, st2⟩ := putF X1 hx hZ hown (host := "") (Or.inl (w_36 hw)) Via.refl e1 F1 F0 (Or.inr ⟨(w_37 hw), rfl, hnm⟩) (w_1 hw) (ty := (.object "java/lang/String")) (by decide) rfl rfl (g := (mkF m 6 #[.val (.ref a1), .val (.ref a2), .val (.ref a3)] [(.ref a2), (.ref a1)])) rfl rfl (hb hby d6_6)
  have f2_ : Fld Z h2 a1 "com/example/marshal_lock/marshallock/internal/Hold" "lockKey" "Ljava/lang/String;" (.ref a2) := F1.same W2
  have z3 : n0 ≤ h2.size := Nat.le_trans Z0 (Keep.of_wr W2).1
  have kp3 : Keep h0 h2 [a1] := (Keep.refl h0 [a1]).wr W2 (Or.inl (List.mem_of_getElem? (i := 0) rfl))
  have n4 := Fr.snoc X2 N0 ga
  refine own_st (B := T2.setTop (mkF m 9 #[.val (.ref a1), .val (.ref a2), .val (.ref a3)] [])) (fun t k => st2 t k) ?_
  refine own_st (B := T2.setTop (mkF m 10 #[.val (.ref a1), .val (.ref a2), .val (.ref a3)] [(.ref a1)])) (fun t k => XS.aloadN X2.here hx rfl (hb hby d6_9) rfl rfl k) ?_
  refine own_st (B := T2.setTop (mkF m 11 #[.val (.ref a1), .val (.ref a2), .val (.ref a3)] [(.ref a3), (.ref a1)])) (fun t k => XS.aloadN X2.here hx rfl (hb hby d6_10) rfl rfl k) ?_
  have f5 : Exa Z h2 a1 "com/example/marshal_lock/marshallock/internal/Hold" := (F0.wr W2)
  have f6 : Fld Z h2 a1 "com/example/marshal_lock/marshallock/internal/Hold" "owner" "Ljava/lang/String;" .null := (F2.other W2 (Or.inr (slot_ne (Or.inr (w_39 hw)) (Or.inr (w_37 hw)) (by decide) (t := (.object "java/lang/String")) (t' := (.object "java/lang/String")) (by decide) (by decide))))
  obtain ⟨T7, h7, X7, e7, W7, st7⟩ := putF X2 hx hZ hown (host := "") (Or.inl (w_38 hw)) Via.refl e2 f6 f5 (Or.inr ⟨(w_39 hw), rfl, hnm⟩) (w_1 hw) (ty := (.object "java/lang/String")) (by decide) rfl rfl (g := (mkF m 11 #[.val (.ref a1), .val (.ref a2), .val (.ref a3)] [(.ref a3), (.ref a1)])) rfl rfl (hb hby d6_11)
  have f7_ : Fld Z h7 a1 "com/example/marshal_lock/marshallock/internal/Hold" "owner" "Ljava/lang/String;" (.ref a3) := f6.same W7
  have z8 : n0 ≤ h7.size := Nat.le_trans z3 (Keep.of_wr W7).1
  have kp8 : Keep h0 h7 [a1] := kp3.wr W7 (Or.inl (List.mem_of_getElem? (i := 0) rfl))
  have n9 := Fr.snoc X7 n4 ga
  refine own_st (B := T7.setTop (mkF m 14 #[.val (.ref a1), .val (.ref a2), .val (.ref a3)] [])) (fun t k => st7 t k) ?_
  refine own_retV X7 hx hlk Bd.returns (hb hby d6_14) (by decide) (by decide) ?_
  show Q6 Z a1 a2 a3 h0 n0 _ T7.heap _
  rw [e7]
  have f10 : Exa Z h7 a1 "com/example/marshal_lock/marshallock/internal/Hold" := (f5.wr W7)
  have f11 : Fld Z h7 a1 "com/example/marshal_lock/marshallock/internal/Hold" "lockKey" "Ljava/lang/String;" (.ref a2) := (f2_.other W7 (Or.inr (slot_ne (Or.inr (w_37 hw)) (Or.inr (w_39 hw)) (by decide) (t := (.object "java/lang/String")) (t' := (.object "java/lang/String")) (by decide) (by decide))))
  exact ⟨rfl, n9, kp8, f10, f11, f7_⟩
theorem d7_0 : decode method_4_code 0 = .ok (.iload_n 0, 1) := by decide +kernel
theorem d7_1 : decode method_4_code 1 = .ok (.invokestatic 7, 3) := by decide +kernel
theorem d7_4 : decode method_4_code 4 = .ok (.istore_n 2, 1) := by decide +kernel
theorem d7_5 : decode method_4_code 5 = .ok (.iload_n 2, 1) := by decide +kernel
theorem d7_6 : decode method_4_code 6 = .ok (.iload_n 1, 1) := by decide +kernel
theorem d7_7 : decode method_4_code 7 = .ok (.invokestatic 7, 3) := by decide +kernel
theorem d7_10 : decode method_4_code 10 = .ok (.if_icmp .eq 5, 3) := by decide +kernel
theorem d7_13 : decode method_4_code 13 = .ok (.iconst 0, 1) := by decide +kernel
theorem d7_14 : decode method_4_code 14 = .ok (.ireturn, 1) := by decide +kernel
theorem d7_15 : decode method_4_code 15 = .ok (.iload_n 2, 1) := by decide +kernel
theorem d7_16 : decode method_4_code 16 = .ok (.iconst 1, 1) := by decide +kernel
theorem d7_17 : decode method_4_code 17 = .ok (.if_icmp .lt 18, 3) := by decide +kernel
theorem d7_20 : decode method_4_code 20 = .ok (.iload_n 0, 1) := by decide +kernel
theorem d7_21 : decode method_4_code 21 = .ok (.sipush 255, 3) := by decide +kernel
theorem d7_24 : decode method_4_code 24 = .ok (.iand, 1) := by decide +kernel
theorem d7_25 : decode method_4_code 25 = .ok (.iload_n 1, 1) := by decide +kernel
theorem d7_26 : decode method_4_code 26 = .ok (.sipush 255, 3) := by decide +kernel
theorem d7_29 : decode method_4_code 29 = .ok (.iand, 1) := by decide +kernel
theorem d7_30 : decode method_4_code 30 = .ok (.if_icmp .eq 5, 3) := by decide +kernel
theorem d7_33 : decode method_4_code 33 = .ok (.iconst 0, 1) := by decide +kernel
theorem d7_34 : decode method_4_code 34 = .ok (.ireturn, 1) := by decide +kernel
theorem d7_35 : decode method_4_code 35 = .ok (.iload_n 2, 1) := by decide +kernel
theorem d7_36 : decode method_4_code 36 = .ok (.iconst 2, 1) := by decide +kernel
theorem d7_37 : decode method_4_code 37 = .ok (.if_icmp .lt 24, 3) := by decide +kernel
theorem d7_40 : decode method_4_code 40 = .ok (.iload_n 0, 1) := by decide +kernel
theorem d7_41 : decode method_4_code 41 = .ok (.bipush 8, 2) := by decide +kernel
theorem d7_43 : decode method_4_code 43 = .ok (.iushr, 1) := by decide +kernel
theorem d7_44 : decode method_4_code 44 = .ok (.sipush 255, 3) := by decide +kernel
theorem d7_47 : decode method_4_code 47 = .ok (.iand, 1) := by decide +kernel
theorem d7_48 : decode method_4_code 48 = .ok (.iload_n 1, 1) := by decide +kernel
theorem d7_49 : decode method_4_code 49 = .ok (.bipush 8, 2) := by decide +kernel
theorem d7_51 : decode method_4_code 51 = .ok (.iushr, 1) := by decide +kernel
theorem d7_52 : decode method_4_code 52 = .ok (.sipush 255, 3) := by decide +kernel
theorem d7_55 : decode method_4_code 55 = .ok (.iand, 1) := by decide +kernel
theorem d7_56 : decode method_4_code 56 = .ok (.if_icmp .eq 5, 3) := by decide +kernel
theorem d7_59 : decode method_4_code 59 = .ok (.iconst 0, 1) := by decide +kernel
theorem d7_60 : decode method_4_code 60 = .ok (.ireturn, 1) := by decide +kernel
theorem d7_61 : decode method_4_code 61 = .ok (.iconst 1, 1) := by decide +kernel
theorem d7_62 : decode method_4_code 62 = .ok (.ireturn, 1) := by decide +kernel
theorem ef_7 (m : MethodId) (x0 : Int32) (x1 : Int32) : entryFrame m #[(.int x0), (.int x1)] 3 = mkF m 0 #[.val (.int x0), .val (.int x1), .unset] [] := by first | (simp [entryFrame, mkF, argsToLocals, Value.category]; done) | rfl
def own_same (p1 : Int32) (p2 : Int32) : Int32 := (if (own_len1 p1) = (own_len1 p2) then (if (own_len1 p1) < (1 : Int32) then (if (own_len1 p1) < (2 : Int32) then (1 : Int32) else (if (((p1.toUInt32 >>> ((8 : Int32) &&& 31).toUInt32).toInt32) &&& (255 : Int32)) = (((p2.toUInt32 >>> ((8 : Int32) &&& 31).toUInt32).toInt32) &&& (255 : Int32)) then (1 : Int32) else (0 : Int32))) else (if (p1 &&& (255 : Int32)) = (p2 &&& (255 : Int32)) then (if (own_len1 p1) < (2 : Int32) then (1 : Int32) else (if (((p1.toUInt32 >>> ((8 : Int32) &&& 31).toUInt32).toInt32) &&& (255 : Int32)) = (((p2.toUInt32 >>> ((8 : Int32) &&& 31).toUInt32).toInt32) &&& (255 : Int32)) then (1 : Int32) else (0 : Int32))) else (0 : Int32))) else (0 : Int32))
def Q7 (Z : State) (p1 : Int32) (p2 : Int32) (h0 : Heap) (n0 : Nat) (v : Option Value) (h : Heap) (L : List Loc) : Prop := v = some (.int (own_same p1 p2)) ∧ Fr n0 L ∧ h = h0
set_option maxHeartbeats 40000000 in
theorem rm7 (l : Launch) (Z : State) (a0 : Array Value) (hw : ∀ d ∈ tables_1, d.before a0 Z = true) (ws : List Jvm.Cond) (p1 : Int32) (p2 : Int32) (h0 : Heap) (n0 : Nat) (Z0 : n0 ≤ h0.size) :
    MetFree l (⟨"com/example/marshal_lock/marshallock/internal/HoldEqualsPinLaw", "sameStr", "(II)Z"⟩ : MethodName) (head1 (Jvm.Cond.code (⟨"com/example/marshal_lock/marshallock/internal/HoldEqualsPinLaw", "sameStr", "(II)Z"⟩ : MethodName) method_4_code 3 (some .boolean) :: ws) ({ frames := 1, cells := 0, slots := 0, locals := 13 } : Room)) (fun a U => a = #[(.int p1), (.int p2)] ∧ Z.Warmed39 U.vm ∧ U.heap = h0) (fun _ _ _ _ _ => True) (fun _ U o U' => ∃ v L, o = .returned v ∧ Q7 Z p1 p2 h0 n0 v U'.heap L ∧ FrameEnd U o U' L ({ frames := 1, cells := 0, slots := 0, locals := 13 } : Room).cells ({ frames := 1, cells := 0, slots := 0, locals := 13 } : Room).slots) := by
  refine MetFree.of_bodySF (plainFor_of_name own_pn1) hisR ?_
  intro p e s m args below meth c s₁ Bd hml0 hP hK
  obtain ⟨rfl, hZ, hh⟩ := hP
  have hx := Bd.exec
  have hby := Bd.bytes
  have hml : c.maxLocals = 3 := hml0
  have hlk : meth.locks = false := BodyLoose.notSynchronized Bd
  have hown : s.vm.findClass "com/example/marshal_lock/marshallock/internal/HoldEqualsPinLaw" = some m.cls := findClass_of_methodNamed Bd.named
  have hnm := (name_of_methodNamed Bd.named Bd.method).1
  have X0 : Stand p l e ({ frames := 1, cells := 0, slots := 0, locals := 13 } : Room) s m #[(.int p1), (.int p2)] below meth c s₁ [] 0 0 := Stand.of_body Bd
  have e0 : s₁.heap = h0 := by rw [← hh, Bd.state]; rfl
  have N0 := Fr.nil n0
  show own_Go p e below s (Q7 Z p1 p2 h0 n0) ({ frames := 1, cells := 0, slots := 0, locals := 13 } : Room).cells ({ frames := 1, cells := 0, slots := 0, locals := 13 } : Room).slots _
  refine own_st (B := s₁.setTop (mkF m 0 #[.val (.int p1), .val (.int p2), .unset] [])) (fun t k => castTop (ef_7 m (p1) (p2)) k) ?_
  refine own_st (B := s₁.setTop (mkF m 1 #[.val (.int p1), .val (.int p2), .unset] [(.int p1)])) (fun t k => XS.iloadN X0.here hx rfl (hb hby d7_0) rfl k) ?_
  obtain ⟨_, _, ⟨T1, L1, k1, j1⟩, -, X1, ⟨Lc1, hQ1, l1, y1_, z1_⟩, st1⟩ := Jvm.LawKit.callS X0 hx (y := (⟨"com/example/marshal_lock/marshallock/internal/HoldEqualsPinLaw", "len", "(I)I"⟩ : MethodName)) hown (mvT hZ (w_7 hw)) (mvT hZ (w_8 hw)) (mvT hZ (w_5 hw)) (mvT hZ (w_9 hw)) (by decide) (backOf (W := 0) (rm2 l Z a0 hw [] p1 h0 n0 Z0 ) hZ (w_9 hw) (w_5 hw) (by decide) (by decide)) (g := (mkF m 1 #[.val (.int p1), .val (.int p2), .unset] [(.int p1)])) rfl (by rw [hml]; rfl) (argsL := [(.int p1)]) (rest := []) (lenOf own_pd7 rfl) rfl (by show 2 * 0 + _ ≤ _; exact Nat.le_of_eq rfl) (hb hby d7_1) (fun _ _ => ⟨rfl, e0, (by decide : 0 + 0 ≤ _), (by decide : 0 + 0 ≤ _)⟩)
  dsimp only [Pt.U, Pt.locs, Pt.cells, Pt.slots] at X1 l1 y1_ z1_ st1 hQ1
  subst l1 y1_ z1_
  obtain ⟨rfl, N1q, e1q⟩ := hQ1
  have N1 := Fr.app N0 N1q
  refine own_st (B := T1.setTop (mkF m 4 #[.val (.int p1), .val (.int p2), .unset] [(.int (own_len1 p1))])) (fun t k => st1 t k) ?_
  refine own_st (B := T1.setTop (mkF m 5 #[.val (.int p1), .val (.int p2), .val (.int (own_len1 p1))] [])) (fun t k => XS.istoreN X1.here hx rfl (hb hby d7_4) rfl (l' := #[.val (.int p1), .val (.int p2), .val (.int (own_len1 p1))]) rfl k) ?_
  refine own_st (B := T1.setTop (mkF m 6 #[.val (.int p1), .val (.int p2), .val (.int (own_len1 p1))] [(.int (own_len1 p1))])) (fun t k => XS.iloadN X1.here hx rfl (hb hby d7_5) rfl k) ?_
  refine own_st (B := T1.setTop (mkF m 7 #[.val (.int p1), .val (.int p2), .val (.int (own_len1 p1))] [(.int p2), (.int (own_len1 p1))])) (fun t k => XS.iloadN X1.here hx rfl (hb hby d7_6) rfl k) ?_
  obtain ⟨_, _, ⟨T2, L2, k2, j2⟩, -, X2, ⟨Lc2, hQ2, l2, y2_, z2_⟩, st2⟩ := Jvm.LawKit.callS X1 hx (y := (⟨"com/example/marshal_lock/marshallock/internal/HoldEqualsPinLaw", "len", "(I)I"⟩ : MethodName)) hown (mvT hZ (w_7 hw)) (mvT hZ (w_8 hw)) (mvT hZ (w_5 hw)) (mvT hZ (w_9 hw)) (by decide) (backOf (W := 1) (rm2 l Z a0 hw [] p2 h0 n0 Z0 ) hZ (w_9 hw) (w_5 hw) (by decide) (by decide)) (g := (mkF m 7 #[.val (.int p1), .val (.int p2), .val (.int (own_len1 p1))] [(.int p2), (.int (own_len1 p1))])) rfl (by rw [hml]; rfl) (argsL := [(.int p2)]) (rest := [(.int (own_len1 p1))]) (lenOf own_pd7 rfl) rfl (by show 2 * 0 + _ ≤ _; exact Nat.le_of_eq rfl) (hb hby d7_7) (fun _ _ => ⟨rfl, e1q, (by decide : 0 + 0 ≤ _), (by decide : 0 + 0 ≤ _)⟩)
  dsimp only [Pt.U, Pt.locs, Pt.cells, Pt.slots] at X2 l2 y2_ z2_ st2 hQ2
  subst l2 y2_ z2_
  obtain ⟨rfl, N2q, e2q⟩ := hQ2
  have N2 := Fr.app N1 N2q
  refine own_st (B := T2.setTop (mkF m 10 #[.val (.int p1), .val (.int p2), .val (.int (own_len1 p1))] [(.int (own_len1 p2)), (.int (own_len1 p1))])) (fun t k => st2 t k) ?_
  by_cases hc3 : (own_len1 p1) = (own_len1 p2)
  · refine own_st (B := T2.setTop (mkF m 15 #[.val (.int p1), .val (.int p2), .val (.int (own_len1 p1))] [])) (fun t k => XS.icmpYes X2.here hx rfl (pc0 := 10) (pc' := 15) rfl (hb hby d7_10) rfl (XT.ii_eq_t hc3) (by decide) (by decide) k) ?_
    refine own_st (B := T2.setTop (mkF m 16 #[.val (.int p1), .val (.int p2), .val (.int (own_len1 p1))] [(.int (own_len1 p1))])) (fun t k => XS.iloadN X2.here hx rfl (hb hby d7_15) rfl k) ?_
    refine own_st (B := T2.setTop (mkF m 17 #[.val (.int p1), .val (.int p2), .val (.int (own_len1 p1))] [(.int (1 : Int32)), (.int (own_len1 p1))])) (fun t k => XS.iconst X2.here hx rfl (hb hby d7_16) k) ?_
    by_cases hc4 : (own_len1 p1) < (1 : Int32)
    · refine own_st (B := T2.setTop (mkF m 35 #[.val (.int p1), .val (.int p2), .val (.int (own_len1 p1))] [])) (fun t k => XS.icmpYes X2.here hx rfl (pc0 := 17) (pc' := 35) rfl (hb hby d7_17) rfl (XT.ii_lt_t hc4) (by decide) (by decide) k) ?_
      refine own_st (B := T2.setTop (mkF m 36 #[.val (.int p1), .val (.int p2), .val (.int (own_len1 p1))] [(.int (own_len1 p1))])) (fun t k => XS.iloadN X2.here hx rfl (hb hby d7_35) rfl k) ?_
      refine own_st (B := T2.setTop (mkF m 37 #[.val (.int p1), .val (.int p2), .val (.int (own_len1 p1))] [(.int (2 : Int32)), (.int (own_len1 p1))])) (fun t k => XS.iconst X2.here hx rfl (hb hby d7_36) k) ?_
      by_cases hc5 : (own_len1 p1) < (2 : Int32)
      · refine own_st (B := T2.setTop (mkF m 61 #[.val (.int p1), .val (.int p2), .val (.int (own_len1 p1))] [])) (fun t k => XS.icmpYes X2.here hx rfl (pc0 := 37) (pc' := 61) rfl (hb hby d7_37) rfl (XT.ii_lt_t hc5) (by decide) (by decide) k) ?_
        refine own_st (B := T2.setTop (mkF m 62 #[.val (.int p1), .val (.int p2), .val (.int (own_len1 p1))] [(.int (1 : Int32))])) (fun t k => XS.iconst X2.here hx rfl (hb hby d7_61) k) ?_
        refine own_retN X2 hx hlk (t := .boolean) Bd.returns (by simp) (z' := (1 : Int32)) rfl (hb hby d7_62) (by decide) (by decide) ?_
        show Q7 Z p1 p2 h0 n0 _ T2.heap _
        rw [e2q]
        exact ⟨(by unfold own_same; rw [if_pos hc3, if_pos hc4, if_pos hc5]), N2, rfl⟩
      · refine own_st (B := T2.setTop (mkF m 40 #[.val (.int p1), .val (.int p2), .val (.int (own_len1 p1))] [])) (fun t k => XS.icmpNo X2.here hx rfl (hb hby d7_37) rfl (XT.ii_lt_f hc5) k) ?_
        refine own_st (B := T2.setTop (mkF m 41 #[.val (.int p1), .val (.int p2), .val (.int (own_len1 p1))] [(.int p1)])) (fun t k => XS.iloadN X2.here hx rfl (hb hby d7_40) rfl k) ?_
        refine own_st (B := T2.setTop (mkF m 43 #[.val (.int p1), .val (.int p2), .val (.int (own_len1 p1))] [(.int (8 : Int32)), (.int p1)])) (fun t k => XS.bipush X2.here hx rfl (hb hby d7_41) k) ?_
        refine own_st (B := T2.setTop (mkF m 44 #[.val (.int p1), .val (.int p2), .val (.int (own_len1 p1))] [(.int ((p1.toUInt32 >>> ((8 : Int32) &&& 31).toUInt32).toInt32))])) (fun t k => XS.iushr X2.here hx rfl (hb hby d7_43) rfl k) ?_
        refine own_st (B := T2.setTop (mkF m 47 #[.val (.int p1), .val (.int p2), .val (.int (own_len1 p1))] [(.int (255 : Int32)), (.int ((p1.toUInt32 >>> ((8 : Int32) &&& 31).toUInt32).toInt32))])) (fun t k => XS.sipush X2.here hx rfl (hb hby d7_44) k) ?_
        refine own_st (B := T2.setTop (mkF m 48 #[.val (.int p1), .val (.int p2), .val (.int (own_len1 p1))] [(.int (((p1.toUInt32 >>> ((8 : Int32) &&& 31).toUInt32).toInt32) &&& (255 : Int32)))])) (fun t k => XS.iand X2.here hx rfl (hb hby d7_47) rfl k) ?_
        refine own_st (B := T2.setTop (mkF m 49 #[.val (.int p1), .val (.int p2), .val (.int (own_len1 p1))] [(.int p2), (.int (((p1.toUInt32 >>> ((8 : Int32) &&& 31).toUInt32).toInt32) &&& (255 : Int32)))])) (fun t k => XS.iloadN X2.here hx rfl (hb hby d7_48) rfl k) ?_
        refine own_st (B := T2.setTop (mkF m 51 #[.val (.int p1), .val (.int p2), .val (.int (own_len1 p1))] [(.int (8 : Int32)), (.int p2), (.int (((p1.toUInt32 >>> ((8 : Int32) &&& 31).toUInt32).toInt32) &&& (255 : Int32)))])) (fun t k => XS.bipush X2.here hx rfl (hb hby d7_49) k) ?_
        refine own_st (B := T2.setTop (mkF m 52 #[.val (.int p1), .val (.int p2), .val (.int (own_len1 p1))] [(.int ((p2.toUInt32 >>> ((8 : Int32) &&& 31).toUInt32).toInt32)), (.int (((p1.toUInt32 >>> ((8 : Int32) &&& 31).toUInt32).toInt32) &&& (255 : Int32)))])) (fun t k => XS.iushr X2.here hx rfl (hb hby d7_51) rfl k) ?_
        refine own_st (B := T2.setTop (mkF m 55 #[.val (.int p1), .val (.int p2), .val (.int (own_len1 p1))] [(.int (255 : Int32)), (.int ((p2.toUInt32 >>> ((8 : Int32) &&& 31).toUInt32).toInt32)), (.int (((p1.toUInt32 >>> ((8 : Int32) &&& 31).toUInt32).toInt32) &&& (255 : Int32)))])) (fun t k => XS.sipush X2.here hx rfl (hb hby d7_52) k) ?_
        refine own_st (B := T2.setTop (mkF m 56 #[.val (.int p1), .val (.int p2), .val (.int (own_len1 p1))] [(.int (((p2.toUInt32 >>> ((8 : Int32) &&& 31).toUInt32).toInt32) &&& (255 : Int32))), (.int (((p1.toUInt32 >>> ((8 : Int32) &&& 31).toUInt32).toInt32) &&& (255 : Int32)))])) (fun t k => XS.iand X2.here hx rfl (hb hby d7_55) rfl k) ?_
        by_cases hc6 : (((p1.toUInt32 >>> ((8 : Int32) &&& 31).toUInt32).toInt32) &&& (255 : Int32)) = (((p2.toUInt32 >>> ((8 : Int32) &&& 31).toUInt32).toInt32) &&& (255 : Int32))
        · refine own_st (B := T2.setTop (mkF m 61 #[.val (.int p1), .val (.int p2), .val (.int (own_len1 p1))] [])) (fun t k => XS.icmpYes X2.here hx rfl (pc0 := 56) (pc' := 61) rfl (hb hby d7_56) rfl (XT.ii_eq_t hc6) (by decide) (by decide) k) ?_
          refine own_st (B := T2.setTop (mkF m 62 #[.val (.int p1), .val (.int p2), .val (.int (own_len1 p1))] [(.int (1 : Int32))])) (fun t k => XS.iconst X2.here hx rfl (hb hby d7_61) k) ?_
          refine own_retN X2 hx hlk (t := .boolean) Bd.returns (by simp) (z' := (1 : Int32)) rfl (hb hby d7_62) (by decide) (by decide) ?_
          show Q7 Z p1 p2 h0 n0 _ T2.heap _
          rw [e2q]
          exact ⟨(by unfold own_same; rw [if_pos hc3, if_pos hc4, if_neg hc5, if_pos hc6]), N2, rfl⟩
        · refine own_st (B := T2.setTop (mkF m 59 #[.val (.int p1), .val (.int p2), .val (.int (own_len1 p1))] [])) (fun t k => XS.icmpNo X2.here hx rfl (hb hby d7_56) rfl (XT.ii_eq_f hc6) k) ?_
          refine own_st (B := T2.setTop (mkF m 60 #[.val (.int p1), .val (.int p2), .val (.int (own_len1 p1))] [(.int (0 : Int32))])) (fun t k => XS.iconst X2.here hx rfl (hb hby d7_59) k) ?_
          refine own_retN X2 hx hlk (t := .boolean) Bd.returns (by simp) (z' := (0 : Int32)) rfl (hb hby d7_60) (by decide) (by decide) ?_
          show Q7 Z p1 p2 h0 n0 _ T2.heap _
          rw [e2q]
          exact ⟨(by unfold own_same; rw [if_pos hc3, if_pos hc4, if_neg hc5, if_neg hc6]), N2, rfl⟩
    · refine own_st (B := T2.setTop (mkF m 20 #[.val (.int p1), .val (.int p2), .val (.int (own_len1 p1))] [])) (fun t k => XS.icmpNo X2.here hx rfl (hb hby d7_17) rfl (XT.ii_lt_f hc4) k) ?_
      refine own_st (B := T2.setTop (mkF m 21 #[.val (.int p1), .val (.int p2), .val (.int (own_len1 p1))] [(.int p1)])) (fun t k => XS.iloadN X2.here hx rfl (hb hby d7_20) rfl k) ?_
      refine own_st (B := T2.setTop (mkF m 24 #[.val (.int p1), .val (.int p2), .val (.int (own_len1 p1))] [(.int (255 : Int32)), (.int p1)])) (fun t k => XS.sipush X2.here hx rfl (hb hby d7_21) k) ?_
      refine own_st (B := T2.setTop (mkF m 25 #[.val (.int p1), .val (.int p2), .val (.int (own_len1 p1))] [(.int (p1 &&& (255 : Int32)))])) (fun t k => XS.iand X2.here hx rfl (hb hby d7_24) rfl k) ?_
      refine own_st (B := T2.setTop (mkF m 26 #[.val (.int p1), .val (.int p2), .val (.int (own_len1 p1))] [(.int p2), (.int (p1 &&& (255 : Int32)))])) (fun t k => XS.iloadN X2.here hx rfl (hb hby d7_25) rfl k) ?_
      refine own_st (B := T2.setTop (mkF m 29 #[.val (.int p1), .val (.int p2), .val (.int (own_len1 p1))] [(.int (255 : Int32)), (.int p2), (.int (p1 &&& (255 : Int32)))])) (fun t k => XS.sipush X2.here hx rfl (hb hby d7_26) k) ?_
      refine own_st (B := T2.setTop (mkF m 30 #[.val (.int p1), .val (.int p2), .val (.int (own_len1 p1))] [(.int (p2 &&& (255 : Int32))), (.int (p1 &&& (255 : Int32)))])) (fun t k => XS.iand X2.here hx rfl (hb hby d7_29) rfl k) ?_
      by_cases hc7 : (p1 &&& (255 : Int32)) = (p2 &&& (255 : Int32))
      · refine own_st (B := T2.setTop (mkF m 35 #[.val (.int p1), .val (.int p2), .val (.int (own_len1 p1))] [])) (fun t k => XS.icmpYes X2.here hx rfl (pc0 := 30) (pc' := 35) rfl (hb hby d7_30) rfl (XT.ii_eq_t hc7) (by decide) (by decide) k) ?_
        refine own_st (B := T2.setTop (mkF m 36 #[.val (.int p1), .val (.int p2), .val (.int (own_len1 p1))] [(.int (own_len1 p1))])) (fun t k => XS.iloadN X2.here hx rfl (hb hby d7_35) rfl k) ?_
        refine own_st (B := T2.setTop (mkF m 37 #[.val (.int p1), .val (.int p2), .val (.int (own_len1 p1))] [(.int (2 : Int32)), (.int (own_len1 p1))])) (fun t k => XS.iconst X2.here hx rfl (hb hby d7_36) k) ?_
        by_cases hc8 : (own_len1 p1) < (2 : Int32)
        · refine own_st (B := T2.setTop (mkF m 61 #[.val (.int p1), .val (.int p2), .val (.int (own_len1 p1))] [])) (fun t k => XS.icmpYes X2.here hx rfl (pc0 := 37) (pc' := 61) rfl (hb hby d7_37) rfl (XT.ii_lt_t hc8) (by decide) (by decide) k) ?_
          refine own_st (B := T2.setTop (mkF m 62 #[.val (.int p1), .val (.int p2), .val (.int (own_len1 p1))] [(.int (1 : Int32))])) (fun t k => XS.iconst X2.here hx rfl (hb hby d7_61) k) ?_
          refine own_retN X2 hx hlk (t := .boolean) Bd.returns (by simp) (z' := (1 : Int32)) rfl (hb hby d7_62) (by decide) (by decide) ?_
          show Q7 Z p1 p2 h0 n0 _ T2.heap _
          rw [e2q]
          exact ⟨(by unfold own_same; rw [if_pos hc3, if_neg hc4, if_pos hc7, if_pos hc8]), N2, rfl⟩
        · refine own_st (B := T2.setTop (mkF m 40 #[.val (.int p1), .val (.int p2), .val (.int (own_len1 p1))] [])) (fun t k => XS.icmpNo X2.here hx rfl (hb hby d7_37) rfl (XT.ii_lt_f hc8) k) ?_
          refine own_st (B := T2.setTop (mkF m 41 #[.val (.int p1), .val (.int p2), .val (.int (own_len1 p1))] [(.int p1)])) (fun t k => XS.iloadN X2.here hx rfl (hb hby d7_40) rfl k) ?_
          refine own_st (B := T2.setTop (mkF m 43 #[.val (.int p1), .val (.int p2), .val (.int (own_len1 p1))] [(.int (8 : Int32)), (.int p1)])) (fun t k => XS.bipush X2.here hx rfl (hb hby d7_41) k) ?_
          refine own_st (B := T2.setTop (mkF m 44 #[.val (.int p1), .val (.int p2), .val (.int (own_len1 p1))] [(.int ((p1.toUInt32 >>> ((8 : Int32) &&& 31).toUInt32).toInt32))])) (fun t k => XS.iushr X2.here hx rfl (hb hby d7_43) rfl k) ?_
          refine own_st (B := T2.setTop (mkF m 47 #[.val (.int p1), .val (.int p2), .val (.int (own_len1 p1))] [(.int (255 : Int32)), (.int ((p1.toUInt32 >>> ((8 : Int32) &&& 31).toUInt32).toInt32))])) (fun t k => XS.sipush X2.here hx rfl (hb hby d7_44) k) ?_
          refine own_st (B := T2.setTop (mkF m 48 #[.val (.int p1), .val (.int p2), .val (.int (own_len1 p1))] [(.int (((p1.toUInt32 >>> ((8 : Int32) &&& 31).toUInt32).toInt32) &&& (255 : Int32)))])) (fun t k => XS.iand X2.here hx rfl (hb hby d7_47) rfl k) ?_
          refine own_st (B := T2.setTop (mkF m 49 #[.val (.int p1), .val (.int p2), .val (.int (own_len1 p1))] [(.int p2), (.int (((p1.toUInt32 >>> ((8 : Int32) &&& 31).toUInt32).toInt32) &&& (255 : Int32)))])) (fun t k => XS.iloadN X2.here hx rfl (hb hby d7_48) rfl k) ?_
          refine own_st (B := T2.setTop (mkF m 51 #[.val (.int p1), .val (.int p2), .val (.int (own_len1 p1))] [(.int (8 : Int32)), (.int p2), (.int (((p1.toUInt32 >>> ((8 : Int32) &&& 31).toUInt32).toInt32) &&& (255 : Int32)))])) (fun t k => XS.bipush X2.here hx rfl (hb hby d7_49) k) ?_
          refine own_st (B := T2.setTop (mkF m 52 #[.val (.int p1), .val (.int p2), .val (.int (own_len1 p1))] [(.int ((p2.toUInt32 >>> ((8 : Int32) &&& 31).toUInt32).toInt32)), (.int (((p1.toUInt32 >>> ((8 : Int32) &&& 31).toUInt32).toInt32) &&& (255 : Int32)))])) (fun t k => XS.iushr X2.here hx rfl (hb hby d7_51) rfl k) ?_
          refine own_st (B := T2.setTop (mkF m 55 #[.val (.int p1), .val (.int p2), .val (.int (own_len1 p1))] [(.int (255 : Int32)), (.int ((p2.toUInt32 >>> ((8 : Int32) &&& 31).toUInt32).toInt32)), (.int (((p1.toUInt32 >>> ((8 : Int32) &&& 31).toUInt32).toInt32) &&& (255 : Int32)))])) (fun t k => XS.sipush X2.here hx rfl (hb hby d7_52) k) ?_
          refine own_st (B := T2.setTop (mkF m 56 #[.val (.int p1), .val (.int p2), .val (.int (own_len1 p1))] [(.int (((p2.toUInt32 >>> ((8 : Int32) &&& 31).toUInt32).toInt32) &&& (255 : Int32))), (.int (((p1.toUInt32 >>> ((8 : Int32) &&& 31).toUInt32).toInt32) &&& (255 : Int32)))])) (fun t k => XS.iand X2.here hx rfl (hb hby d7_55) rfl k) ?_
          by_cases hc9 : (((p1.toUInt32 >>> ((8 : Int32) &&& 31).toUInt32).toInt32) &&& (255 : Int32)) = (((p2.toUInt32 >>> ((8 : Int32) &&& 31).toUInt32).toInt32) &&& (255 : Int32))
          · refine own_st (B := T2.setTop (mkF m 61 #[.val (.int p1), .val (.int p2), .val (.int (own_len1 p1))] [])) (fun t k => XS.icmpYes X2.here hx rfl (pc0 := 56) (pc' := 61) rfl (hb hby d7_56) rfl (XT.ii_eq_t hc9) (by decide) (by decide) k) ?_
            refine own_st (B := T2.setTop (mkF m 62 #[.val (.int p1), .val (.int p2), .val (.int (own_len1 p1))] [(.int (1 : Int32))])) (fun t k => XS.iconst X2.here hx rfl (hb hby d7_61) k) ?_
            refine own_retN X2 hx hlk (t := .boolean) Bd.returns (by simp) (z' := (1 : Int32)) rfl (hb hby d7_62) (by decide) (by decide) ?_
            show Q7 Z p1 p2 h0 n0 _ T2.heap _
            rw [e2q]
            exact ⟨(by unfold own_same; rw [if_pos hc3, if_neg hc4, if_pos hc7, if_neg hc8, if_pos hc9]), N2, rfl⟩
          · refine own_st (B := T2.setTop (mkF m 59 #[.val (.int p1), .val (.int p2), .val (.int (own_len1 p1))] [])) (fun t k => XS.icmpNo X2.here hx rfl (hb hby d7_56) rfl (XT.ii_eq_f hc9) k) ?_
            refine own_st (B := T2.setTop (mkF m 60 #[.val (.int p1), .val (.int p2), .val (.int (own_len1 p1))] [(.int (0 : Int32))])) (fun t k => XS.iconst X2.here hx rfl (hb hby d7_59) k) ?_
            refine own_retN X2 hx hlk (t := .boolean) Bd.returns (by simp) (z' := (0 : Int32)) rfl (hb hby d7_60) (by decide) (by decide) ?_
            show Q7 Z p1 p2 h0 n0 _ T2.heap _
            rw [e2q]
            exact ⟨(by unfold own_same; rw [if_pos hc3, if_neg hc4, if_pos hc7, if_neg hc8, if_neg hc9]), N2, rfl⟩
      · refine own_st (B := T2.setTop (mkF m 33 #[.val (.int p1), .val (.int p2), .val (.int (own_len1 p1))] [])) (fun t k => XS.icmpNo X2.here hx rfl (hb hby d7_30) rfl (XT.ii_eq_f hc7) k) ?_
        refine own_st (B := T2.setTop (mkF m 34 #[.val (.int p1), .val (.int p2), .val (.int (own_len1 p1))] [(.int (0 : Int32))])) (fun t k => XS.iconst X2.here hx rfl (hb hby d7_33) k) ?_
        refine own_retN X2 hx hlk (t := .boolean) Bd.returns (by simp) (z' := (0 : Int32)) rfl (hb hby d7_34) (by decide) (by decide) ?_
        show Q7 Z p1 p2 h0 n0 _ T2.heap _
        rw [e2q]
        exact ⟨(by unfold own_same; rw [if_pos hc3, if_neg hc4, if_neg hc7]), N2, rfl⟩
  · refine own_st (B := T2.setTop (mkF m 13 #[.val (.int p1), .val (.int p2), .val (.int (own_len1 p1))] [])) (fun t k => XS.icmpNo X2.here hx rfl (hb hby d7_10) rfl (XT.ii_eq_f hc3) k) ?_
    refine own_st (B := T2.setTop (mkF m 14 #[.val (.int p1), .val (.int p2), .val (.int (own_len1 p1))] [(.int (0 : Int32))])) (fun t k => XS.iconst X2.here hx rfl (hb hby d7_13) k) ?_
    refine own_retN X2 hx hlk (t := .boolean) Bd.returns (by simp) (z' := (0 : Int32)) rfl (hb hby d7_14) (by decide) (by decide) ?_
    show Q7 Z p1 p2 h0 n0 _ T2.heap _
    rw [e2q]
    exact ⟨(by unfold own_same; rw [if_neg hc3]), N2, rfl⟩
def own_leq (bs ds : List Int32) : Int32 := if bs = ds then 1 else 0
theorem own_leq1 {bs ds : List Int32} (h : ¬ (own_leq bs ds = (0 : Int32))) : own_leq bs ds = 1 := by
  unfold own_leq at h ⊢
  by_cases g : bs = ds
  · rw [if_pos g]
  · rw [if_neg g] at h; exact absurd rfl h
theorem own_ll {bs ds : List Int32} (h : bs.length < 1000) (h' : ds.length < 1000) : (bs.length.toInt32) = (ds.length.toInt32) ↔ bs.length = ds.length := by
  rw [← Int32.toInt_inj, len_toInt (by omega), len_toInt (by omega)]
  omega
theorem own_ext {bs ds : List Int32} (hl : bs.length = ds.length) (h : ∀ j, j < bs.length → bs.getD j 0 = ds.getD j 0) : bs = ds := by
  refine List.ext_getElem hl fun i h1 h2 => ?_
  have q := h i h1
  rw [List.getD_eq_getElem?_getD, List.getD_eq_getElem?_getD, List.getElem?_eq_getElem h1, List.getElem?_eq_getElem h2] at q
  exact q
theorem own_pn5 : plainName "java/lang/StringLatin1" = true := by first | (simp [plainName, overriddenIn]; done) | decide +kernel
theorem d10_0 : decode jdk_43_method_13_code 0 = .ok (.aload_n 0, 1) := by decide +kernel
theorem d10_1 : decode jdk_43_method_13_code 1 = .ok (.arraylength, 1) := by decide +kernel
theorem d10_2 : decode jdk_43_method_13_code 2 = .ok (.aload_n 1, 1) := by decide +kernel
theorem d10_3 : decode jdk_43_method_13_code 3 = .ok (.arraylength, 1) := by decide +kernel
theorem d10_4 : decode jdk_43_method_13_code 4 = .ok (.if_icmp .ne 30, 3) := by decide +kernel
theorem d10_7 : decode jdk_43_method_13_code 7 = .ok (.iconst 0, 1) := by decide +kernel
theorem d10_8 : decode jdk_43_method_13_code 8 = .ok (.istore_n 2, 1) := by decide +kernel
theorem d10_9 : decode jdk_43_method_13_code 9 = .ok (.iload_n 2, 1) := by decide +kernel
theorem d10_10 : decode jdk_43_method_13_code 10 = .ok (.aload_n 0, 1) := by decide +kernel
theorem d10_11 : decode jdk_43_method_13_code 11 = .ok (.arraylength, 1) := by decide +kernel
theorem d10_12 : decode jdk_43_method_13_code 12 = .ok (.if_icmp .ge 20, 3) := by decide +kernel
theorem d10_15 : decode jdk_43_method_13_code 15 = .ok (.aload_n 0, 1) := by decide +kernel
theorem d10_16 : decode jdk_43_method_13_code 16 = .ok (.iload_n 2, 1) := by decide +kernel
theorem d10_17 : decode jdk_43_method_13_code 17 = .ok (.baload, 1) := by decide +kernel
theorem d10_18 : decode jdk_43_method_13_code 18 = .ok (.aload_n 1, 1) := by decide +kernel
theorem d10_19 : decode jdk_43_method_13_code 19 = .ok (.iload_n 2, 1) := by decide +kernel
theorem d10_20 : decode jdk_43_method_13_code 20 = .ok (.baload, 1) := by decide +kernel
theorem d10_21 : decode jdk_43_method_13_code 21 = .ok (.if_icmp .eq 5, 3) := by decide +kernel
theorem d10_24 : decode jdk_43_method_13_code 24 = .ok (.iconst 0, 1) := by decide +kernel
theorem d10_25 : decode jdk_43_method_13_code 25 = .ok (.ireturn, 1) := by decide +kernel
theorem d10_26 : decode jdk_43_method_13_code 26 = .ok (.iinc 2 1, 3) := by decide +kernel
theorem d10_29 : decode jdk_43_method_13_code 29 = .ok (.goto (-20), 3) := by decide +kernel
theorem d10_32 : decode jdk_43_method_13_code 32 = .ok (.iconst 1, 1) := by decide +kernel
theorem d10_33 : decode jdk_43_method_13_code 33 = .ok (.ireturn, 1) := by decide +kernel
theorem d10_34 : decode jdk_43_method_13_code 34 = .ok (.iconst 0, 1) := by decide +kernel
theorem d10_35 : decode jdk_43_method_13_code 35 = .ok (.ireturn, 1) := by decide +kernel
theorem ef_10 (m : MethodId) (x0 : Addr) (x1 : Addr) : entryFrame m #[(.ref x0), (.ref x1)] 3 = mkF m 0 #[.val (.ref x0), .val (.ref x1), .unset] [] := by first | (simp [entryFrame, mkF, argsToLocals, Value.category]; done) | rfl
def Q10 (Z : State) (a1 : Addr) (a2 : Addr) (bs : List Int32) (ds : List Int32) (h0 : Heap) (n0 : Nat) (v : Option Value) (h : Heap) (L : List Loc) : Prop := v = some (.int (own_leq bs ds)) ∧ Fr n0 L ∧ h = h0
set_option maxHeartbeats 40000000 in
theorem rm10 (l : Launch) (Z : State) (a0 : Array Value) (hw : ∀ d ∈ tables_1, d.before a0 Z = true) (ws : List Jvm.Cond) (a1 : Addr) (a2 : Addr) (bs : List Int32) (ds : List Int32) (h0 : Heap) (n0 : Nat) (Z0 : n0 ≤ h0.size) (F0 : own_A Z h0 a1 .byte (bs.map Value.int)) (F1 : own_A Z h0 a2 .byte (ds.map Value.int)) (hb1 : bs.length < 1000) (hb2 : ds.length < 1000) :
    MetFree l (⟨"java/lang/StringLatin1", "equals", "([B[B)Z"⟩ : MethodName) (head1 (Jvm.Cond.code (⟨"java/lang/StringLatin1", "equals", "([B[B)Z"⟩ : MethodName) jdk_43_method_13_code 3 (some .boolean) :: ws) ({ frames := 0, cells := 0, slots := 0, locals := 0 } : Room)) (fun a U => a = #[(.ref a1), (.ref a2)] ∧ Z.Warmed39 U.vm ∧ U.heap = h0) (fun _ _ _ _ _ => True) (fun _ U o U' => ∃ v L, o = .returned v ∧ Q10 Z a1 a2 bs ds h0 n0 v U'.heap L ∧ FrameEnd U o U' L ({ frames := 0, cells := 0, slots := 0, locals := 0 } : Room).cells ({ frames := 0, cells := 0, slots := 0, locals := 0 } : Room).slots) := by
  refine MetFree.of_bodySF (plainFor_of_name own_pn5) hisR ?_
  intro p e s m args below meth c s₁ Bd hml0 hP hK
  obtain ⟨rfl, hZ, hh⟩ := hP
  have hx := Bd.exec
  have hby := Bd.bytes
  have hml : c.maxLocals = 3 := hml0
  have hlk : meth.locks = false := BodyLoose.notSynchronized Bd
  have hown : s.vm.findClass "java/lang/StringLatin1" = some m.cls := findClass_of_methodNamed Bd.named
  have hnm := (name_of_methodNamed Bd.named Bd.method).1
  have X0 : Stand p l e ({ frames := 0, cells := 0, slots := 0, locals := 0 } : Room) s m #[(.ref a1), (.ref a2)] below meth c s₁ [] 0 0 := Stand.of_body Bd
  have e0 : s₁.heap = h0 := by rw [← hh, Bd.state]; rfl
  have N0 := Fr.nil n0
  show own_Go p e below s (Q10 Z a1 a2 bs ds h0 n0) ({ frames := 0, cells := 0, slots := 0, locals := 0 } : Room).cells ({ frames := 0, cells := 0, slots := 0, locals := 0 } : Room).slots _
  refine own_st (B := s₁.setTop (mkF m 0 #[.val (.ref a1), .val (.ref a2), .unset] [])) (fun t k => castTop (ef_10 m (a1) (a2)) k) ?_
  refine own_st (B := s₁.setTop (mkF m 1 #[.val (.ref a1), .val (.ref a2), .unset] [(.ref a1)])) (fun t k => XS.aloadN X0.here hx rfl (hb hby d10_0) rfl rfl k) ?_
  refine own_st (B := s₁.setTop (mkF m 2 #[.val (.ref a1), .val (.ref a2), .unset] [(.int (bs.length.toInt32))])) (fun t k => own_len X0 hx hZ e0 F0 (g := (mkF m 1 #[.val (.ref a1), .val (.ref a2), .unset] [(.ref a1)])) (n := (bs.length.toInt32)) (by rw [List.length_map, len_toInt (by omega)]) rfl rfl (hb hby d10_1) k) ?_
  refine own_st (B := s₁.setTop (mkF m 3 #[.val (.ref a1), .val (.ref a2), .unset] [(.ref a2), (.int (bs.length.toInt32))])) (fun t k => XS.aloadN X0.here hx rfl (hb hby d10_2) rfl rfl k) ?_
  refine own_st (B := s₁.setTop (mkF m 4 #[.val (.ref a1), .val (.ref a2), .unset] [(.int (ds.length.toInt32)), (.int (bs.length.toInt32))])) (fun t k => own_len X0 hx hZ e0 F1 (g := (mkF m 3 #[.val (.ref a1), .val (.ref a2), .unset] [(.ref a2), (.int (bs.length.toInt32))])) (n := (ds.length.toInt32)) (by rw [List.length_map, len_toInt (by omega)]) rfl rfl (hb hby d10_3) k) ?_
  by_cases hc1 : (bs.length.toInt32) = (ds.length.toInt32)
  · refine own_st (B := s₁.setTop (mkF m 7 #[.val (.ref a1), .val (.ref a2), .unset] [])) (fun t k => XS.icmpNo X0.here hx rfl (hb hby d10_4) rfl (XT.ii_ne_f hc1) k) ?_
    refine own_st (B := s₁.setTop (mkF m 8 #[.val (.ref a1), .val (.ref a2), .unset] [(.int (0 : Int32))])) (fun t k => XS.iconst X0.here hx rfl (hb hby d10_7) k) ?_
    refine own_st (B := s₁.setTop (mkF m 9 #[.val (.ref a1), .val (.ref a2), .val (.int (0 : Int32))] [])) (fun t k => XS.istoreN X0.here hx rfl (hb hby d10_8) rfl (l' := #[.val (.ref a1), .val (.ref a2), .val (.int (0 : Int32))]) rfl k) ?_
    have hle := (own_ll hb1 hb2).mp hc1
    refine own_cut (P := ∀ (mu2 : Nat) (T2 : State) (lo2 : List Loc) (i : Int32), Stand p l e ({ frames := 0, cells := 0, slots := 0, locals := 0 } : Room) s m #[(.ref a1), (.ref a2)] below meth c T2 lo2 0 0 → T2.heap = h0 → Fr n0 lo2 → mu2 = ((bs.length : Int) - i.toInt).toNat → (0 ≤ i.toInt ∧ i.toInt ≤ (bs.length : Int)) → (∀ j, j < i.toInt.toNat → bs.getD j 0 = ds.getD j 0) → own_Go p e below s (Q10 Z a1 a2 bs ds h0 n0) ({ frames := 0, cells := 0, slots := 0, locals := 0 } : Room).cells ({ frames := 0, cells := 0, slots := 0, locals := 0 } : Room).slots (T2.setTop (mkF m 9 #[.val (.ref a1), .val (.ref a2), .val (.int i)] []))) (fun J2 => ?_) ?_
    · exact J2 _ s₁ _ (0 : Int32) X0 e0 N0 rfl (show 0 ≤ (0 : Int32).toInt ∧ (0 : Int32).toInt ≤ (bs.length : Int) by have h0 : (0 : Int32).toInt = 0 := rfl; omega) (show ∀ j, j < (0 : Int32).toInt.toNat → bs.getD j 0 = ds.getD j 0 by intro j hj; exact absurd hj (Nat.not_lt_zero j))
    intro mu2
    induction mu2 using Nat.strongRecOn with
    | ind mu2 ih2 =>
      intro T2 lo2 i X2 e2 N2 hmu2 hi hp
      refine own_st (B := T2.setTop (mkF m 10 #[.val (.ref a1), .val (.ref a2), .val (.int i)] [(.int i)])) (fun t k => XS.iloadN X2.here hx rfl (hb hby d10_9) rfl k) ?_
      refine own_st (B := T2.setTop (mkF m 11 #[.val (.ref a1), .val (.ref a2), .val (.int i)] [(.ref a1), (.int i)])) (fun t k => XS.aloadN X2.here hx rfl (hb hby d10_10) rfl rfl k) ?_
      refine own_st (B := T2.setTop (mkF m 12 #[.val (.ref a1), .val (.ref a2), .val (.int i)] [(.int (bs.length.toInt32)), (.int i)])) (fun t k => own_len X2 hx hZ e2 F0 (g := (mkF m 11 #[.val (.ref a1), .val (.ref a2), .val (.int i)] [(.ref a1), (.int i)])) (n := (bs.length.toInt32)) (by rw [List.length_map, len_toInt (by omega)]) rfl rfl (hb hby d10_11) k) ?_
      by_cases hc3 : i < (bs.length.toInt32)
      · refine own_st (B := T2.setTop (mkF m 15 #[.val (.ref a1), .val (.ref a2), .val (.int i)] [])) (fun t k => XS.icmpNo X2.here hx rfl (hb hby d10_12) rfl (XT.ii_ge_f hc3) k) ?_
        refine own_st (B := T2.setTop (mkF m 16 #[.val (.ref a1), .val (.ref a2), .val (.int i)] [(.ref a1)])) (fun t k => XS.aloadN X2.here hx rfl (hb hby d10_15) rfl rfl k) ?_
        refine own_st (B := T2.setTop (mkF m 17 #[.val (.ref a1), .val (.ref a2), .val (.int i)] [(.int i), (.ref a1)])) (fun t k => XS.iloadN X2.here hx rfl (hb hby d10_16) rfl k) ?_
        refine own_st (B := T2.setTop (mkF m 18 #[.val (.ref a1), .val (.ref a2), .val (.int i)] [(.int (bs.getD i.toInt.toNat 0))])) (fun t k => own_ldB X2 hx hZ e2 F0 (g := (mkF m 17 #[.val (.ref a1), .val (.ref a2), .val (.int i)] [(.int i), (.ref a1)])) (i := (i.toInt.toNat)) (own_nat (by omega)) (own_getI (by have h9 := Int32.lt_iff_toInt_lt.mp hc3; rw [len_toInt (by omega)] at h9; omega)) rfl rfl (hb hby d10_17) k) ?_
        refine own_st (B := T2.setTop (mkF m 19 #[.val (.ref a1), .val (.ref a2), .val (.int i)] [(.ref a2), (.int (bs.getD i.toInt.toNat 0))])) (fun t k => XS.aloadN X2.here hx rfl (hb hby d10_18) rfl rfl k) ?_
        refine own_st (B := T2.setTop (mkF m 20 #[.val (.ref a1), .val (.ref a2), .val (.int i)] [(.int i), (.ref a2), (.int (bs.getD i.toInt.toNat 0))])) (fun t k => XS.iloadN X2.here hx rfl (hb hby d10_19) rfl k) ?_
        refine own_st (B := T2.setTop (mkF m 21 #[.val (.ref a1), .val (.ref a2), .val (.int i)] [(.int (ds.getD i.toInt.toNat 0)), (.int (bs.getD i.toInt.toNat 0))])) (fun t k => own_ldB X2 hx hZ e2 F1 (g := (mkF m 20 #[.val (.ref a1), .val (.ref a2), .val (.int i)] [(.int i), (.ref a2), (.int (bs.getD i.toInt.toNat 0))])) (i := (i.toInt.toNat)) (own_nat (by omega)) (own_getI (by have h9 := Int32.lt_iff_toInt_lt.mp hc3; rw [len_toInt (by omega)] at h9; omega)) rfl rfl (hb hby d10_20) k) ?_
        by_cases hc4 : (bs.getD i.toInt.toNat 0) = (ds.getD i.toInt.toNat 0)
        · refine own_st (B := T2.setTop (mkF m 26 #[.val (.ref a1), .val (.ref a2), .val (.int i)] [])) (fun t k => XS.icmpYes X2.here hx rfl (pc0 := 21) (pc' := 26) rfl (hb hby d10_21) rfl (XT.ii_eq_t hc4) (by decide) (by decide) k) ?_
          refine own_st (B := T2.setTop (mkF m 29 #[.val (.ref a1), .val (.ref a2), .val (.int (i + (1 : Int32)))] [])) (fun t k => XS.iinc X2.here hx rfl (hb hby d10_26) rfl (l' := #[.val (.ref a1), .val (.ref a2), .val (.int (i + (1 : Int32)))]) rfl k) ?_
          refine own_st (B := T2.setTop (mkF m 9 #[.val (.ref a1), .val (.ref a2), .val (.int (i + (1 : Int32)))] [])) (fun t k => XS.goto X2.here hx rfl (pc0 := 29) (pc' := 9) rfl (hb hby d10_29) (by decide) (by decide) k) ?_
          have hlt : i.toInt < (bs.length : Int) := by have h9 := Int32.lt_iff_toInt_lt.mp hc3; rw [len_toInt (by omega)] at h9; exact h9
          have hi1 : (i + (1 : Int32)).toInt = i.toInt + 1 := by have h1 := c_iadd i 1; have h2 := rng32 (i + 1); have h3 : (1 : Int32).toInt = 1 := rfl; omega
          exact ih2 _ (by rw [hi1]; omega) T2 _ ((i + (1 : Int32))) X2 e2 N2 rfl (show 0 ≤ (i + (1 : Int32)).toInt ∧ (i + (1 : Int32)).toInt ≤ (bs.length : Int) by rw [hi1]; omega) (show ∀ j, j < (i + (1 : Int32)).toInt.toNat → bs.getD j 0 = ds.getD j 0 by intro j hj; exact (Nat.lt_or_ge j i.toInt.toNat).elim (fun g => hp j g) (fun g => by have e9 : j = i.toInt.toNat := (by rw [hi1] at hj; omega); rw [e9]; exact hc4))
        · refine own_st (B := T2.setTop (mkF m 24 #[.val (.ref a1), .val (.ref a2), .val (.int i)] [])) (fun t k => XS.icmpNo X2.here hx rfl (hb hby d10_21) rfl (XT.ii_eq_f hc4) k) ?_
          refine own_st (B := T2.setTop (mkF m 25 #[.val (.ref a1), .val (.ref a2), .val (.int i)] [(.int (0 : Int32))])) (fun t k => XS.iconst X2.here hx rfl (hb hby d10_24) k) ?_
          refine own_retN X2 hx hlk (t := .boolean) Bd.returns (by simp) (z' := (0 : Int32)) rfl (hb hby d10_25) (by decide) (by decide) ?_
          show Q10 Z a1 a2 bs ds h0 n0 _ T2.heap _
          rw [e2]
          exact ⟨(by have hn : ¬ (bs = ds) := fun q => hc4 (by rw [q]); unfold own_leq; rw [if_neg hn]), N2, rfl⟩
      · refine own_st (B := T2.setTop (mkF m 32 #[.val (.ref a1), .val (.ref a2), .val (.int i)] [])) (fun t k => XS.icmpYes X2.here hx rfl (pc0 := 12) (pc' := 32) rfl (hb hby d10_12) rfl (XT.ii_ge_t hc3) (by decide) (by decide) k) ?_
        refine own_st (B := T2.setTop (mkF m 33 #[.val (.ref a1), .val (.ref a2), .val (.int i)] [(.int (1 : Int32))])) (fun t k => XS.iconst X2.here hx rfl (hb hby d10_32) k) ?_
        refine own_retN X2 hx hlk (t := .boolean) Bd.returns (by simp) (z' := (1 : Int32)) rfl (hb hby d10_33) (by decide) (by decide) ?_
        show Q10 Z a1 a2 bs ds h0 n0 _ T2.heap _
        rw [e2]
        exact ⟨(by have hn : bs = ds := own_ext hle fun j hj => hp j (by have h9 : ¬ _ := fun q => hc3 (Int32.lt_iff_toInt_lt.mpr q); rw [len_toInt (by omega)] at h9; omega); unfold own_leq; rw [if_pos hn]), N2, rfl⟩
  · refine own_st (B := s₁.setTop (mkF m 34 #[.val (.ref a1), .val (.ref a2), .unset] [])) (fun t k => XS.icmpYes X0.here hx rfl (pc0 := 4) (pc' := 34) rfl (hb hby d10_4) rfl (XT.ii_ne_t hc1) (by decide) (by decide) k) ?_
    refine own_st (B := s₁.setTop (mkF m 35 #[.val (.ref a1), .val (.ref a2), .unset] [(.int (0 : Int32))])) (fun t k => XS.iconst X0.here hx rfl (hb hby d10_34) k) ?_
    refine own_retN X0 hx hlk (t := .boolean) Bd.returns (by simp) (z' := (0 : Int32)) rfl (hb hby d10_35) (by decide) (by decide) ?_
    show Q10 Z a1 a2 bs ds h0 n0 _ s₁.heap _
    rw [e0]
    exact ⟨(by have hn : ¬ (bs = ds) := fun q => hc1 ((own_ll hb1 hb2).mpr (by rw [q])); unfold own_leq; rw [if_neg hn]), N0, rfl⟩
theorem d9_0 : decode jdk_42_method_66_code 0 = .ok (.aload_n 0, 1) := by decide +kernel
theorem d9_1 : decode jdk_42_method_66_code 1 = .ok (.aload_n 1, 1) := by decide +kernel
theorem d9_2 : decode jdk_42_method_66_code 2 = .ok (.if_acmp .ne 5, 3) := by decide +kernel
theorem d9_5 : decode jdk_42_method_66_code 5 = .ok (.iconst 1, 1) := by decide +kernel
theorem d9_6 : decode jdk_42_method_66_code 6 = .ok (.ireturn, 1) := by decide +kernel
theorem ef_9s (m : MethodId) (x0 : Addr) (x1 : Addr) : entryFrame m #[(.ref x0), (.ref x1)] 3 = mkF m 0 #[.val (.ref x0), .val (.ref x1), .unset] [] := by first | (simp [entryFrame, mkF, argsToLocals, Value.category]; done) | rfl
def Q9s (Z : State) (a1 : Addr) (h0 : Heap) (n0 : Nat) (v : Option Value) (h : Heap) (L : List Loc) : Prop := v = some (.int (1 : Int32)) ∧ Fr n0 L ∧ h = h0
set_option maxHeartbeats 40000000 in
theorem rm9s (l : Launch) (Z : State) (a0 : Array Value) (hw : ∀ d ∈ tables_1, d.before a0 Z = true) (ws : List Jvm.Cond) (a1 : Addr) (h0 : Heap) (n0 : Nat) (Z0 : n0 ≤ h0.size) :
    MetFree l (⟨"java/lang/String", "equals", "(Ljava/lang/Object;)Z"⟩ : MethodName) (head1 (Jvm.Cond.code (⟨"java/lang/String", "equals", "(Ljava/lang/Object;)Z"⟩ : MethodName) jdk_42_method_66_code 3 (some .boolean) :: ws) ({ frames := 0, cells := 0, slots := 0, locals := 0 } : Room)) (fun a U => a = #[(.ref a1), (.ref a1)] ∧ Z.Warmed39 U.vm ∧ U.heap = h0) (fun _ _ _ _ _ => True) (fun _ U o U' => ∃ v L, o = .returned v ∧ Q9s Z a1 h0 n0 v U'.heap L ∧ FrameEnd U o U' L ({ frames := 0, cells := 0, slots := 0, locals := 0 } : Room).cells ({ frames := 0, cells := 0, slots := 0, locals := 0 } : Room).slots) := by
  refine MetFree.of_bodySF (plainFor_of_name own_pn3) hisR ?_
  intro p e s m args below meth c s₁ Bd hml0 hP hK
  obtain ⟨rfl, hZ, hh⟩ := hP
  have hx := Bd.exec
  have hby := Bd.bytes
  have hml : c.maxLocals = 3 := hml0
  have hlk : meth.locks = false := BodyLoose.notSynchronized Bd
  have hown : s.vm.findClass "java/lang/String" = some m.cls := findClass_of_methodNamed Bd.named
  have hnm := (name_of_methodNamed Bd.named Bd.method).1
  have X0 : Stand p l e ({ frames := 0, cells := 0, slots := 0, locals := 0 } : Room) s m #[(.ref a1), (.ref a1)] below meth c s₁ [] 0 0 := Stand.of_body Bd
  have e0 : s₁.heap = h0 := by rw [← hh, Bd.state]; rfl
  have N0 := Fr.nil n0
  show own_Go p e below s (Q9s Z a1 h0 n0) ({ frames := 0, cells := 0, slots := 0, locals := 0 } : Room).cells ({ frames := 0, cells := 0, slots := 0, locals := 0 } : Room).slots _
  refine own_st (B := s₁.setTop (mkF m 0 #[.val (.ref a1), .val (.ref a1), .unset] [])) (fun t k => castTop (ef_9s m (a1) (a1)) k) ?_
  refine own_st (B := s₁.setTop (mkF m 1 #[.val (.ref a1), .val (.ref a1), .unset] [(.ref a1)])) (fun t k => XS.aloadN X0.here hx rfl (hb hby d9_0) rfl rfl k) ?_
  refine own_st (B := s₁.setTop (mkF m 2 #[.val (.ref a1), .val (.ref a1), .unset] [(.ref a1), (.ref a1)])) (fun t k => XS.aloadN X0.here hx rfl (hb hby d9_1) rfl rfl k) ?_
  refine own_st (B := s₁.setTop (mkF m 5 #[.val (.ref a1), .val (.ref a1), .unset] [])) (fun t k => Jvm.RoadKit.acmp (g := (mkF m 2 #[.val (.ref a1), .val (.ref a1), .unset] [(.ref a1), (.ref a1)])) X0 hx rfl rfl rfl (pc0 := 2) (pc' := 5) (same := true) rfl (hb hby d9_2) rfl (decide_eq_true rfl) (by decide) (by decide) k) ?_
  refine own_st (B := s₁.setTop (mkF m 6 #[.val (.ref a1), .val (.ref a1), .unset] [(.int (1 : Int32))])) (fun t k => XS.iconst X0.here hx rfl (hb hby d9_5) k) ?_
  refine own_retN X0 hx hlk (t := .boolean) Bd.returns (by simp) (z' := (1 : Int32)) rfl (hb hby d9_6) (by decide) (by decide) ?_
  show Q9s Z a1 h0 n0 _ s₁.heap _
  rw [e0]
  exact ⟨rfl, N0, rfl⟩
theorem own_pd11 : parseMethodDescriptor "([B[B)Z" = some ⟨[(.array .byte), (.array .byte)], some .boolean⟩ := by decide +kernel
theorem d9_7 : decode jdk_42_method_66_code 7 = .ok (.aload_n 1, 1) := by decide +kernel
theorem d9_8 : decode jdk_42_method_66_code 8 = .ok (.instanceof 10, 3) := by decide +kernel
theorem d9_11 : decode jdk_42_method_66_code 11 = .ok (.ifCond .eq 43, 3) := by decide +kernel
theorem d9_14 : decode jdk_42_method_66_code 14 = .ok (.aload_n 1, 1) := by decide +kernel
theorem d9_15 : decode jdk_42_method_66_code 15 = .ok (.checkcast 10, 3) := by decide +kernel
theorem d9_18 : decode jdk_42_method_66_code 18 = .ok (.astore_n 2, 1) := by decide +kernel
theorem d9_19 : decode jdk_42_method_66_code 19 = .ok (.getstatic 38, 3) := by decide +kernel
theorem d9_22 : decode jdk_42_method_66_code 22 = .ok (.ifCond .eq 14, 3) := by decide +kernel
theorem d9_25 : decode jdk_42_method_66_code 25 = .ok (.aload_n 0, 1) := by decide +kernel
theorem d9_26 : decode jdk_42_method_66_code 26 = .ok (.getfield 15, 3) := by decide +kernel
theorem d9_29 : decode jdk_42_method_66_code 29 = .ok (.aload_n 2, 1) := by decide +kernel
theorem d9_30 : decode jdk_42_method_66_code 30 = .ok (.getfield 15, 3) := by decide +kernel
theorem d9_33 : decode jdk_42_method_66_code 33 = .ok (.if_icmp .ne 21, 3) := by decide +kernel
theorem d9_36 : decode jdk_42_method_66_code 36 = .ok (.aload_n 0, 1) := by decide +kernel
theorem d9_37 : decode jdk_42_method_66_code 37 = .ok (.getfield 9, 3) := by decide +kernel
theorem d9_40 : decode jdk_42_method_66_code 40 = .ok (.aload_n 2, 1) := by decide +kernel
theorem d9_41 : decode jdk_42_method_66_code 41 = .ok (.getfield 9, 3) := by decide +kernel
theorem d9_44 : decode jdk_42_method_66_code 44 = .ok (.invokestatic 541, 3) := by decide +kernel
theorem d9_47 : decode jdk_42_method_66_code 47 = .ok (.ifCond .eq 7, 3) := by decide +kernel
theorem d9_50 : decode jdk_42_method_66_code 50 = .ok (.iconst 1, 1) := by decide +kernel
theorem d9_51 : decode jdk_42_method_66_code 51 = .ok (.goto 4, 3) := by decide +kernel
theorem d9_54 : decode jdk_42_method_66_code 54 = .ok (.iconst 0, 1) := by decide +kernel
theorem d9_55 : decode jdk_42_method_66_code 55 = .ok (.ireturn, 1) := by decide +kernel
theorem ef_9d (m : MethodId) (x0 : Addr) (x1 : Addr) : entryFrame m #[(.ref x0), (.ref x1)] 3 = mkF m 0 #[.val (.ref x0), .val (.ref x1), .unset] [] := by first | (simp [entryFrame, mkF, argsToLocals, Value.category]; done) | rfl
def Q9d (Z : State) (a1 : Addr) (a2 : Addr) (b1 : Addr) (b2 : Addr) (bs : List Int32) (ds : List Int32) (cs : Int32) (h0 : Heap) (n0 : Nat) (v : Option Value) (h : Heap) (L : List Loc) : Prop := v = some (.int (own_leq bs ds)) ∧ Fr n0 L ∧ h = h0
set_option maxHeartbeats 40000000 in
theorem rm9d (l : Launch) (Z : State) (a0 : Array Value) (hw : ∀ d ∈ tables_1, d.before a0 Z = true) (ws : List Jvm.Cond) (a1 : Addr) (a2 : Addr) (b1 : Addr) (b2 : Addr) (bs : List Int32) (ds : List Int32) (cs : Int32) (h0 : Heap) (n0 : Nat) (Z0 : n0 ≤ h0.size) (F0 : Exa Z h0 a1 "java/lang/String") (F1 : Exa Z h0 a2 "java/lang/String") (F2 : Fld Z h0 a1 "java/lang/String" "coder" "B" (.int (0 : Int32))) (F3 : Fld Z h0 a1 "java/lang/String" "value" "[B" (.ref b1)) (F4 : Fld Z h0 a2 "java/lang/String" "coder" "B" (.int (0 : Int32))) (F5 : Fld Z h0 a2 "java/lang/String" "value" "[B" (.ref b2)) (F6 : own_A Z h0 b1 .byte (bs.map Value.int)) (F7 : own_A Z h0 b2 .byte (ds.map Value.int)) (F8 : Sta Z h0 "java/lang/String" "COMPACT_STRINGS" "Z" (.int cs)) (nn : a1 ≠ a2) (hcs : ¬ (cs = (0 : Int32))) (hb1 : bs.length < 1000) (hb2 : ds.length < 1000) :
    MetFree l (⟨"java/lang/String", "equals", "(Ljava/lang/Object;)Z"⟩ : MethodName) (head1 (Jvm.Cond.code (⟨"java/lang/String", "equals", "(Ljava/lang/Object;)Z"⟩ : MethodName) jdk_42_method_66_code 3 (some .boolean) :: ws) ({ frames := 1, cells := 0, slots := 0, locals := 14 } : Room)) (fun a U => a = #[(.ref a1), (.ref a2)] ∧ Z.Warmed39 U.vm ∧ U.heap = h0) (fun _ _ _ _ _ => True) (fun _ U o U' => ∃ v L, o = .returned v ∧ Q9d Z a1 a2 b1 b2 bs ds cs h0 n0 v U'.heap L ∧ FrameEnd U o U' L ({ frames := 1, cells := 0, slots := 0, locals := 14 } : Room).cells ({ frames := 1, cells := 0, slots := 0, locals := 14 } : Room).slots) := by
  refine MetFree.of_bodySF (plainFor_of_name own_pn3) hisR ?_
  intro p e s m args below meth c s₁ Bd hml0 hP hK
  obtain ⟨rfl, hZ, hh⟩ := hP
  have hx := Bd.exec
  have hby := Bd.bytes
  have hml : c.maxLocals = 3 := hml0
  have hlk : meth.locks = false := BodyLoose.notSynchronized Bd
  have hown : s.vm.findClass "java/lang/String" = some m.cls := findClass_of_methodNamed Bd.named
  have hnm := (name_of_methodNamed Bd.named Bd.method).1
  have X0 : Stand p l e ({ frames := 1, cells := 0, slots := 0, locals := 14 } : Room) s m #[(.ref a1), (.ref a2)] below meth c s₁ [] 0 0 := Stand.of_body Bd
  have e0 : s₁.heap = h0 := by rw [← hh, Bd.state]; rfl
  have N0 := Fr.nil n0
  show own_Go p e below s (Q9d Z a1 a2 b1 b2 bs ds cs h0 n0) ({ frames := 1, cells := 0, slots := 0, locals := 14 } : Room).cells ({ frames := 1, cells := 0, slots := 0, locals := 14 } : Room).slots _
  refine own_st (B := s₁.setTop (mkF m 0 #[.val (.ref a1), .val (.ref a2), .unset] [])) (fun t k => castTop (ef_9d m (a1) (a2)) k) ?_
  refine own_st (B := s₁.setTop (mkF m 1 #[.val (.ref a1), .val (.ref a2), .unset] [(.ref a1)])) (fun t k => XS.aloadN X0.here hx rfl (hb hby d9_0) rfl rfl k) ?_
  refine own_st (B := s₁.setTop (mkF m 2 #[.val (.ref a1), .val (.ref a2), .unset] [(.ref a2), (.ref a1)])) (fun t k => XS.aloadN X0.here hx rfl (hb hby d9_1) rfl rfl k) ?_
  refine own_st (B := s₁.setTop (mkF m 7 #[.val (.ref a1), .val (.ref a2), .unset] [])) (fun t k => Jvm.RoadKit.acmp (g := (mkF m 2 #[.val (.ref a1), .val (.ref a2), .unset] [(.ref a2), (.ref a1)])) X0 hx rfl rfl rfl (pc0 := 2) (pc' := 7) (same := false) rfl (hb hby d9_2) rfl (decide_eq_false fun q => nn (Value.ref.inj q)) (by decide) (by decide) k) ?_
  refine own_st (B := s₁.setTop (mkF m 8 #[.val (.ref a1), .val (.ref a2), .unset] [(.ref a2)])) (fun t k => XS.aloadN X0.here hx rfl (hb hby d9_7) rfl rfl k) ?_
  obtain ⟨T1, X1, e1, st1⟩ := instY X0 hx hZ hown (w_55 hw) e0 (Ins.self F1) (g := (mkF m 8 #[.val (.ref a1), .val (.ref a2), .unset] [(.ref a2)])) rfl rfl (hb hby d9_8)
  refine own_st (B := T1.setTop (mkF m 11 #[.val (.ref a1), .val (.ref a2), .unset] [(.int (1 : Int32))])) (fun t k => st1 t k) ?_
  refine own_st (B := T1.setTop (mkF m 14 #[.val (.ref a1), .val (.ref a2), .unset] [])) (fun t k => XS.ifNo X1.here hx rfl (hb hby d9_11) rfl (by decide) k) ?_
  refine own_st (B := T1.setTop (mkF m 15 #[.val (.ref a1), .val (.ref a2), .unset] [(.ref a2)])) (fun t k => XS.aloadN X1.here hx rfl (hb hby d9_14) rfl rfl k) ?_
  obtain ⟨T2, X2, e2, st2⟩ := castY X1 hx hZ hown (w_55 hw) e1 (Ins.self F1) (g := (mkF m 15 #[.val (.ref a1), .val (.ref a2), .unset] [(.ref a2)])) rfl rfl (hb hby d9_15)
  refine own_st (B := T2.setTop (mkF m 18 #[.val (.ref a1), .val (.ref a2), .unset] [(.ref a2)])) (fun t k => st2 t k) ?_
  refine own_st (B := T2.setTop (mkF m 19 #[.val (.ref a1), .val (.ref a2), .val (.ref a2)] [])) (fun t k => XS.astoreN X2.here hx rfl (hb hby d9_18) rfl rfl (l' := #[.val (.ref a1), .val (.ref a2), .val (.ref a2)]) rfl k) ?_
  obtain ⟨T3, X3, e3, st3⟩ := getS2 X2 hx hZ hown (host := "") (Or.inl (w_56 hw)) Via.refl e2 F8 (g := (mkF m 19 #[.val (.ref a1), .val (.ref a2), .val (.ref a2)] [])) rfl (hb hby d9_19)
  refine own_st (B := T3.setTop (mkF m 22 #[.val (.ref a1), .val (.ref a2), .val (.ref a2)] [(.int cs)])) (fun t k => st3 t k) ?_
  refine own_st (B := T3.setTop (mkF m 25 #[.val (.ref a1), .val (.ref a2), .val (.ref a2)] [])) (fun t k => XS.ifNo X3.here hx rfl (hb hby d9_22) rfl (XT.i0_eq_f hcs) k) ?_
  refine own_st (B := T3.setTop (mkF m 26 #[.val (.ref a1), .val (.ref a2), .val (.ref a2)] [(.ref a1)])) (fun t k => XS.aloadN X3.here hx rfl (hb hby d9_25) rfl rfl k) ?_
  obtain ⟨T4, X4, e4, st4⟩ := getF X3 hx hZ hown (host := "") (Or.inl (w_31 hw)) Via.refl e3 F2 (g := (mkF m 26 #[.val (.ref a1), .val (.ref a2), .val (.ref a2)] [(.ref a1)])) rfl rfl (hb hby d9_26)
  refine own_st (B := T4.setTop (mkF m 29 #[.val (.ref a1), .val (.ref a2), .val (.ref a2)] [(.int (0 : Int32))])) (fun t k => st4 t k) ?_
  refine own_st (B := T4.setTop (mkF m 30 #[.val (.ref a1), .val (.ref a2), .val (.ref a2)] [(.ref a2), (.int (0 : Int32))])) (fun t k => XS.aloadN X4.here hx rfl (hb hby d9_29) rfl rfl k) ?_
  obtain ⟨T5, X5, e5, st5⟩ := getF X4 hx hZ hown (host := "") (Or.inl (w_31 hw)) Via.refl e4 F4 (g := (mkF m 30 #[.val (.ref a1), .val (.ref a2), .val (.ref a2)] [(.ref a2), (.int (0 : Int32))])) rfl rfl (hb hby d9_30)
  refine own_st (B := T5.setTop (mkF m 33 #[.val (.ref a1), .val (.ref a2), .val (.ref a2)] [(.int (0 : Int32)), (.int (0 : Int32))])) (fun t k => st5 t k) ?_
  refine own_st (B := T5.setTop (mkF m 36 #[.val (.ref a1), .val (.ref a2), .val (.ref a2)] [])) (fun t k => XS.icmpNo X5.here hx rfl (hb hby d9_33) rfl (by decide) k) ?_
  refine own_st (B := T5.setTop (mkF m 37 #[.val (.ref a1), .val (.ref a2), .val (.ref a2)] [(.ref a1)])) (fun t k => XS.aloadN X5.here hx rfl (hb hby d9_36) rfl rfl k) ?_
  obtain ⟨T6, X6, e6, st6⟩ := getF X5 hx hZ hown (host := "") (Or.inl (w_30 hw)) Via.refl e5 F3 (g := (mkF m 37 #[.val (.ref a1), .val (.ref a2), .val (.ref a2)] [(.ref a1)])) rfl rfl (hb hby d9_37)
  refine own_st (B := T6.setTop (mkF m 40 #[.val (.ref a1), .val (.ref a2), .val (.ref a2)] [(.ref b1)])) (fun t k => st6 t k) ?_
  refine own_st (B := T6.setTop (mkF m 41 #[.val (.ref a1), .val (.ref a2), .val (.ref a2)] [(.ref a2), (.ref b1)])) (fun t k => XS.aloadN X6.here hx rfl (hb hby d9_40) rfl rfl k) ?_
  obtain ⟨T7, X7, e7, st7⟩ := getF X6 hx hZ hown (host := "") (Or.inl (w_30 hw)) Via.refl e6 F5 (g := (mkF m 41 #[.val (.ref a1), .val (.ref a2), .val (.ref a2)] [(.ref a2), (.ref b1)])) rfl rfl (hb hby d9_41)
  refine own_st (B := T7.setTop (mkF m 44 #[.val (.ref a1), .val (.ref a2), .val (.ref a2)] [(.ref b2), (.ref b1)])) (fun t k => st7 t k) ?_
  obtain ⟨_, _, ⟨T8, L8, k8, j8⟩, -, X8, ⟨Lc8, hQ8, l8, y8_, z8_⟩, st8⟩ := Jvm.LawKit.callS X7 hx (y := (⟨"java/lang/StringLatin1", "equals", "([B[B)Z"⟩ : MethodName)) hown (mvT hZ (w_57 hw)) (mvT hZ (w_58 hw)) (mvT hZ (w_59 hw)) (mvT hZ (w_60 hw)) (by decide) (backOf (W := 0) (rm10 l Z a0 hw [] b1 b2 bs ds h0 n0 Z0 F6 F7 hb1 hb2) hZ (w_60 hw) (w_59 hw) (by decide) (by decide)) (g := (mkF m 44 #[.val (.ref a1), .val (.ref a2), .val (.ref a2)] [(.ref b2), (.ref b1)])) rfl (by rw [hml]; rfl) (argsL := [(.ref b1), (.ref b2)]) (rest := []) (lenOf own_pd11 rfl) rfl (by show 2 * 0 + _ ≤ _; exact Nat.le_of_eq rfl) (hb hby d9_44) (fun _ _ => ⟨rfl, e7, (by decide : 0 + 0 ≤ _), (by decide : 0 + 0 ≤ _)⟩)
  dsimp only [Pt.U, Pt.locs, Pt.cells, Pt.slots] at X8 l8 y8_ z8_ st8 hQ8
  subst l8 y8_ z8_
  obtain ⟨rfl, N8q, e8q⟩ := hQ8
  have N8 := Fr.app N0 N8q
  refine own_st (B := T8.setTop (mkF m 47 #[.val (.ref a1), .val (.ref a2), .val (.ref a2)] [(.int (own_leq bs ds))])) (fun t k => st8 t k) ?_
  by_cases hc9 : (own_leq bs ds) = (0 : Int32)
  · refine own_st (B := T8.setTop (mkF m 54 #[.val (.ref a1), .val (.ref a2), .val (.ref a2)] [])) (fun t k => XS.ifYes X8.here hx rfl (pc0 := 47) (pc' := 54) rfl (hb hby d9_47) rfl (XT.i0_eq_t hc9) (by decide) (by decide) k) ?_
    refine own_st (B := T8.setTop (mkF m 55 #[.val (.ref a1), .val (.ref a2), .val (.ref a2)] [(.int (0 : Int32))])) (fun t k => XS.iconst X8.here hx rfl (hb hby d9_54) k) ?_
    refine own_retN X8 hx hlk (t := .boolean) Bd.returns (by simp) (z' := (0 : Int32)) rfl (hb hby d9_55) (by decide) (by decide) ?_
    show Q9d Z a1 a2 b1 b2 bs ds cs h0 n0 _ T8.heap _
    rw [e8q]
    exact ⟨(by rw [hc9]), N8, rfl⟩
  · refine own_st (B := T8.setTop (mkF m 50 #[.val (.ref a1), .val (.ref a2), .val (.ref a2)] [])) (fun t k => XS.ifNo X8.here hx rfl (hb hby d9_47) rfl (XT.i0_eq_f hc9) k) ?_
    refine own_st (B := T8.setTop (mkF m 51 #[.val (.ref a1), .val (.ref a2), .val (.ref a2)] [(.int (1 : Int32))])) (fun t k => XS.iconst X8.here hx rfl (hb hby d9_50) k) ?_
    refine own_st (B := T8.setTop (mkF m 55 #[.val (.ref a1), .val (.ref a2), .val (.ref a2)] [(.int (1 : Int32))])) (fun t k => XS.goto X8.here hx rfl (pc0 := 51) (pc' := 55) rfl (hb hby d9_51) (by decide) (by decide) k) ?_
    refine own_retN X8 hx hlk (t := .boolean) Bd.returns (by simp) (z' := (1 : Int32)) rfl (hb hby d9_55) (by decide) (by decide) ?_
    show Q9d Z a1 a2 b1 b2 bs ds cs h0 n0 _ T8.heap _
    rw [e8q]
    exact ⟨(by rw [own_leq1 hc9]), N8, rfl⟩
theorem d8_0 : decode prog_6_method_4_code 0 = .ok (.aload_n 1, 1) := by decide +kernel
theorem d8_1 : decode prog_6_method_4_code 1 = .ok (.instanceof 8, 3) := by decide +kernel
theorem d8_4 : decode prog_6_method_4_code 4 = .ok (.ifCond .eq 40, 3) := by decide +kernel
theorem d8_44 : decode prog_6_method_4_code 44 = .ok (.iconst 0, 1) := by decide +kernel
theorem d8_45 : decode prog_6_method_4_code 45 = .ok (.ireturn, 1) := by decide +kernel
theorem ef_8n (m : MethodId) (x0 : Addr) : entryFrame m #[(.ref x0), .null] 3 = mkF m 0 #[.val (.ref x0), .val .null, .unset] [] := by first | (simp [entryFrame, mkF, argsToLocals, Value.category]; done) | rfl
def Q8n (Z : State) (a1 : Addr) (h0 : Heap) (n0 : Nat) (v : Option Value) (h : Heap) (L : List Loc) : Prop := v = some (.int (0 : Int32)) ∧ Fr n0 L ∧ h = h0
set_option maxHeartbeats 40000000 in
theorem rm8n (l : Launch) (Z : State) (a0 : Array Value) (hw : ∀ d ∈ tables_1, d.before a0 Z = true) (ws : List Jvm.Cond) (a1 : Addr) (h0 : Heap) (n0 : Nat) (Z0 : n0 ≤ h0.size) :
    MetFree l (⟨"com/example/marshal_lock/marshallock/internal/Hold", "equals", "(Ljava/lang/Object;)Z"⟩ : MethodName) (head1 (Jvm.Cond.code (⟨"com/example/marshal_lock/marshallock/internal/Hold", "equals", "(Ljava/lang/Object;)Z"⟩ : MethodName) prog_6_method_4_code 3 (some .boolean) :: ws) ({ frames := 0, cells := 0, slots := 0, locals := 0 } : Room)) (fun a U => a = #[(.ref a1), .null] ∧ Z.Warmed39 U.vm ∧ U.heap = h0) (fun _ _ _ _ _ => True) (fun _ U o U' => ∃ v L, o = .returned v ∧ Q8n Z a1 h0 n0 v U'.heap L ∧ FrameEnd U o U' L ({ frames := 0, cells := 0, slots := 0, locals := 0 } : Room).cells ({ frames := 0, cells := 0, slots := 0, locals := 0 } : Room).slots) := by
  refine MetFree.of_bodySF (plainFor_of_name own_pn4) hisR ?_
  intro p e s m args below meth c s₁ Bd hml0 hP hK
  obtain ⟨rfl, hZ, hh⟩ := hP
  have hx := Bd.exec
  have hby := Bd.bytes
  have hml : c.maxLocals = 3 := hml0
  have hlk : meth.locks = false := BodyLoose.notSynchronized Bd
  have hown : s.vm.findClass "com/example/marshal_lock/marshallock/internal/Hold" = some m.cls := findClass_of_methodNamed Bd.named
  have hnm := (name_of_methodNamed Bd.named Bd.method).1
  have X0 : Stand p l e ({ frames := 0, cells := 0, slots := 0, locals := 0 } : Room) s m #[(.ref a1), .null] below meth c s₁ [] 0 0 := Stand.of_body Bd
  have e0 : s₁.heap = h0 := by rw [← hh, Bd.state]; rfl
  have N0 := Fr.nil n0
  show own_Go p e below s (Q8n Z a1 h0 n0) ({ frames := 0, cells := 0, slots := 0, locals := 0 } : Room).cells ({ frames := 0, cells := 0, slots := 0, locals := 0 } : Room).slots _
  refine own_st (B := s₁.setTop (mkF m 0 #[.val (.ref a1), .val .null, .unset] [])) (fun t k => castTop (ef_8n m (a1)) k) ?_
  refine own_st (B := s₁.setTop (mkF m 1 #[.val (.ref a1), .val .null, .unset] [.null])) (fun t k => XS.aloadN X0.here hx rfl (hb hby d8_0) rfl rfl k) ?_
  refine own_st (B := s₁.setTop (mkF m 4 #[.val (.ref a1), .val .null, .unset] [(.int (0 : Int32))])) (fun t k => X0.instanceofNull hx (g := (mkF m 1 #[.val (.ref a1), .val .null, .unset] [.null])) rfl rfl (hb hby d8_1) _ k) ?_
  refine own_st (B := s₁.setTop (mkF m 44 #[.val (.ref a1), .val .null, .unset] [])) (fun t k => XS.ifYes X0.here hx rfl (pc0 := 4) (pc' := 44) rfl (hb hby d8_4) rfl (by decide) (by decide) (by decide) k) ?_
  refine own_st (B := s₁.setTop (mkF m 45 #[.val (.ref a1), .val .null, .unset] [(.int (0 : Int32))])) (fun t k => XS.iconst X0.here hx rfl (hb hby d8_44) k) ?_
  refine own_retN X0 hx hlk (t := .boolean) Bd.returns (by simp) (z' := (0 : Int32)) rfl (hb hby d8_45) (by decide) (by decide) ?_
  show Q8n Z a1 h0 n0 _ s₁.heap _
  rw [e0]
  exact ⟨rfl, N0, rfl⟩
theorem ef_8t (m : MethodId) (x0 : Addr) (x1 : Addr) : entryFrame m #[(.ref x0), (.ref x1)] 3 = mkF m 0 #[.val (.ref x0), .val (.ref x1), .unset] [] := by first | (simp [entryFrame, mkF, argsToLocals, Value.category]; done) | rfl
def Q8t (Z : State) (a1 : Addr) (a2 : Addr) (h0 : Heap) (n0 : Nat) (v : Option Value) (h : Heap) (L : List Loc) : Prop := v = some (.int (0 : Int32)) ∧ Fr n0 L ∧ h = h0
set_option maxHeartbeats 40000000 in
theorem rm8t (l : Launch) (Z : State) (a0 : Array Value) (hw : ∀ d ∈ tables_1, d.before a0 Z = true) (ws : List Jvm.Cond) (a1 : Addr) (a2 : Addr) (h0 : Heap) (n0 : Nat) (Z0 : n0 ≤ h0.size) (F0 : Exa Z h0 a2 "java/lang/String") :
    MetFree l (⟨"com/example/marshal_lock/marshallock/internal/Hold", "equals", "(Ljava/lang/Object;)Z"⟩ : MethodName) (head1 (Jvm.Cond.code (⟨"com/example/marshal_lock/marshallock/internal/Hold", "equals", "(Ljava/lang/Object;)Z"⟩ : MethodName) prog_6_method_4_code 3 (some .boolean) :: ws) ({ frames := 0, cells := 0, slots := 0, locals := 0 } : Room)) (fun a U => a = #[(.ref a1), (.ref a2)] ∧ Z.Warmed39 U.vm ∧ U.heap = h0) (fun _ _ _ _ _ => True) (fun _ U o U' => ∃ v L, o = .returned v ∧ Q8t Z a1 a2 h0 n0 v U'.heap L ∧ FrameEnd U o U' L ({ frames := 0, cells := 0, slots := 0, locals := 0 } : Room).cells ({ frames := 0, cells := 0, slots := 0, locals := 0 } : Room).slots) := by
  refine MetFree.of_bodySF (plainFor_of_name own_pn4) hisR ?_
  intro p e s m args below meth c s₁ Bd hml0 hP hK
  obtain ⟨rfl, hZ, hh⟩ := hP
  have hx := Bd.exec
  have hby := Bd.bytes
  have hml : c.maxLocals = 3 := hml0
  have hlk : meth.locks = false := BodyLoose.notSynchronized Bd
  have hown : s.vm.findClass "com/example/marshal_lock/marshallock/internal/Hold" = some m.cls := findClass_of_methodNamed Bd.named
  have hnm := (name_of_methodNamed Bd.named Bd.method).1
  have X0 : Stand p l e ({ frames := 0, cells := 0, slots := 0, locals := 0 } : Room) s m #[(.ref a1), (.ref a2)] below meth c s₁ [] 0 0 := Stand.of_body Bd
  have e0 : s₁.heap = h0 := by rw [← hh, Bd.state]; rfl
  have N0 := Fr.nil n0
  show own_Go p e below s (Q8t Z a1 a2 h0 n0) ({ frames := 0, cells := 0, slots := 0, locals := 0 } : Room).cells ({ frames := 0, cells := 0, slots := 0, locals := 0 } : Room).slots _
  refine own_st (B := s₁.setTop (mkF m 0 #[.val (.ref a1), .val (.ref a2), .unset] [])) (fun t k => castTop (ef_8t m (a1) (a2)) k) ?_
  refine own_st (B := s₁.setTop (mkF m 1 #[.val (.ref a1), .val (.ref a2), .unset] [(.ref a2)])) (fun t k => XS.aloadN X0.here hx rfl (hb hby d8_0) rfl rfl k) ?_
  obtain ⟨T1, X1, e1, st1⟩ := instNo X0 hx hZ hown (w_48 hw) e0 F0 (own_notH hw) (g := (mkF m 1 #[.val (.ref a1), .val (.ref a2), .unset] [(.ref a2)])) rfl rfl (hb hby d8_1)
  refine own_st (B := T1.setTop (mkF m 4 #[.val (.ref a1), .val (.ref a2), .unset] [(.int (0 : Int32))])) (fun t k => st1 t k) ?_
  refine own_st (B := T1.setTop (mkF m 44 #[.val (.ref a1), .val (.ref a2), .unset] [])) (fun t k => XS.ifYes X1.here hx rfl (pc0 := 4) (pc' := 44) rfl (hb hby d8_4) rfl (by decide) (by decide) (by decide) k) ?_
  refine own_st (B := T1.setTop (mkF m 45 #[.val (.ref a1), .val (.ref a2), .unset] [(.int (0 : Int32))])) (fun t k => XS.iconst X1.here hx rfl (hb hby d8_44) k) ?_
  refine own_retN X1 hx hlk (t := .boolean) Bd.returns (by simp) (z' := (0 : Int32)) rfl (hb hby d8_45) (by decide) (by decide) ?_
  show Q8t Z a1 a2 h0 n0 _ T1.heap _
  rw [e1]
  exact ⟨rfl, N0, rfl⟩
theorem own_pd12 : parseMethodDescriptor "(Ljava/lang/Object;)Z" = some ⟨[(.object "java/lang/Object")], some .boolean⟩ := by decide +kernel
theorem d8_7 : decode prog_6_method_4_code 7 = .ok (.aload_n 1, 1) := by decide +kernel
theorem d8_8 : decode prog_6_method_4_code 8 = .ok (.checkcast 8, 3) := by decide +kernel
theorem d8_11 : decode prog_6_method_4_code 11 = .ok (.astore_n 2, 1) := by decide +kernel
theorem d8_12 : decode prog_6_method_4_code 12 = .ok (.aload_n 0, 1) := by decide +kernel
theorem d8_13 : decode prog_6_method_4_code 13 = .ok (.getfield 7, 3) := by decide +kernel
theorem d8_16 : decode prog_6_method_4_code 16 = .ok (.aload_n 2, 1) := by decide +kernel
theorem d8_17 : decode prog_6_method_4_code 17 = .ok (.getfield 7, 3) := by decide +kernel
theorem d8_20 : decode prog_6_method_4_code 20 = .ok (.invokevirtual 16, 3) := by decide +kernel
theorem d8_23 : decode prog_6_method_4_code 23 = .ok (.ifCond .eq 21, 3) := by decide +kernel
theorem d8_26 : decode prog_6_method_4_code 26 = .ok (.aload_n 0, 1) := by decide +kernel
theorem d8_27 : decode prog_6_method_4_code 27 = .ok (.getfield 13, 3) := by decide +kernel
theorem d8_30 : decode prog_6_method_4_code 30 = .ok (.aload_n 2, 1) := by decide +kernel
theorem d8_31 : decode prog_6_method_4_code 31 = .ok (.getfield 13, 3) := by decide +kernel
theorem d8_34 : decode prog_6_method_4_code 34 = .ok (.invokevirtual 16, 3) := by decide +kernel
theorem d8_37 : decode prog_6_method_4_code 37 = .ok (.ifCond .eq 7, 3) := by decide +kernel
theorem d8_40 : decode prog_6_method_4_code 40 = .ok (.iconst 1, 1) := by decide +kernel
theorem d8_41 : decode prog_6_method_4_code 41 = .ok (.goto 4, 3) := by decide +kernel
theorem ef_8s (m : MethodId) (x0 : Addr) (x1 : Addr) : entryFrame m #[(.ref x0), (.ref x1)] 3 = mkF m 0 #[.val (.ref x0), .val (.ref x1), .unset] [] := by first | (simp [entryFrame, mkF, argsToLocals, Value.category]; done) | rfl
def Q8s (Z : State) (a1 : Addr) (s1 : Addr) (s2 : Addr) (h0 : Heap) (n0 : Nat) (v : Option Value) (h : Heap) (L : List Loc) : Prop := v = some (.int (1 : Int32)) ∧ Fr n0 L ∧ h = h0
set_option maxHeartbeats 40000000 in
theorem rm8s (l : Launch) (Z : State) (a0 : Array Value) (hw : ∀ d ∈ tables_1, d.before a0 Z = true) (ws : List Jvm.Cond) (a1 : Addr) (s1 : Addr) (s2 : Addr) (h0 : Heap) (n0 : Nat) (Z0 : n0 ≤ h0.size) (F0 : Exa Z h0 a1 "com/example/marshal_lock/marshallock/internal/Hold") (F1 : Fld Z h0 a1 "com/example/marshal_lock/marshallock/internal/Hold" "lockKey" "Ljava/lang/String;" (.ref s1)) (F2 : Fld Z h0 a1 "com/example/marshal_lock/marshallock/internal/Hold" "owner" "Ljava/lang/String;" (.ref s2)) (F3 : Exa Z h0 s1 "java/lang/String") (F4 : Exa Z h0 s2 "java/lang/String") :
    MetFree l (⟨"com/example/marshal_lock/marshallock/internal/Hold", "equals", "(Ljava/lang/Object;)Z"⟩ : MethodName) (head1 (Jvm.Cond.code (⟨"com/example/marshal_lock/marshallock/internal/Hold", "equals", "(Ljava/lang/Object;)Z"⟩ : MethodName) prog_6_method_4_code 3 (some .boolean) :: ws) ({ frames := 1, cells := 0, slots := 0, locals := 14 } : Room)) (fun a U => a = #[(.ref a1), (.ref a1)] ∧ Z.Warmed39 U.vm ∧ U.heap = h0) (fun _ _ _ _ _ => True) (fun _ U o U' => ∃ v L, o = .returned v ∧ Q8s Z a1 s1 s2 h0 n0 v U'.heap L ∧ FrameEnd U o U' L ({ frames := 1, cells := 0, slots := 0, locals := 14 } : Room).cells ({ frames := 1, cells := 0, slots := 0, locals := 14 } : Room).slots) := by
  refine MetFree.of_bodySF (plainFor_of_name own_pn4) hisR ?_
  intro p e s m args below meth c s₁ Bd hml0 hP hK
  obtain ⟨rfl, hZ, hh⟩ := hP
  have hx := Bd.exec
  have hby := Bd.bytes
  have hml : c.maxLocals = 3 := hml0
  have hlk : meth.locks = false := BodyLoose.notSynchronized Bd
  have hown : s.vm.findClass "com/example/marshal_lock/marshallock/internal/Hold" = some m.cls := findClass_of_methodNamed Bd.named
  have hnm := (name_of_methodNamed Bd.named Bd.method).1
  have X0 : Stand p l e ({ frames := 1, cells := 0, slots := 0, locals := 14 } : Room) s m #[(.ref a1), (.ref a1)] below meth c s₁ [] 0 0 := Stand.of_body Bd
  have e0 : s₁.heap = h0 := by rw [← hh, Bd.state]; rfl
  have N0 := Fr.nil n0
  show own_Go p e below s (Q8s Z a1 s1 s2 h0 n0) ({ frames := 1, cells := 0, slots := 0, locals := 14 } : Room).cells ({ frames := 1, cells := 0, slots := 0, locals := 14 } : Room).slots _
  refine own_st (B := s₁.setTop (mkF m 0 #[.val (.ref a1), .val (.ref a1), .unset] [])) (fun t k => castTop (ef_8s m (a1) (a1)) k) ?_
  refine own_st (B := s₁.setTop (mkF m 1 #[.val (.ref a1), .val (.ref a1), .unset] [(.ref a1)])) (fun t k => XS.aloadN X0.here hx rfl (hb hby d8_0) rfl rfl k) ?_
  obtain ⟨T1, X1, e1, st1⟩ := instY X0 hx hZ hown (w_48 hw) e0 (Ins.self F0) (g := (mkF m 1 #[.val (.ref a1), .val (.ref a1), .unset] [(.ref a1)])) rfl rfl (hb hby d8_1)
  refine own_st (B := T1.setTop (mkF m 4 #[.val (.ref a1), .val (.ref a1), .unset] [(.int (1 : Int32))])) (fun t k => st1 t k) ?_
  refine own_st (B := T1.setTop (mkF m 7 #[.val (.ref a1), .val (.ref a1), .unset] [])) (fun t k => XS.ifNo X1.here hx rfl (hb hby d8_4) rfl (by decide) k) ?_
  refine own_st (B := T1.setTop (mkF m 8 #[.val (.ref a1), .val (.ref a1), .unset] [(.ref a1)])) (fun t k => XS.aloadN X1.here hx rfl (hb hby d8_7) rfl rfl k) ?_
  obtain ⟨T2, X2, e2, st2⟩ := castY X1 hx hZ hown (w_48 hw) e1 (Ins.self F0) (g := (mkF m 8 #[.val (.ref a1), .val (.ref a1), .unset] [(.ref a1)])) rfl rfl (hb hby d8_8)
  refine own_st (B := T2.setTop (mkF m 11 #[.val (.ref a1), .val (.ref a1), .unset] [(.ref a1)])) (fun t k => st2 t k) ?_
  refine own_st (B := T2.setTop (mkF m 12 #[.val (.ref a1), .val (.ref a1), .val (.ref a1)] [])) (fun t k => XS.astoreN X2.here hx rfl (hb hby d8_11) rfl rfl (l' := #[.val (.ref a1), .val (.ref a1), .val (.ref a1)]) rfl k) ?_
  refine own_st (B := T2.setTop (mkF m 13 #[.val (.ref a1), .val (.ref a1), .val (.ref a1)] [(.ref a1)])) (fun t k => XS.aloadN X2.here hx rfl (hb hby d8_12) rfl rfl k) ?_
  obtain ⟨T3, X3, e3, st3⟩ := getF X2 hx hZ hown (host := "") (Or.inl (w_36 hw)) Via.refl e2 F1 (g := (mkF m 13 #[.val (.ref a1), .val (.ref a1), .val (.ref a1)] [(.ref a1)])) rfl rfl (hb hby d8_13)
  refine own_st (B := T3.setTop (mkF m 16 #[.val (.ref a1), .val (.ref a1), .val (.ref a1)] [(.ref s1)])) (fun t k => st3 t k) ?_
  refine own_st (B := T3.setTop (mkF m 17 #[.val (.ref a1), .val (.ref a1), .val (.ref a1)] [(.ref a1), (.ref s1)])) (fun t k => XS.aloadN X3.here hx rfl (hb hby d8_16) rfl rfl k) ?_
  obtain ⟨T4, X4, e4, st4⟩ := getF X3 hx hZ hown (host := "") (Or.inl (w_36 hw)) Via.refl e3 F1 (g := (mkF m 17 #[.val (.ref a1), .val (.ref a1), .val (.ref a1)] [(.ref a1), (.ref s1)])) rfl rfl (hb hby d8_17)
  refine own_st (B := T4.setTop (mkF m 20 #[.val (.ref a1), .val (.ref a1), .val (.ref a1)] [(.ref s1), (.ref s1)])) (fun t k => st4 t k) ?_
  obtain ⟨cq5, kq5, q5a, q5b, q5c⟩ := isOf hZ e4 F3
  obtain ⟨_, _, ⟨T5, L5, k5, j5⟩, -, X5, ⟨Lc5, hQ5, l5, y5_, z5_⟩, st5⟩ := X4.virtualBack hx (y := (⟨"java/lang/String", "equals", "(Ljava/lang/Object;)Z"⟩ : MethodName)) (z := (⟨"java/lang/String", "equals", "(Ljava/lang/Object;)Z"⟩ : MethodName)) hown (mvT hZ (w_50 hw)) (mvT hZ (w_51 hw)) (notFace_of_selects (args := #[]) (mvT hZ (w_53 hw))) (mvT hZ (w_53 hw)) (mvT hZ (w_52 hw)) (by decide) (backOf (W := 0) (rm9s l Z a0 hw [] s1 h0 n0 Z0 ) hZ (w_54 hw) (w_12 hw) (by decide) (by decide)) q5a q5c (g := (mkF m 20 #[.val (.ref a1), .val (.ref a1), .val (.ref a1)] [(.ref s1), (.ref s1)])) rfl (by rw [hml]; rfl) (Steps.refl _) (argsL := [(.ref s1)]) (rest := []) (lenOf own_pd12 rfl) rfl (by show 2 * 0 + _ ≤ _; exact Nat.le_of_eq rfl) (hb hby d8_20) (fun _ _ => ⟨rfl, e4, (by decide : 0 + 0 ≤ _), (by decide : 0 + 0 ≤ _)⟩)
  dsimp only [Pt.U, Pt.locs, Pt.cells, Pt.slots] at X5 l5 y5_ z5_ st5 hQ5
  subst l5 y5_ z5_
  obtain ⟨rfl, N5q, e5q⟩ := hQ5
  have N5 := Fr.app N0 N5q
  refine own_ss (B := T5.setTop (mkF m 23 #[.val (.ref a1), .val (.ref a1), .val (.ref a1)] [(.int (1 : Int32))])) st5 ?_
  refine own_st (B := T5.setTop (mkF m 26 #[.val (.ref a1), .val (.ref a1), .val (.ref a1)] [])) (fun t k => XS.ifNo X5.here hx rfl (hb hby d8_23) rfl (by decide) k) ?_
  refine own_st (B := T5.setTop (mkF m 27 #[.val (.ref a1), .val (.ref a1), .val (.ref a1)] [(.ref a1)])) (fun t k => XS.aloadN X5.here hx rfl (hb hby d8_26) rfl rfl k) ?_
  obtain ⟨T6, X6, e6, st6⟩ := getF X5 hx hZ hown (host := "") (Or.inl (w_38 hw)) Via.refl e5q F2 (g := (mkF m 27 #[.val (.ref a1), .val (.ref a1), .val (.ref a1)] [(.ref a1)])) rfl rfl (hb hby d8_27)
  refine own_st (B := T6.setTop (mkF m 30 #[.val (.ref a1), .val (.ref a1), .val (.ref a1)] [(.ref s2)])) (fun t k => st6 t k) ?_
  refine own_st (B := T6.setTop (mkF m 31 #[.val (.ref a1), .val (.ref a1), .val (.ref a1)] [(.ref a1), (.ref s2)])) (fun t k => XS.aloadN X6.here hx rfl (hb hby d8_30) rfl rfl k) ?_
  obtain ⟨T7, X7, e7, st7⟩ := getF X6 hx hZ hown (host := "") (Or.inl (w_38 hw)) Via.refl e6 F2 (g := (mkF m 31 #[.val (.ref a1), .val (.ref a1), .val (.ref a1)] [(.ref a1), (.ref s2)])) rfl rfl (hb hby d8_31)
  refine own_st (B := T7.setTop (mkF m 34 #[.val (.ref a1), .val (.ref a1), .val (.ref a1)] [(.ref s2), (.ref s2)])) (fun t k => st7 t k) ?_
  obtain ⟨cq8, kq8, q8a, q8b, q8c⟩ := isOf hZ e7 F4
  obtain ⟨_, _, ⟨T8, L8, k8, j8⟩, -, X8, ⟨Lc8, hQ8, l8, y8_, z8_⟩, st8⟩ := X7.virtualBack hx (y := (⟨"java/lang/String", "equals", "(Ljava/lang/Object;)Z"⟩ : MethodName)) (z := (⟨"java/lang/String", "equals", "(Ljava/lang/Object;)Z"⟩ : MethodName)) hown (mvT hZ (w_50 hw)) (mvT hZ (w_51 hw)) (notFace_of_selects (args := #[]) (mvT hZ (w_53 hw))) (mvT hZ (w_53 hw)) (mvT hZ (w_52 hw)) (by decide) (backOf (W := 0) (rm9s l Z a0 hw [] s2 h0 n0 Z0 ) hZ (w_54 hw) (w_12 hw) (by decide) (by decide)) q8a q8c (g := (mkF m 34 #[.val (.ref a1), .val (.ref a1), .val (.ref a1)] [(.ref s2), (.ref s2)])) rfl (by rw [hml]; rfl) (Steps.refl _) (argsL := [(.ref s2)]) (rest := []) (lenOf own_pd12 rfl) rfl (by show 2 * 0 + _ ≤ _; exact Nat.le_of_eq rfl) (hb hby d8_34) (fun _ _ => ⟨rfl, e7, (by decide : 0 + 0 ≤ _), (by decide : 0 + 0 ≤ _)⟩)
  dsimp only [Pt.U, Pt.locs, Pt.cells, Pt.slots] at X8 l8 y8_ z8_ st8 hQ8
  subst l8 y8_ z8_
  obtain ⟨rfl, N8q, e8q⟩ := hQ8
  have N8 := Fr.app N5 N8q
  refine own_ss (B := T8.setTop (mkF m 37 #[.val (.ref a1), .val (.ref a1), .val (.ref a1)] [(.int (1 : Int32))])) st8 ?_
  refine own_st (B := T8.setTop (mkF m 40 #[.val (.ref a1), .val (.ref a1), .val (.ref a1)] [])) (fun t k => XS.ifNo X8.here hx rfl (hb hby d8_37) rfl (by decide) k) ?_
  refine own_st (B := T8.setTop (mkF m 41 #[.val (.ref a1), .val (.ref a1), .val (.ref a1)] [(.int (1 : Int32))])) (fun t k => XS.iconst X8.here hx rfl (hb hby d8_40) k) ?_
  refine own_st (B := T8.setTop (mkF m 45 #[.val (.ref a1), .val (.ref a1), .val (.ref a1)] [(.int (1 : Int32))])) (fun t k => XS.goto X8.here hx rfl (pc0 := 41) (pc' := 45) rfl (hb hby d8_41) (by decide) (by decide) k) ?_
  refine own_retN X8 hx hlk (t := .boolean) Bd.returns (by simp) (z' := (1 : Int32)) rfl (hb hby d8_45) (by decide) (by decide) ?_
  show Q8s Z a1 s1 s2 h0 n0 _ T8.heap _
  rw [e8q]
  exact ⟨rfl, N8, rfl⟩
def own_heq (bs ds bt dt : List Int32) : Int32 := if own_leq bs bt = (0 : Int32) then 0 else if own_leq ds dt = (0 : Int32) then 0 else 1
theorem ef_8d (m : MethodId) (x0 : Addr) (x1 : Addr) : entryFrame m #[(.ref x0), (.ref x1)] 3 = mkF m 0 #[.val (.ref x0), .val (.ref x1), .unset] [] := by first | (simp [entryFrame, mkF, argsToLocals, Value.category]; done) | rfl
def Q8d (Z : State) (a1 : Addr) (a2 : Addr) (s1 : Addr) (s2 : Addr) (t1 : Addr) (t2 : Addr) (d1 : Addr) (d2 : Addr) (f1 : Addr) (f2 : Addr) (bs : List Int32) (ds : List Int32) (bt : List Int32) (dt : List Int32) (cs : Int32) (h0 : Heap) (n0 : Nat) (v : Option Value) (h : Heap) (L : List Loc) : Prop := v = some (.int (own_heq bs ds bt dt)) ∧ Fr n0 L ∧ h = h0
set_option maxHeartbeats 40000000 in
theorem rm8d (l : Launch) (Z : State) (a0 : Array Value) (hw : ∀ d ∈ tables_1, d.before a0 Z = true) (ws : List Jvm.Cond) (a1 : Addr) (a2 : Addr) (s1 : Addr) (s2 : Addr) (t1 : Addr) (t2 : Addr) (d1 : Addr) (d2 : Addr) (f1 : Addr) (f2 : Addr) (bs : List Int32) (ds : List Int32) (bt : List Int32) (dt : List Int32) (cs : Int32) (h0 : Heap) (n0 : Nat) (Z0 : n0 ≤ h0.size) (F0 : Exa Z h0 a1 "com/example/marshal_lock/marshallock/internal/Hold") (F1 : Exa Z h0 a2 "com/example/marshal_lock/marshallock/internal/Hold") (F2 : Fld Z h0 a1 "com/example/marshal_lock/marshallock/internal/Hold" "lockKey" "Ljava/lang/String;" (.ref s1)) (F3 : Fld Z h0 a1 "com/example/marshal_lock/marshallock/internal/Hold" "owner" "Ljava/lang/String;" (.ref s2)) (F4 : Fld Z h0 a2 "com/example/marshal_lock/marshallock/internal/Hold" "lockKey" "Ljava/lang/String;" (.ref t1)) (F5 : Fld Z h0 a2 "com/example/marshal_lock/marshallock/internal/Hold" "owner" "Ljava/lang/String;" (.ref t2)) (F6 : Exa Z h0 s1 "java/lang/String") (F7 : Exa Z h0 s2 "java/lang/String") (F8 : Exa Z h0 t1 "java/lang/String") (F9 : Exa Z h0 t2 "java/lang/String") (F10 : Fld Z h0 s1 "java/lang/String" "coder" "B" (.int (0 : Int32))) (F11 : Fld Z h0 s1 "java/lang/String" "value" "[B" (.ref d1)) (F12 : Fld Z h0 s2 "java/lang/String" "coder" "B" (.int (0 : Int32))) (F13 : Fld Z h0 s2 "java/lang/String" "value" "[B" (.ref d2)) (F14 : Fld Z h0 t1 "java/lang/String" "coder" "B" (.int (0 : Int32))) (F15 : Fld Z h0 t1 "java/lang/String" "value" "[B" (.ref f1)) (F16 : Fld Z h0 t2 "java/lang/String" "coder" "B" (.int (0 : Int32))) (F17 : Fld Z h0 t2 "java/lang/String" "value" "[B" (.ref f2)) (F18 : own_A Z h0 d1 .byte (bs.map Value.int)) (F19 : own_A Z h0 d2 .byte (ds.map Value.int)) (F20 : own_A Z h0 f1 .byte (bt.map Value.int)) (F21 : own_A Z h0 f2 .byte (dt.map Value.int)) (F22 : Sta Z h0 "java/lang/String" "COMPACT_STRINGS" "Z" (.int cs)) (n1 : s1 ≠ t1) (n2 : s2 ≠ t2) (hcs : ¬ (cs = (0 : Int32))) (hl0 : bs.length < 1000) (hl1 : ds.length < 1000) (hl2 : bt.length < 1000) (hl3 : dt.length < 1000) :
    MetFree l (⟨"com/example/marshal_lock/marshallock/internal/Hold", "equals", "(Ljava/lang/Object;)Z"⟩ : MethodName) (head1 (Jvm.Cond.code (⟨"com/example/marshal_lock/marshallock/internal/Hold", "equals", "(Ljava/lang/Object;)Z"⟩ : MethodName) prog_6_method_4_code 3 (some .boolean) :: ws) ({ frames := 2, cells := 0, slots := 0, locals := 28 } : Room)) (fun a U => a = #[(.ref a1), (.ref a2)] ∧ Z.Warmed39 U.vm ∧ U.heap = h0) (fun _ _ _ _ _ => True) (fun _ U o U' => ∃ v L, o = .returned v ∧ Q8d Z a1 a2 s1 s2 t1 t2 d1 d2 f1 f2 bs ds bt dt cs h0 n0 v U'.heap L ∧ FrameEnd U o U' L ({ frames := 2, cells := 0, slots := 0, locals := 28 } : Room).cells ({ frames := 2, cells := 0, slots := 0, locals := 28 } : Room).slots) := by
  refine MetFree.of_bodySF (plainFor_of_name own_pn4) hisR ?_
  intro p e s m args below meth c s₁ Bd hml0 hP hK
  obtain ⟨rfl, hZ, hh⟩ := hP
  have hx := Bd.exec
  have hby := Bd.bytes
  have hml : c.maxLocals = 3 := hml0
  have hlk : meth.locks = false := BodyLoose.notSynchronized Bd
  have hown : s.vm.findClass "com/example/marshal_lock/marshallock/internal/Hold" = some m.cls := findClass_of_methodNamed Bd.named
  have hnm := (name_of_methodNamed Bd.named Bd.method).1
  have X0 : Stand p l e ({ frames := 2, cells := 0, slots := 0, locals := 28 } : Room) s m #[(.ref a1), (.ref a2)] below meth c s₁ [] 0 0 := Stand.of_body Bd
  have e0 : s₁.heap = h0 := by rw [← hh, Bd.state]; rfl
  have N0 := Fr.nil n0
  show own_Go p e below s (Q8d Z a1 a2 s1 s2 t1 t2 d1 d2 f1 f2 bs ds bt dt cs h0 n0) ({ frames := 2, cells := 0, slots := 0, locals := 28 } : Room).cells ({ frames := 2, cells := 0, slots := 0, locals := 28 } : Room).slots _
  refine own_st (B := s₁.setTop (mkF m 0 #[.val (.ref a1), .val (.ref a2), .unset] [])) (fun t k => castTop (ef_8d m (a1) (a2)) k) ?_
  refine own_st (B := s₁.setTop (mkF m 1 #[.val (.ref a1), .val (.ref a2), .unset] [(.ref a2)])) (fun t k => XS.aloadN X0.here hx rfl (hb hby d8_0) rfl rfl k) ?_
  obtain ⟨T1, X1, e1, st1⟩ := instY X0 hx hZ hown (w_48 hw) e0 (Ins.self F1) (g := (mkF m 1 #[.val (.ref a1), .val (.ref a2), .unset] [(.ref a2)])) rfl rfl (hb hby d8_1)
  refine own_st (B := T1.setTop (mkF m 4 #[.val (.ref a1), .val (.ref a2), .unset] [(.int (1 : Int32))])) (fun t k => st1 t k) ?_
  refine own_st (B := T1.setTop (mkF m 7 #[.val (.ref a1), .val (.ref a2), .unset] [])) (fun t k => XS.ifNo X1.here hx rfl (hb hby d8_4) rfl (by decide) k) ?_
  refine own_st (B := T1.setTop (mkF m 8 #[.val (.ref a1), .val (.ref a2), .unset] [(.ref a2)])) (fun t k => XS.aloadN X1.here hx rfl (hb hby d8_7) rfl rfl k) ?_
  obtain ⟨T2, X2, e2, st2⟩ := castY X1 hx hZ hown (w_48 hw) e1 (Ins.self F1) (g := (mkF m 8 #[.val (.ref a1), .val (.ref a2), .unset] [(.ref a2)])) rfl rfl (hb hby d8_8)
  refine own_st (B := T2.setTop (mkF m 11 #[.val (.ref a1), .val (.ref a2), .unset] [(.ref a2)])) (fun t k => st2 t k) ?_
  refine own_st (B := T2.setTop (mkF m 12 #[.val (.ref a1), .val (.ref a2), .val (.ref a2)] [])) (fun t k => XS.astoreN X2.here hx rfl (hb hby d8_11) rfl rfl (l' := #[.val (.ref a1), .val (.ref a2), .val (.ref a2)]) rfl k) ?_
  refine own_st (B := T2.setTop (mkF m 13 #[.val (.ref a1), .val (.ref a2), .val (.ref a2)] [(.ref a1)])) (fun t k => XS.aloadN X2.here hx rfl (hb hby d8_12) rfl rfl k) ?_
  obtain ⟨T3, X3, e3, st3⟩ := getF X2 hx hZ hown (host := "") (Or.inl (w_36 hw)) Via.refl e2 F2 (g := (mkF m 13 #[.val (.ref a1), .val (.ref a2), .val (.ref a2)] [(.ref a1)])) rfl rfl (hb hby d8_13)
  refine own_st (B := T3.setTop (mkF m 16 #[.val (.ref a1), .val (.ref a2), .val (.ref a2)] [(.ref s1)])) (fun t k => st3 t k) ?_
  refine own_st (B := T3.setTop (mkF m 17 #[.val (.ref a1), .val (.ref a2), .val (.ref a2)] [(.ref a2), (.ref s1)])) (fun t k => XS.aloadN X3.here hx rfl (hb hby d8_16) rfl rfl k) ?_
  obtain ⟨T4, X4, e4, st4⟩ := getF X3 hx hZ hown (host := "") (Or.inl (w_36 hw)) Via.refl e3 F4 (g := (mkF m 17 #[.val (.ref a1), .val (.ref a2), .val (.ref a2)] [(.ref a2), (.ref s1)])) rfl rfl (hb hby d8_17)
  refine own_st (B := T4.setTop (mkF m 20 #[.val (.ref a1), .val (.ref a2), .val (.ref a2)] [(.ref t1), (.ref s1)])) (fun t k => st4 t k) ?_
  obtain ⟨cq5, kq5, q5a, q5b, q5c⟩ := isOf hZ e4 F6
  obtain ⟨_, _, ⟨T5, L5, k5, j5⟩, -, X5, ⟨Lc5, hQ5, l5, y5_, z5_⟩, st5⟩ := X4.virtualBack hx (y := (⟨"java/lang/String", "equals", "(Ljava/lang/Object;)Z"⟩ : MethodName)) (z := (⟨"java/lang/String", "equals", "(Ljava/lang/Object;)Z"⟩ : MethodName)) hown (mvT hZ (w_50 hw)) (mvT hZ (w_51 hw)) (notFace_of_selects (args := #[]) (mvT hZ (w_53 hw))) (mvT hZ (w_53 hw)) (mvT hZ (w_52 hw)) (by decide) (backOf (W := 0) (rm9d l Z a0 hw [] s1 t1 d1 f1 bs bt cs h0 n0 Z0 F6 F8 F10 F11 F14 F15 F18 F20 F22 n1 hcs hl0 hl2) hZ (w_54 hw) (w_12 hw) (by decide) (by decide)) q5a q5c (g := (mkF m 20 #[.val (.ref a1), .val (.ref a2), .val (.ref a2)] [(.ref t1), (.ref s1)])) rfl (by rw [hml]; rfl) (Steps.refl _) (argsL := [(.ref t1)]) (rest := []) (lenOf own_pd12 rfl) rfl (by show 2 * 0 + _ ≤ _; exact Nat.le_of_eq rfl) (hb hby d8_20) (fun _ _ => ⟨rfl, e4, (by decide : 0 + 0 ≤ _), (by decide : 0 + 0 ≤ _)⟩)
  dsimp only [Pt.U, Pt.locs, Pt.cells, Pt.slots] at X5 l5 y5_ z5_ st5 hQ5
  subst l5 y5_ z5_
  obtain ⟨rfl, N5q, e5q⟩ := hQ5
  have N5 := Fr.app N0 N5q
  refine own_ss (B := T5.setTop (mkF m 23 #[.val (.ref a1), .val (.ref a2), .val (.ref a2)] [(.int (own_leq bs bt))])) st5 ?_
  by_cases hc6 : (own_leq bs bt) = (0 : Int32)
  · refine own_st (B := T5.setTop (mkF m 44 #[.val (.ref a1), .val (.ref a2), .val (.ref a2)] [])) (fun t k => XS.ifYes X5.here hx rfl (pc0 := 23) (pc' := 44) rfl (hb hby d8_23) rfl (XT.i0_eq_t hc6) (by decide) (by decide) k) ?_
    refine own_st (B := T5.setTop (mkF m 45 #[.val (.ref a1), .val (.ref a2), .val (.ref a2)] [(.int (0 : Int32))])) (fun t k => XS.iconst X5.here hx rfl (hb hby d8_44) k) ?_
    refine own_retN X5 hx hlk (t := .boolean) Bd.returns (by simp) (z' := (0 : Int32)) rfl (hb hby d8_45) (by decide) (by decide) ?_
    show Q8d Z a1 a2 s1 s2 t1 t2 d1 d2 f1 f2 bs ds bt dt cs h0 n0 _ T5.heap _
    rw [e5q]
    exact ⟨(by unfold own_heq; rw [if_pos hc6]), N5, rfl⟩
  · refine own_st (B := T5.setTop (mkF m 26 #[.val (.ref a1), .val (.ref a2), .val (.ref a2)] [])) (fun t k => XS.ifNo X5.here hx rfl (hb hby d8_23) rfl (XT.i0_eq_f hc6) k) ?_
    refine own_st (B := T5.setTop (mkF m 27 #[.val (.ref a1), .val (.ref a2), .val (.ref a2)] [(.ref a1)])) (fun t k => XS.aloadN X5.here hx rfl (hb hby d8_26) rfl rfl k) ?_
    obtain ⟨T7, X7, e7, st7⟩ := getF X5 hx hZ hown (host := "") (Or.inl (w_38 hw)) Via.refl e5q F3 (g := (mkF m 27 #[.val (.ref a1), .val (.ref a2), .val (.ref a2)] [(.ref a1)])) rfl rfl (hb hby d8_27)
    refine own_st (B := T7.setTop (mkF m 30 #[.val (.ref a1), .val (.ref a2), .val (.ref a2)] [(.ref s2)])) (fun t k => st7 t k) ?_
    refine own_st (B := T7.setTop (mkF m 31 #[.val (.ref a1), .val (.ref a2), .val (.ref a2)] [(.ref a2), (.ref s2)])) (fun t k => XS.aloadN X7.here hx rfl (hb hby d8_30) rfl rfl k) ?_
    obtain ⟨T8, X8, e8, st8⟩ := getF X7 hx hZ hown (host := "") (Or.inl (w_38 hw)) Via.refl e7 F5 (g := (mkF m 31 #[.val (.ref a1), .val (.ref a2), .val (.ref a2)] [(.ref a2), (.ref s2)])) rfl rfl (hb hby d8_31)
    refine own_st (B := T8.setTop (mkF m 34 #[.val (.ref a1), .val (.ref a2), .val (.ref a2)] [(.ref t2), (.ref s2)])) (fun t k => st8 t k) ?_
    obtain ⟨cq9, kq9, q9a, q9b, q9c⟩ := isOf hZ e8 F7
    obtain ⟨_, _, ⟨T9, L9, k9, j9⟩, -, X9, ⟨Lc9, hQ9, l9, y9_, z9_⟩, st9⟩ := X8.virtualBack hx (y := (⟨"java/lang/String", "equals", "(Ljava/lang/Object;)Z"⟩ : MethodName)) (z := (⟨"java/lang/String", "equals", "(Ljava/lang/Object;)Z"⟩ : MethodName)) hown (mvT hZ (w_50 hw)) (mvT hZ (w_51 hw)) (notFace_of_selects (args := #[]) (mvT hZ (w_53 hw))) (mvT hZ (w_53 hw)) (mvT hZ (w_52 hw)) (by decide) (backOf (W := 0) (rm9d l Z a0 hw [] s2 t2 d2 f2 ds dt cs h0 n0 Z0 F7 F9 F12 F13 F16 F17 F19 F21 F22 n2 hcs hl1 hl3) hZ (w_54 hw) (w_12 hw) (by decide) (by decide)) q9a q9c (g := (mkF m 34 #[.val (.ref a1), .val (.ref a2), .val (.ref a2)] [(.ref t2), (.ref s2)])) rfl (by rw [hml]; rfl) (Steps.refl _) (argsL := [(.ref t2)]) (rest := []) (lenOf own_pd12 rfl) rfl (by show 2 * 0 + _ ≤ _; exact Nat.le_of_eq rfl) (hb hby d8_34) (fun _ _ => ⟨rfl, e8, (by decide : 0 + 0 ≤ _), (by decide : 0 + 0 ≤ _)⟩)
    dsimp only [Pt.U, Pt.locs, Pt.cells, Pt.slots] at X9 l9 y9_ z9_ st9 hQ9
    subst l9 y9_ z9_
    obtain ⟨rfl, N9q, e9q⟩ := hQ9
    have N9 := Fr.app N5 N9q
    refine own_ss (B := T9.setTop (mkF m 37 #[.val (.ref a1), .val (.ref a2), .val (.ref a2)] [(.int (own_leq ds dt))])) st9 ?_
    by_cases hc10 : (own_leq ds dt) = (0 : Int32)
    · refine own_st (B := T9.setTop (mkF m 44 #[.val (.ref a1), .val (.ref a2), .val (.ref a2)] [])) (fun t k => XS.ifYes X9.here hx rfl (pc0 := 37) (pc' := 44) rfl (hb hby d8_37) rfl (XT.i0_eq_t hc10) (by decide) (by decide) k) ?_
      refine own_st (B := T9.setTop (mkF m 45 #[.val (.ref a1), .val (.ref a2), .val (.ref a2)] [(.int (0 : Int32))])) (fun t k => XS.iconst X9.here hx rfl (hb hby d8_44) k) ?_
      refine own_retN X9 hx hlk (t := .boolean) Bd.returns (by simp) (z' := (0 : Int32)) rfl (hb hby d8_45) (by decide) (by decide) ?_
      show Q8d Z a1 a2 s1 s2 t1 t2 d1 d2 f1 f2 bs ds bt dt cs h0 n0 _ T9.heap _
      rw [e9q]
      exact ⟨(by unfold own_heq; rw [if_neg hc6, if_pos hc10]), N9, rfl⟩
    · refine own_st (B := T9.setTop (mkF m 40 #[.val (.ref a1), .val (.ref a2), .val (.ref a2)] [])) (fun t k => XS.ifNo X9.here hx rfl (hb hby d8_37) rfl (XT.i0_eq_f hc10) k) ?_
      refine own_st (B := T9.setTop (mkF m 41 #[.val (.ref a1), .val (.ref a2), .val (.ref a2)] [(.int (1 : Int32))])) (fun t k => XS.iconst X9.here hx rfl (hb hby d8_40) k) ?_
      refine own_st (B := T9.setTop (mkF m 45 #[.val (.ref a1), .val (.ref a2), .val (.ref a2)] [(.int (1 : Int32))])) (fun t k => XS.goto X9.here hx rfl (pc0 := 41) (pc' := 45) rfl (hb hby d8_41) (by decide) (by decide) k) ?_
      refine own_retN X9 hx hlk (t := .boolean) Bd.returns (by simp) (z' := (1 : Int32)) rfl (hb hby d8_45) (by decide) (by decide) ?_
      show Q8d Z a1 a2 s1 s2 t1 t2 d1 d2 f1 f2 bs ds bt dt cs h0 n0 _ T9.heap _
      rw [e9q]
      exact ⟨(by unfold own_heq; rw [if_neg hc6, if_neg hc10]), N9, rfl⟩
theorem own_bl (x : Int32) : (own_bs x).length < 1000 := by
  unfold own_bs
  split
  · decide
  · split
    · exact (show (1 : Nat) < 1000 from by decide)
    · exact (show (2 : Nat) < 1000 from by decide)
theorem own_sm (x y : Int32) : own_leq (own_bs x) (own_bs y) = own_same x y := by
  have hx := own_len3 x
  have hy := own_len3 y
  have z0 : (0 : Int32).toInt = 0 := rfl
  have z1 : (1 : Int32).toInt = 1 := rfl
  have z2 : (2 : Int32).toInt = 2 := rfl
  have q0 := own_bq0 x y
  have q1 := own_bq1 x y
  unfold own_leq own_bs own_same
  generalize own_len1 x = a at hx ⊢
  generalize own_len1 y = b at hy ⊢
  have ha : a = 0 ∨ a = 1 ∨ a = 2 := by
    rcases (by omega : a.toInt = 0 ∨ a.toInt = 1 ∨ a.toInt = 2) with h | h | h
    · exact Or.inl (Int32.toInt_inj.mp (h.trans z0.symm))
    · exact Or.inr (Or.inl (Int32.toInt_inj.mp (h.trans z1.symm)))
    · exact Or.inr (Or.inr (Int32.toInt_inj.mp (h.trans z2.symm)))
  have hb : b = 0 ∨ b = 1 ∨ b = 2 := by
    rcases (by omega : b.toInt = 0 ∨ b.toInt = 1 ∨ b.toInt = 2) with h | h | h
    · exact Or.inl (Int32.toInt_inj.mp (h.trans z0.symm))
    · exact Or.inr (Or.inl (Int32.toInt_inj.mp (h.trans z1.symm)))
    · exact Or.inr (Or.inr (Int32.toInt_inj.mp (h.trans z2.symm)))
  clear hx hy
  generalize own_b0 x = u0 at q0 ⊢
  generalize own_b0 y = w0 at q0 ⊢
  generalize own_b1 x = u1 at q1 ⊢
  generalize own_b1 y = w1 at q1 ⊢
  rcases ha with rfl | rfl | rfl <;> rcases hb with rfl | rfl | rfl <;> simp [q0, q1] <;> (try (repeat' split)) <;> simp_all
theorem own_leqc (bs ds : List Int32) : own_leq bs ds = own_leq ds bs := by
  unfold own_leq
  by_cases h : bs = ds
  · rw [if_pos h, if_pos h.symm]
  · rw [if_neg h, if_neg (fun q => h q.symm)]
theorem own_fin {a b x y v : Int32} (e : v = (if own_same a x = (0 : Int32) then (0 : Int32) else (if own_same b y = (0 : Int32) then (0 : Int32) else (1 : Int32)))) : own_heq (own_bs a) (own_bs b) (own_bs x) (own_bs y) = v ∧ own_heq (own_bs x) (own_bs y) (own_bs a) (own_bs b) = v := by
  unfold own_heq
  rw [own_leqc (own_bs x), own_leqc (own_bs y), own_sm, own_sm, e]
  exact ⟨rfl, rfl⟩
theorem own_pd13 : parseMethodDescriptor "(I)Ljava/lang/String;" = some ⟨[.int], some (.object "java/lang/String")⟩ := by decide +kernel
theorem own_pd14 : parseMethodDescriptor "(Ljava/lang/String;Ljava/lang/String;)V" = some ⟨[(.object "java/lang/String"), (.object "java/lang/String")], none⟩ := by decide +kernel
theorem own_pd15 : parseMethodDescriptor "(II)Z" = some ⟨[.int, .int], some .boolean⟩ := by decide +kernel
theorem ef_0 (m : MethodId) (x0 : Int32) (x1 : Int32) (x2 : Int32) (x3 : Int32) (x4 : Int32) : entryFrame m #[(.int x0), (.int x1), (.int x2), (.int x3), (.int x4)] maxLocals = mkF m 0 #[.val (.int x0), .val (.int x1), .val (.int x2), .val (.int x3), .val (.int x4), .unset, .unset, .unset, .unset, .unset, .unset] [] := by first | (simp [entryFrame, mkF, argsToLocals, Value.category, maxLocals]; done) | rfl
def Q0 (Z : State) (arg0 : Int32) (arg1 : Int32) (arg2 : Int32) (arg3 : Int32) (arg4 : Int32) (cs : Int32) (h0 : Heap) (n0 : Nat) (v : Option Value) (h : Heap) (L : List Loc) : Prop := v = some (.int 1) ∧ Fr n0 L
set_option maxHeartbeats 40000000 in
theorem rm0 (l : Launch) (Z : State) (a0 : Array Value) (hw : ∀ d ∈ tables_1, d.before a0 Z = true) (ws : List Jvm.Cond) (arg0 : Int32) (arg1 : Int32) (arg2 : Int32) (arg3 : Int32) (arg4 : Int32) (cs : Int32) (h0 : Heap) (n0 : Nat) (Z0 : n0 ≤ h0.size) (F0 : Sta Z h0 "java/lang/String" "COMPACT_STRINGS" "Z" (.int cs)) (hcs : ¬ (cs = (0 : Int32))) :
    MetFree l x (head1 (Jvm.Cond.code x code maxLocals ret :: ws) room_1) (fun a U => a = #[(.int arg0), (.int arg1), (.int arg2), (.int arg3), (.int arg4)] ∧ Z.Warmed39 U.vm ∧ U.heap = h0 ∧ CHv Z own_EL U.vm h0 ∧ ∀ x ∈ ([] : List Addr), Safe Z own_EL U.vm h0 x) (fun _ _ _ _ _ => True) (fun _ U o U' => ∃ v L, o = .returned v ∧ Q0 Z arg0 arg1 arg2 arg3 arg4 cs h0 n0 v U'.heap L ∧ CHr Z own_EL U.vm h0 U'.vm U'.heap ∧ ReturnedEndW U o U' L 40 1216) := by
  refine MetFree.of_bodySF (plainFor_of_name own_pn1) hisR ?_
  intro p e s m args below meth c s₁ Bd hml0 hP hK
  obtain ⟨rfl, hZ, hh, hCH, hSF⟩ := hP
  have hx := Bd.exec
  have hby := Bd.bytes
  have hml : c.maxLocals = 11 := hml0
  have hlk : meth.locks = false := BodyLoose.notSynchronized Bd
  have hown : s.vm.findClass "com/example/marshal_lock/marshallock/internal/HoldEqualsPinLaw" = some m.cls := findClass_of_methodNamed Bd.named
  have hnm := (name_of_methodNamed Bd.named Bd.method).1
  have X0 : Stand p l e room_1 (s.setVm s.vm) m #[(.int arg0), (.int arg1), (.int arg2), (.int arg3), (.int arg4)] below meth c s₁ [] 0 0 := Stand.of_body Bd
  have e0 : s₁.heap = h0 := by rw [← hh, Bd.state]; rfl
  have N0 := Fr.nil n0
  have hS0 : s.Since s.vm s.heap.size := (State.WarmedH.refl s).since _
  have hk0 : s.heap.size ≤ h0.size := Nat.le_of_eq (congrArg Array.size hh)
  have ch0 : CHr Z own_EL s.vm h0 s.vm h0 := CHr.refl hCH
  show own_GoW p e below s (Q0 Z arg0 arg1 arg2 arg3 arg4 cs h0 n0) (fun vm h => CHr Z own_EL s.vm h0 vm h) 40 1216 _
  refine own_stW (B := s₁.setTop (mkF m 0 #[.val (.int arg0), .val (.int arg1), .val (.int arg2), .val (.int arg3), .val (.int arg4), .unset, .unset, .unset, .unset, .unset, .unset] [])) (fun t k => castTop (ef_0 m (arg0) (arg1) (arg2) (arg3) (arg4)) k) ?_
  obtain ⟨T1, h1, X1, e1, E1, A1, D1, -, st1⟩ := newO X0 hx hZ hown (w_0 hw) (w_1 hw) (w_2 hw) e0 (g := (mkF m 0 #[.val (.int arg0), .val (.int arg1), .val (.int arg2), .val (.int arg3), .val (.int arg4), .unset, .unset, .unset, .unset, .unset, .unset] [])) rfl (hb hby at_0) (by decide) (by decide)
  obtain ⟨b1, g1⟩ : ∃ z, z = h0.size := ⟨_, rfl⟩
  rw [← g1] at A1 D1 st1
  have u1 : n0 ≤ b1 := Nat.le_trans Z0 (Nat.le_of_eq g1.symm)
  have ch2 := ch0.trans (CHr.ext E1 ch0.1)
  have hk2 := Nat.le_trans hk0 E1.1
  have z3 : n0 ≤ h1.size := Nat.le_trans Z0 E1.1
  have f4 : Fld Z h1 b1 "com/example/marshal_lock/marshallock/internal/Hold" "lockKey" "Ljava/lang/String;" .null := D1 (Or.inr (w_37 hw)) (ty := (.object "java/lang/String")) (by decide)
  have f5 : Fld Z h1 b1 "com/example/marshal_lock/marshallock/internal/Hold" "owner" "Ljava/lang/String;" .null := D1 (Or.inr (w_39 hw)) (ty := (.object "java/lang/String")) (by decide)
  refine own_stW (B := T1.setTop (mkF m 3 #[.val (.int arg0), .val (.int arg1), .val (.int arg2), .val (.int arg3), .val (.int arg4), .unset, .unset, .unset, .unset, .unset, .unset] [(.ref b1)])) (fun t k => st1 t k) ?_
  refine own_stW (B := T1.setTop (mkF m 4 #[.val (.int arg0), .val (.int arg1), .val (.int arg2), .val (.int arg3), .val (.int arg4), .unset, .unset, .unset, .unset, .unset, .unset] [(.ref b1), (.ref b1)])) (fun t k => XS.dup X1.here hx rfl (hb hby at_3) rfl rfl k) ?_
  refine own_stW (B := T1.setTop (mkF m 5 #[.val (.int arg0), .val (.int arg1), .val (.int arg2), .val (.int arg3), .val (.int arg4), .unset, .unset, .unset, .unset, .unset, .unset] [(.int arg0), (.ref b1), (.ref b1)])) (fun t k => XS.iloadN X1.here hx rfl (hb hby at_4) rfl k) ?_
  have f6 : Sta Z h1 "java/lang/String" "COMPACT_STRINGS" "Z" (.int cs) := (F0.ext E1)
  obtain ⟨_, _, ⟨T7, L7, k7, j7⟩, -, X7, hs7, hg7, ⟨Lc7, hQ7, l7, y7_, z7_, ch7_⟩, st7⟩ := callSS X1 hx (y := (⟨"com/example/marshal_lock/marshallock/internal/HoldEqualsPinLaw", "str", "(I)Ljava/lang/String;"⟩ : MethodName)) hown (mvT hZ (w_3 hw)) (mvT hZ (w_4 hw)) (mvT hZ (w_5 hw)) (mvT hZ (w_6 hw)) (by decide) (own_backSH (EL := own_EL) (W := 2) (rm1 l Z a0 hw [] arg0 cs h1 n0 z3 f6 hcs) hZ (w_6 hw) (w_5 hw) (by decide) (by decide) (own_ew hw) ch2.1 all0) (g := (mkF m 5 #[.val (.int arg0), .val (.int arg1), .val (.int arg2), .val (.int arg3), .val (.int arg4), .unset, .unset, .unset, .unset, .unset, .unset] [(.int arg0), (.ref b1), (.ref b1)])) rfl (by rw [hml]; rfl) (argsL := [(.int arg0)]) (rest := [(.ref b1), (.ref b1)]) (lenOf own_pd13 rfl) rfl (by show 2 * 0 + _ ≤ _; exact Nat.le_of_eq rfl) (hb hby at_5) (fun _ _ => ⟨rfl, e1, (by decide : 1 + 6 ≤ _), (by decide : 2 + 12 ≤ _)⟩)
  dsimp only [Pt.U, Pt.locs, Pt.cells, Pt.slots] at X7 hs7 hg7 ch7_ l7 y7_ z7_ st7 hQ7
  subst l7 y7_ z7_
  obtain ⟨X7, hS7, hZ, hown⟩ := rebS hS0 (show _ ≤ T1.heap.size by rw [e1]; exact hk2) X7 hs7 hg7 hZ hown
  obtain ⟨o_7, b_7, rfl, N7q, K7, u7_o, y7_o, p7_0, p7_1, p7_2, p7_3⟩ := hQ7
  have N7 := Fr.app N0 N7q
  have q7_o_b1 : b1 ≠ o_7 := Nat.ne_of_lt (Nat.lt_of_lt_of_le A1.lt y7_o)
  have ch8 := ch2.trans ch7_
  have z9 : n0 ≤ T7.heap.size := Nat.le_trans z3 K7.1
  have f11 : Exa Z T7.heap b1 "com/example/marshal_lock/marshallock/internal/Hold" := (A1.keep K7)
  have q10_ : b1 ≠ b_7 := own_neA f11 p7_3 (w_1 hw)
  have q12_ : o_7 ≠ b_7 := own_neA p7_0 p7_3 (w_11 hw)
  refine own_ssW (B := T7.setTop (mkF m 8 #[.val (.int arg0), .val (.int arg1), .val (.int arg2), .val (.int arg3), .val (.int arg4), .unset, .unset, .unset, .unset, .unset, .unset] [(.ref o_7), (.ref b1), (.ref b1)])) st7 ?_
  refine own_stW (B := T7.setTop (mkF m 9 #[.val (.int arg0), .val (.int arg1), .val (.int arg2), .val (.int arg3), .val (.int arg4), .unset, .unset, .unset, .unset, .unset, .unset] [(.int arg1), (.ref o_7), (.ref b1), (.ref b1)])) (fun t k => XS.iloadN X7.here hx rfl (hb hby at_8) rfl k) ?_
  have f13 : Sta Z T7.heap "java/lang/String" "COMPACT_STRINGS" "Z" (.int cs) := (own_Sta.keep f6 K7 (fun _ q => nomatch q))
  obtain ⟨_, _, ⟨T14, L14, k14, j14⟩, -, X14, hs14, hg14, ⟨Lc14, hQ14, l14, y14_, z14_, ch14_⟩, st14⟩ := callSS X7 hx (y := (⟨"com/example/marshal_lock/marshallock/internal/HoldEqualsPinLaw", "str", "(I)Ljava/lang/String;"⟩ : MethodName)) hown (mvT hZ (w_3 hw)) (mvT hZ (w_4 hw)) (mvT hZ (w_5 hw)) (mvT hZ (w_6 hw)) (by decide) (own_backSH (EL := own_EL) (W := 3) (rm1 l Z a0 hw [] arg1 cs T7.heap n0 z9 f13 hcs) hZ (w_6 hw) (w_5 hw) (by decide) (by decide) (own_ew hw) ch8.1 all0) (g := (mkF m 9 #[.val (.int arg0), .val (.int arg1), .val (.int arg2), .val (.int arg3), .val (.int arg4), .unset, .unset, .unset, .unset, .unset, .unset] [(.int arg1), (.ref o_7), (.ref b1), (.ref b1)])) rfl (by rw [hml]; rfl) (argsL := [(.int arg1)]) (rest := [(.ref o_7), (.ref b1), (.ref b1)]) (lenOf own_pd13 rfl) rfl (by show 2 * 0 + _ ≤ _; exact Nat.le_of_eq rfl) (hb hby at_9) (fun _ _ => ⟨rfl, rfl, (by decide : 7 + 6 ≤ _), (by decide : 14 + 12 ≤ _)⟩)
  dsimp only [Pt.U, Pt.locs, Pt.cells, Pt.slots] at X14 hs14 hg14 ch14_ l14 y14_ z14_ st14 hQ14
  subst l14 y14_ z14_
  obtain ⟨X14, hS14, hZ, hown⟩ := rebS hS7 (show _ ≤ T7.heap.size by exact (Nat.le_refl _)) X14 hs14 hg14 hZ hown
  obtain ⟨o_14, b_14, rfl, N14q, K14, u14_o, y14_o, p14_0, p14_1, p14_2, p14_3⟩ := hQ14
  have N14 := Fr.app N7 N14q
  have q14_o_b1 : b1 ≠ o_14 := Nat.ne_of_lt (Nat.lt_of_lt_of_le f11.lt y14_o)
  have q14_o_o_7 : o_7 ≠ o_14 := Nat.ne_of_lt (Nat.lt_of_lt_of_le p7_0.lt y14_o)
  have q14_o_b_7 : b_7 ≠ o_14 := Nat.ne_of_lt (Nat.lt_of_lt_of_le p7_3.lt y14_o)
  have ch15 := ch8.trans ch14_
  have z16 : n0 ≤ T14.heap.size := Nat.le_trans z9 K14.1
  have f18 : Exa Z T14.heap b1 "com/example/marshal_lock/marshallock/internal/Hold" := (f11.keep K14)
  have q17_ : b1 ≠ b_14 := own_neA f18 p14_3 (w_1 hw)
  have f20 : Exa Z T14.heap o_7 "java/lang/String" := (p7_0.keep K14)
  have q19_ : o_7 ≠ b_14 := own_neA f20 p14_3 (w_11 hw)
  have q21_ : o_14 ≠ b_14 := own_neA p14_0 p14_3 (w_11 hw)
  refine own_ssW (B := T14.setTop (mkF m 12 #[.val (.int arg0), .val (.int arg1), .val (.int arg2), .val (.int arg3), .val (.int arg4), .unset, .unset, .unset, .unset, .unset, .unset] [(.ref o_14), (.ref o_7), (.ref b1), (.ref b1)])) st14 ?_
  have f22 : Fld Z T14.heap b1 "com/example/marshal_lock/marshallock/internal/Hold" "lockKey" "Ljava/lang/String;" .null := ((f4.keep K7 nin0).keep K14 nin0)
  have f23 : Fld Z T14.heap b1 "com/example/marshal_lock/marshallock/internal/Hold" "owner" "Ljava/lang/String;" .null := ((f5.keep K7 nin0).keep K14 nin0)
  obtain ⟨_, _, ⟨T24, L24, k24, j24⟩, -, X24, ⟨Lc24, hQ24, l24, y24_, z24_⟩, st24⟩ := X14.specialBack hx (y := (⟨"com/example/marshal_lock/marshallock/internal/Hold", "<init>", "(Ljava/lang/String;Ljava/lang/String;)V"⟩ : MethodName)) rfl hown (mvT hZ (w_32 hw)) (mvT hZ (w_33 hw)) (mvT hZ (w_34 hw)) (by decide) (backOf (W := 1) (rm6 l Z a0 hw [] b1 o_7 o_14 T14.heap n0 z16 f18 f22 f23 u1) hZ (w_34 hw) (w_2 hw) (by decide) (by decide)) (g := (mkF m 12 #[.val (.int arg0), .val (.int arg1), .val (.int arg2), .val (.int arg3), .val (.int arg4), .unset, .unset, .unset, .unset, .unset, .unset] [(.ref o_14), (.ref o_7), (.ref b1), (.ref b1)])) rfl (by rw [hml]; rfl) (Steps.refl _) (a := b1) (argsL := [(.ref o_7), (.ref o_14)]) (rest := [(.ref b1)]) (lenOf own_pd14 rfl) rfl (by show 2 * 0 + _ ≤ _; exact Nat.le_of_eq rfl) (hb hby at_12) (fun _ _ => ⟨rfl, rfl, (by decide : 13 + 0 ≤ _), (by decide : 26 + 0 ≤ _)⟩)
  dsimp only [Pt.U, Pt.locs, Pt.cells, Pt.slots] at X24 l24 y24_ z24_ st24 hQ24
  subst l24 y24_ z24_
  obtain ⟨rfl, N24q, K24, p24_0, p24_1, p24_2⟩ := hQ24
  have N24 := Fr.app N14 N24q
  have ch25 := ch15.trans (CHr.keep K24 (allS (Safe.exa hZ.alike f18 (by decide) (by decide)) all0) ch15.1)
  have hk25 := Nat.le_trans (Nat.le_refl _) K24.1
  have z26 : n0 ≤ T24.heap.size := Nat.le_trans z16 K24.1
  refine own_ssW (B := T24.setTop (mkF m 15 #[.val (.int arg0), .val (.int arg1), .val (.int arg2), .val (.int arg3), .val (.int arg4), .unset, .unset, .unset, .unset, .unset, .unset] [(.ref b1)])) st24 ?_
  refine own_stW (B := T24.setTop (mkF m 17 #[.val (.int arg0), .val (.int arg1), .val (.int arg2), .val (.int arg3), .val (.int arg4), .val (.ref b1), .unset, .unset, .unset, .unset, .unset] [])) (fun t k => XS.astore X24.here hx rfl (hb hby at_15) rfl rfl (l' := #[.val (.int arg0), .val (.int arg1), .val (.int arg2), .val (.int arg3), .val (.int arg4), .val (.ref b1), .unset, .unset, .unset, .unset, .unset]) rfl k) ?_
  refine own_stW (B := T24.setTop (mkF m 19 #[.val (.int arg0), .val (.int arg1), .val (.int arg2), .val (.int arg3), .val (.int arg4), .val (.ref b1), .unset, .unset, .unset, .unset, .unset] [(.int arg4)])) (fun t k => XS.iload X24.here hx rfl (hb hby at_17) rfl k) ?_
  refine own_stW (B := T24.setTop (mkF m 20 #[.val (.int arg0), .val (.int arg1), .val (.int arg2), .val (.int arg3), .val (.int arg4), .val (.ref b1), .unset, .unset, .unset, .unset, .unset] [(.int (2 : Int32)), (.int arg4)])) (fun t k => XS.iconst X24.here hx rfl (hb hby at_19) k) ?_
  refine own_stW (B := T24.setTop (mkF m 21 #[.val (.int arg0), .val (.int arg1), .val (.int arg2), .val (.int arg3), .val (.int arg4), .val (.ref b1), .unset, .unset, .unset, .unset, .unset] [(.int ((arg4.toUInt32 >>> ((2 : Int32) &&& 31).toUInt32).toInt32))])) (fun t k => XS.iushr X24.here hx rfl (hb hby at_20) rfl k) ?_
  refine own_stW (B := T24.setTop (mkF m 22 #[.val (.int arg0), .val (.int arg1), .val (.int arg2), .val (.int arg3), .val (.int arg4), .val (.ref b1), .unset, .unset, .unset, .unset, .unset] [(.int (3 : Int32)), (.int ((arg4.toUInt32 >>> ((2 : Int32) &&& 31).toUInt32).toInt32))])) (fun t k => XS.iconst X24.here hx rfl (hb hby at_21) k) ?_
  refine own_stW (B := T24.setTop (mkF m 23 #[.val (.int arg0), .val (.int arg1), .val (.int arg2), .val (.int arg3), .val (.int arg4), .val (.ref b1), .unset, .unset, .unset, .unset, .unset] [(.int (((arg4.toUInt32 >>> ((2 : Int32) &&& 31).toUInt32).toInt32) &&& (3 : Int32)))])) (fun t k => XS.iand X24.here hx rfl (hb hby at_22) rfl k) ?_
  obtain ⟨v27, ev27⟩ : ∃ z : Int32, z = (((arg4.toUInt32 >>> ((2 : Int32) &&& 31).toUInt32).toInt32) &&& (3 : Int32)) := ⟨_, rfl⟩
  rw [← ev27]
  refine own_stW (B := T24.setTop (mkF m 25 #[.val (.int arg0), .val (.int arg1), .val (.int arg2), .val (.int arg3), .val (.int arg4), .val (.ref b1), .val (.int v27), .unset, .unset, .unset, .unset] [])) (fun t k => XS.istore X24.here hx rfl (hb hby at_23) rfl (l' := #[.val (.int arg0), .val (.int arg1), .val (.int arg2), .val (.int arg3), .val (.int arg4), .val (.ref b1), .val (.int v27), .unset, .unset, .unset, .unset]) rfl k) ?_
  refine own_stW (B := T24.setTop (mkF m 27 #[.val (.int arg0), .val (.int arg1), .val (.int arg2), .val (.int arg3), .val (.int arg4), .val (.ref b1), .val (.int v27), .unset, .unset, .unset, .unset] [(.int v27)])) (fun t k => XS.iload X24.here hx rfl (hb hby at_25) rfl k) ?_
  refine own_stW (B := T24.setTop (mkF m 28 #[.val (.int arg0), .val (.int arg1), .val (.int arg2), .val (.int arg3), .val (.int arg4), .val (.ref b1), .val (.int v27), .unset, .unset, .unset, .unset] [(.int (1 : Int32)), (.int v27)])) (fun t k => XS.iconst X24.here hx rfl (hb hby at_27) k) ?_
  by_cases hc28 : v27 = (1 : Int32)
  · refine own_stW (B := T24.setTop (mkF m 31 #[.val (.int arg0), .val (.int arg1), .val (.int arg2), .val (.int arg3), .val (.int arg4), .val (.ref b1), .val (.int v27), .unset, .unset, .unset, .unset] [])) (fun t k => XS.icmpNo X24.here hx rfl (hb hby at_28) rfl (XT.ii_ne_f hc28) k) ?_
    refine own_stW (B := T24.setTop (mkF m 33 #[.val (.int arg0), .val (.int arg1), .val (.int arg2), .val (.int arg3), .val (.int arg4), .val (.ref b1), .val (.int v27), .unset, .unset, .unset, .unset] [(.ref b1)])) (fun t k => XS.aload X24.here hx rfl (hb hby at_31) rfl rfl k) ?_
    refine own_stW (B := T24.setTop (mkF m 34 #[.val (.int arg0), .val (.int arg1), .val (.int arg2), .val (.int arg3), .val (.int arg4), .val (.ref b1), .val (.int v27), .unset, .unset, .unset, .unset] [.null, (.ref b1)])) (fun t k => XS.aconstNull X24.here hx rfl (hb hby at_33) k) ?_
    obtain ⟨cq29, kq29, q29a, q29b, q29c⟩ := isOf hZ rfl p24_0
    obtain ⟨_, _, ⟨T29, L29, k29, j29⟩, -, X29, ⟨Lc29, hQ29, l29, y29_, z29_⟩, st29⟩ := X24.virtualBack hx (y := (⟨"com/example/marshal_lock/marshallock/internal/Hold", "equals", "(Ljava/lang/Object;)Z"⟩ : MethodName)) (z := (⟨"com/example/marshal_lock/marshallock/internal/Hold", "equals", "(Ljava/lang/Object;)Z"⟩ : MethodName)) hown (mvT hZ (w_43 hw)) (mvT hZ (w_44 hw)) (notFace_of_selects (args := #[]) (mvT hZ (w_46 hw))) (mvT hZ (w_46 hw)) (mvT hZ (w_45 hw)) (by decide) (backOf (W := 0) (rm8n l Z a0 hw [] b1 T24.heap n0 z26 ) hZ (w_47 hw) (w_2 hw) (by decide) (by decide)) q29a q29c (g := (mkF m 34 #[.val (.int arg0), .val (.int arg1), .val (.int arg2), .val (.int arg3), .val (.int arg4), .val (.ref b1), .val (.int v27), .unset, .unset, .unset, .unset] [.null, (.ref b1)])) rfl (by rw [hml]; rfl) (Steps.refl _) (argsL := [.null]) (rest := []) (lenOf own_pd12 rfl) rfl (by show 2 * 0 + _ ≤ _; exact Nat.le_of_eq rfl) (hb hby at_34) (fun _ _ => ⟨rfl, rfl, (by decide : 13 + 0 ≤ _), (by decide : 26 + 0 ≤ _)⟩)
    dsimp only [Pt.U, Pt.locs, Pt.cells, Pt.slots] at X29 l29 y29_ z29_ st29 hQ29
    subst l29 y29_ z29_
    obtain ⟨rfl, N29q, e29q⟩ := hQ29
    have N29 := Fr.app N24 N29q
    refine own_ssW (B := T29.setTop (mkF m 37 #[.val (.int arg0), .val (.int arg1), .val (.int arg2), .val (.int arg3), .val (.int arg4), .val (.ref b1), .val (.int v27), .unset, .unset, .unset, .unset] [(.int (0 : Int32))])) st29 ?_
    refine own_stW (B := T29.setTop (mkF m 40 #[.val (.int arg0), .val (.int arg1), .val (.int arg2), .val (.int arg3), .val (.int arg4), .val (.ref b1), .val (.int v27), .unset, .unset, .unset, .unset] [])) (fun t k => XS.ifNo X29.here hx rfl (hb hby at_37) rfl (by decide) k) ?_
    refine own_stW (B := T29.setTop (mkF m 41 #[.val (.int arg0), .val (.int arg1), .val (.int arg2), .val (.int arg3), .val (.int arg4), .val (.ref b1), .val (.int v27), .unset, .unset, .unset, .unset] [(.int (1 : Int32))])) (fun t k => XS.iconst X29.here hx rfl (hb hby at_40) k) ?_
    refine own_stW (B := T29.setTop (mkF m 45 #[.val (.int arg0), .val (.int arg1), .val (.int arg2), .val (.int arg3), .val (.int arg4), .val (.ref b1), .val (.int v27), .unset, .unset, .unset, .unset] [(.int (1 : Int32))])) (fun t k => XS.goto X29.here hx rfl (pc0 := 41) (pc' := 45) rfl (hb hby at_41) (by decide) (by decide) k) ?_
    refine own_retNW X29 hS14 (show _ ≤ T29.heap.size by rw [e29q]; exact hk25) hx hlk (t := .boolean) Bd.returns (by simp) (z' := (1 : Int32)) rfl (hb hby at_45) (by decide) (by decide) (show CHr Z own_EL s.vm h0 T29.vm T29.heap by rw [e29q]; exact ch25.trans (CHv.at X29 hZ (own_ew hw) ch25.1)) ?_
    show Q0 Z arg0 arg1 arg2 arg3 arg4 cs h0 n0 _ T29.heap _
    rw [e29q]
    exact ⟨rfl, N29⟩
  · refine own_stW (B := T24.setTop (mkF m 46 #[.val (.int arg0), .val (.int arg1), .val (.int arg2), .val (.int arg3), .val (.int arg4), .val (.ref b1), .val (.int v27), .unset, .unset, .unset, .unset] [])) (fun t k => XS.icmpYes X24.here hx rfl (pc0 := 28) (pc' := 46) rfl (hb hby at_28) rfl (XT.ii_ne_t hc28) (by decide) (by decide) k) ?_
    refine own_stW (B := T24.setTop (mkF m 48 #[.val (.int arg0), .val (.int arg1), .val (.int arg2), .val (.int arg3), .val (.int arg4), .val (.ref b1), .val (.int v27), .unset, .unset, .unset, .unset] [(.int v27)])) (fun t k => XS.iload X24.here hx rfl (hb hby at_46) rfl k) ?_
    refine own_stW (B := T24.setTop (mkF m 49 #[.val (.int arg0), .val (.int arg1), .val (.int arg2), .val (.int arg3), .val (.int arg4), .val (.ref b1), .val (.int v27), .unset, .unset, .unset, .unset] [(.int (2 : Int32)), (.int v27)])) (fun t k => XS.iconst X24.here hx rfl (hb hby at_48) k) ?_
    by_cases hc30 : v27 = (2 : Int32)
    · refine own_stW (B := T24.setTop (mkF m 52 #[.val (.int arg0), .val (.int arg1), .val (.int arg2), .val (.int arg3), .val (.int arg4), .val (.ref b1), .val (.int v27), .unset, .unset, .unset, .unset] [])) (fun t k => XS.icmpNo X24.here hx rfl (hb hby at_49) rfl (XT.ii_ne_f hc30) k) ?_
      refine own_stW (B := T24.setTop (mkF m 54 #[.val (.int arg0), .val (.int arg1), .val (.int arg2), .val (.int arg3), .val (.int arg4), .val (.ref b1), .val (.int v27), .unset, .unset, .unset, .unset] [(.ref b1)])) (fun t k => XS.aload X24.here hx rfl (hb hby at_52) rfl rfl k) ?_
      refine own_stW (B := T24.setTop (mkF m 55 #[.val (.int arg0), .val (.int arg1), .val (.int arg2), .val (.int arg3), .val (.int arg4), .val (.ref b1), .val (.int v27), .unset, .unset, .unset, .unset] [(.int arg0), (.ref b1)])) (fun t k => XS.iloadN X24.here hx rfl (hb hby at_54) rfl k) ?_
      have f31 : Sta Z T24.heap "java/lang/String" "COMPACT_STRINGS" "Z" (.int cs) := (own_Sta.keep (own_Sta.keep f13 K14 (fun _ q => nomatch q)) K24 (show ∀ st ∈ [b1], ∀ cell : Cell, T14.heap[st]? = some cell → cell.vm.isStatics = false from (allS (own_plainE f18) all0)))
      obtain ⟨_, _, ⟨T32, L32, k32, j32⟩, -, X32, hs32, hg32, ⟨Lc32, hQ32, l32, y32_, z32_, ch32_⟩, st32⟩ := callSS X24 hx (y := (⟨"com/example/marshal_lock/marshallock/internal/HoldEqualsPinLaw", "str", "(I)Ljava/lang/String;"⟩ : MethodName)) hown (mvT hZ (w_3 hw)) (mvT hZ (w_4 hw)) (mvT hZ (w_5 hw)) (mvT hZ (w_6 hw)) (by decide) (own_backSH (EL := own_EL) (W := 1) (rm1 l Z a0 hw [] arg0 cs T24.heap n0 z26 f31 hcs) hZ (w_6 hw) (w_5 hw) (by decide) (by decide) (own_ew hw) ch25.1 all0) (g := (mkF m 55 #[.val (.int arg0), .val (.int arg1), .val (.int arg2), .val (.int arg3), .val (.int arg4), .val (.ref b1), .val (.int v27), .unset, .unset, .unset, .unset] [(.int arg0), (.ref b1)])) rfl (by rw [hml]; rfl) (argsL := [(.int arg0)]) (rest := [(.ref b1)]) (lenOf own_pd13 rfl) rfl (by show 2 * 0 + _ ≤ _; exact Nat.le_of_eq rfl) (hb hby at_55) (fun _ _ => ⟨rfl, rfl, (by decide : 13 + 6 ≤ _), (by decide : 26 + 12 ≤ _)⟩)
      dsimp only [Pt.U, Pt.locs, Pt.cells, Pt.slots] at X32 hs32 hg32 ch32_ l32 y32_ z32_ st32 hQ32
      subst l32 y32_ z32_
      obtain ⟨X32, hS32, hZ, hown⟩ := rebS hS14 (show _ ≤ T24.heap.size by exact hk25) X32 hs32 hg32 hZ hown
      obtain ⟨o_32, b_32, rfl, N32q, K32, u32_o, y32_o, p32_0, p32_1, p32_2, p32_3⟩ := hQ32
      have N32 := Fr.app N24 N32q
      have q32_o_b1 : b1 ≠ o_32 := Nat.ne_of_lt (Nat.lt_of_lt_of_le p24_0.lt y32_o)
      have f33 : Exa Z T24.heap o_7 "java/lang/String" := (f20.keep K24)
      have q32_o_o_7 : o_7 ≠ o_32 := Nat.ne_of_lt (Nat.lt_of_lt_of_le f33.lt y32_o)
      have f34 : own_A Z T24.heap b_7 .byte ((own_bs arg0).map Value.int) := ((p7_3.keep K14 nin0).keep K24 (ninS (Ne.symm q10_) nin0))
      have q32_o_b_7 : b_7 ≠ o_32 := Nat.ne_of_lt (Nat.lt_of_lt_of_le f34.lt y32_o)
      have f35 : Exa Z T24.heap o_14 "java/lang/String" := (p14_0.keep K24)
      have q32_o_o_14 : o_14 ≠ o_32 := Nat.ne_of_lt (Nat.lt_of_lt_of_le f35.lt y32_o)
      have f36 : own_A Z T24.heap b_14 .byte ((own_bs arg1).map Value.int) := (p14_3.keep K24 (ninS (Ne.symm q17_) nin0))
      have q32_o_b_14 : b_14 ≠ o_32 := Nat.ne_of_lt (Nat.lt_of_lt_of_le f36.lt y32_o)
      have ch37 := ch25.trans ch32_
      have z38 : n0 ≤ T32.heap.size := Nat.le_trans z26 K32.1
      have f40 : Exa Z T32.heap b1 "com/example/marshal_lock/marshallock/internal/Hold" := (p24_0.keep K32)
      have q39_ : b1 ≠ b_32 := own_neA f40 p32_3 (w_1 hw)
      have f42 : Exa Z T32.heap o_7 "java/lang/String" := (f33.keep K32)
      have q41_ : o_7 ≠ b_32 := own_neA f42 p32_3 (w_11 hw)
      have f44 : Exa Z T32.heap o_14 "java/lang/String" := (f35.keep K32)
      have q43_ : o_14 ≠ b_32 := own_neA f44 p32_3 (w_11 hw)
      have q45_ : o_32 ≠ b_32 := own_neA p32_0 p32_3 (w_11 hw)
      refine own_ssW (B := T32.setTop (mkF m 58 #[.val (.int arg0), .val (.int arg1), .val (.int arg2), .val (.int arg3), .val (.int arg4), .val (.ref b1), .val (.int v27), .unset, .unset, .unset, .unset] [(.ref o_32), (.ref b1)])) st32 ?_
      obtain ⟨cq46, kq46, q46a, q46b, q46c⟩ := isOf hZ rfl f40
      obtain ⟨_, _, ⟨T46, L46, k46, j46⟩, -, X46, ⟨Lc46, hQ46, l46, y46_, z46_⟩, st46⟩ := X32.virtualBack hx (y := (⟨"com/example/marshal_lock/marshallock/internal/Hold", "equals", "(Ljava/lang/Object;)Z"⟩ : MethodName)) (z := (⟨"com/example/marshal_lock/marshallock/internal/Hold", "equals", "(Ljava/lang/Object;)Z"⟩ : MethodName)) hown (mvT hZ (w_43 hw)) (mvT hZ (w_44 hw)) (notFace_of_selects (args := #[]) (mvT hZ (w_46 hw))) (mvT hZ (w_46 hw)) (mvT hZ (w_45 hw)) (by decide) (backOf (W := 0) (rm8t l Z a0 hw [] b1 o_32 T32.heap n0 z38 p32_0) hZ (w_47 hw) (w_2 hw) (by decide) (by decide)) q46a q46c (g := (mkF m 58 #[.val (.int arg0), .val (.int arg1), .val (.int arg2), .val (.int arg3), .val (.int arg4), .val (.ref b1), .val (.int v27), .unset, .unset, .unset, .unset] [(.ref o_32), (.ref b1)])) rfl (by rw [hml]; rfl) (Steps.refl _) (argsL := [(.ref o_32)]) (rest := []) (lenOf own_pd12 rfl) rfl (by show 2 * 0 + _ ≤ _; exact Nat.le_of_eq rfl) (hb hby at_58) (fun _ _ => ⟨rfl, rfl, (by decide : 19 + 0 ≤ _), (by decide : 38 + 0 ≤ _)⟩)
      dsimp only [Pt.U, Pt.locs, Pt.cells, Pt.slots] at X46 l46 y46_ z46_ st46 hQ46
      subst l46 y46_ z46_
      obtain ⟨rfl, N46q, e46q⟩ := hQ46
      have N46 := Fr.app N32 N46q
      refine own_ssW (B := T46.setTop (mkF m 61 #[.val (.int arg0), .val (.int arg1), .val (.int arg2), .val (.int arg3), .val (.int arg4), .val (.ref b1), .val (.int v27), .unset, .unset, .unset, .unset] [(.int (0 : Int32))])) st46 ?_
      refine own_stW (B := T46.setTop (mkF m 64 #[.val (.int arg0), .val (.int arg1), .val (.int arg2), .val (.int arg3), .val (.int arg4), .val (.ref b1), .val (.int v27), .unset, .unset, .unset, .unset] [])) (fun t k => XS.ifNo X46.here hx rfl (hb hby at_61) rfl (by decide) k) ?_
      refine own_stW (B := T46.setTop (mkF m 65 #[.val (.int arg0), .val (.int arg1), .val (.int arg2), .val (.int arg3), .val (.int arg4), .val (.ref b1), .val (.int v27), .unset, .unset, .unset, .unset] [(.int (1 : Int32))])) (fun t k => XS.iconst X46.here hx rfl (hb hby at_64) k) ?_
      refine own_stW (B := T46.setTop (mkF m 69 #[.val (.int arg0), .val (.int arg1), .val (.int arg2), .val (.int arg3), .val (.int arg4), .val (.ref b1), .val (.int v27), .unset, .unset, .unset, .unset] [(.int (1 : Int32))])) (fun t k => XS.goto X46.here hx rfl (pc0 := 65) (pc' := 69) rfl (hb hby at_65) (by decide) (by decide) k) ?_
      refine own_retNW X46 hS32 (show _ ≤ T46.heap.size by rw [e46q]; exact (Nat.le_refl _)) hx hlk (t := .boolean) Bd.returns (by simp) (z' := (1 : Int32)) rfl (hb hby at_69) (by decide) (by decide) (show CHr Z own_EL s.vm h0 T46.vm T46.heap by rw [e46q]; exact ch37.trans (CHv.at X46 hZ (own_ew hw) ch37.1)) ?_
      show Q0 Z arg0 arg1 arg2 arg3 arg4 cs h0 n0 _ T46.heap _
      rw [e46q]
      exact ⟨rfl, N46⟩
    · refine own_stW (B := T24.setTop (mkF m 70 #[.val (.int arg0), .val (.int arg1), .val (.int arg2), .val (.int arg3), .val (.int arg4), .val (.ref b1), .val (.int v27), .unset, .unset, .unset, .unset] [])) (fun t k => XS.icmpYes X24.here hx rfl (pc0 := 49) (pc' := 70) rfl (hb hby at_49) rfl (XT.ii_ne_t hc30) (by decide) (by decide) k) ?_
      refine own_stW (B := T24.setTop (mkF m 72 #[.val (.int arg0), .val (.int arg1), .val (.int arg2), .val (.int arg3), .val (.int arg4), .val (.ref b1), .val (.int v27), .unset, .unset, .unset, .unset] [(.int v27)])) (fun t k => XS.iload X24.here hx rfl (hb hby at_70) rfl k) ?_
      refine own_stW (B := T24.setTop (mkF m 73 #[.val (.int arg0), .val (.int arg1), .val (.int arg2), .val (.int arg3), .val (.int arg4), .val (.ref b1), .val (.int v27), .unset, .unset, .unset, .unset] [(.int (3 : Int32)), (.int v27)])) (fun t k => XS.iconst X24.here hx rfl (hb hby at_72) k) ?_
      by_cases hc47 : v27 = (3 : Int32)
      · refine own_stW (B := T24.setTop (mkF m 76 #[.val (.int arg0), .val (.int arg1), .val (.int arg2), .val (.int arg3), .val (.int arg4), .val (.ref b1), .val (.int v27), .unset, .unset, .unset, .unset] [])) (fun t k => XS.icmpNo X24.here hx rfl (hb hby at_73) rfl (XT.ii_ne_f hc47) k) ?_
        refine own_stW (B := T24.setTop (mkF m 78 #[.val (.int arg0), .val (.int arg1), .val (.int arg2), .val (.int arg3), .val (.int arg4), .val (.ref b1), .val (.int v27), .unset, .unset, .unset, .unset] [(.ref b1)])) (fun t k => XS.aload X24.here hx rfl (hb hby at_76) rfl rfl k) ?_
        refine own_stW (B := T24.setTop (mkF m 80 #[.val (.int arg0), .val (.int arg1), .val (.int arg2), .val (.int arg3), .val (.int arg4), .val (.ref b1), .val (.int v27), .unset, .unset, .unset, .unset] [(.ref b1), (.ref b1)])) (fun t k => XS.aload X24.here hx rfl (hb hby at_78) rfl rfl k) ?_
        have f48 : Exa Z T24.heap o_7 "java/lang/String" := (f20.keep K24)
        have f49 : Exa Z T24.heap o_14 "java/lang/String" := (p14_0.keep K24)
        obtain ⟨cq50, kq50, q50a, q50b, q50c⟩ := isOf hZ rfl p24_0
        obtain ⟨_, _, ⟨T50, L50, k50, j50⟩, -, X50, ⟨Lc50, hQ50, l50, y50_, z50_⟩, st50⟩ := X24.virtualBack hx (y := (⟨"com/example/marshal_lock/marshallock/internal/Hold", "equals", "(Ljava/lang/Object;)Z"⟩ : MethodName)) (z := (⟨"com/example/marshal_lock/marshallock/internal/Hold", "equals", "(Ljava/lang/Object;)Z"⟩ : MethodName)) hown (mvT hZ (w_43 hw)) (mvT hZ (w_44 hw)) (notFace_of_selects (args := #[]) (mvT hZ (w_46 hw))) (mvT hZ (w_46 hw)) (mvT hZ (w_45 hw)) (by decide) (backOf (W := 0) (rm8s l Z a0 hw [] b1 o_7 o_14 T24.heap n0 z26 p24_0 p24_1 p24_2 f48 f49) hZ (w_47 hw) (w_2 hw) (by decide) (by decide)) q50a q50c (g := (mkF m 80 #[.val (.int arg0), .val (.int arg1), .val (.int arg2), .val (.int arg3), .val (.int arg4), .val (.ref b1), .val (.int v27), .unset, .unset, .unset, .unset] [(.ref b1), (.ref b1)])) rfl (by rw [hml]; rfl) (Steps.refl _) (argsL := [(.ref b1)]) (rest := []) (lenOf own_pd12 rfl) rfl (by show 2 * 0 + _ ≤ _; exact Nat.le_of_eq rfl) (hb hby at_80) (fun _ _ => ⟨rfl, rfl, (by decide : 13 + 0 ≤ _), (by decide : 26 + 0 ≤ _)⟩)
        dsimp only [Pt.U, Pt.locs, Pt.cells, Pt.slots] at X50 l50 y50_ z50_ st50 hQ50
        subst l50 y50_ z50_
        obtain ⟨rfl, N50q, e50q⟩ := hQ50
        have N50 := Fr.app N24 N50q
        refine own_ssW (B := T50.setTop (mkF m 83 #[.val (.int arg0), .val (.int arg1), .val (.int arg2), .val (.int arg3), .val (.int arg4), .val (.ref b1), .val (.int v27), .unset, .unset, .unset, .unset] [(.int (1 : Int32))])) st50 ?_
        refine own_retNW X50 hS14 (show _ ≤ T50.heap.size by rw [e50q]; exact hk25) hx hlk (t := .boolean) Bd.returns (by simp) (z' := (1 : Int32)) rfl (hb hby at_83) (by decide) (by decide) (show CHr Z own_EL s.vm h0 T50.vm T50.heap by rw [e50q]; exact ch25.trans (CHv.at X50 hZ (own_ew hw) ch25.1)) ?_
        show Q0 Z arg0 arg1 arg2 arg3 arg4 cs h0 n0 _ T50.heap _
        rw [e50q]
        exact ⟨rfl, N50⟩
      · refine own_stW (B := T24.setTop (mkF m 84 #[.val (.int arg0), .val (.int arg1), .val (.int arg2), .val (.int arg3), .val (.int arg4), .val (.ref b1), .val (.int v27), .unset, .unset, .unset, .unset] [])) (fun t k => XS.icmpYes X24.here hx rfl (pc0 := 73) (pc' := 84) rfl (hb hby at_73) rfl (XT.ii_ne_t hc47) (by decide) (by decide) k) ?_
        refine own_stW (B := T24.setTop (mkF m 86 #[.val (.int arg0), .val (.int arg1), .val (.int arg2), .val (.int arg3), .val (.int arg4), .val (.ref b1), .val (.int v27), .unset, .unset, .unset, .unset] [(.int arg4)])) (fun t k => XS.iload X24.here hx rfl (hb hby at_84) rfl k) ?_
        refine own_stW (B := T24.setTop (mkF m 87 #[.val (.int arg0), .val (.int arg1), .val (.int arg2), .val (.int arg3), .val (.int arg4), .val (.ref b1), .val (.int v27), .unset, .unset, .unset, .unset] [(.int (1 : Int32)), (.int arg4)])) (fun t k => XS.iconst X24.here hx rfl (hb hby at_86) k) ?_
        refine own_stW (B := T24.setTop (mkF m 88 #[.val (.int arg0), .val (.int arg1), .val (.int arg2), .val (.int arg3), .val (.int arg4), .val (.ref b1), .val (.int v27), .unset, .unset, .unset, .unset] [(.int (arg4 &&& (1 : Int32)))])) (fun t k => XS.iand X24.here hx rfl (hb hby at_87) rfl k) ?_
        refine own_cut (P := ∀ (v52 : Int32), (v52 = (if (arg4 &&& (1 : Int32)) = (0 : Int32) then arg2 else arg0)) → own_GoW p e below s (Q0 Z arg0 arg1 arg2 arg3 arg4 cs h0 n0) (fun vm h => CHr Z own_EL s.vm h0 vm h) 40 1216 (T24.setTop (mkF m 96 #[.val (.int arg0), .val (.int arg1), .val (.int arg2), .val (.int arg3), .val (.int arg4), .val (.ref b1), .val (.int v27), .unset, .unset, .unset, .unset] [(.int v52)]))) (fun J53 => ?_) ?_
        · by_cases hc51 : (arg4 &&& (1 : Int32)) = (0 : Int32)
          · refine own_stW (B := T24.setTop (mkF m 95 #[.val (.int arg0), .val (.int arg1), .val (.int arg2), .val (.int arg3), .val (.int arg4), .val (.ref b1), .val (.int v27), .unset, .unset, .unset, .unset] [])) (fun t k => XS.ifYes X24.here hx rfl (pc0 := 88) (pc' := 95) rfl (hb hby at_88) rfl (XT.i0_eq_t hc51) (by decide) (by decide) k) ?_
            refine own_stW (B := T24.setTop (mkF m 96 #[.val (.int arg0), .val (.int arg1), .val (.int arg2), .val (.int arg3), .val (.int arg4), .val (.ref b1), .val (.int v27), .unset, .unset, .unset, .unset] [(.int arg2)])) (fun t k => XS.iloadN X24.here hx rfl (hb hby at_95) rfl k) ?_
            exact J53 arg2 (by rw [if_pos hc51])
          · refine own_stW (B := T24.setTop (mkF m 91 #[.val (.int arg0), .val (.int arg1), .val (.int arg2), .val (.int arg3), .val (.int arg4), .val (.ref b1), .val (.int v27), .unset, .unset, .unset, .unset] [])) (fun t k => XS.ifNo X24.here hx rfl (hb hby at_88) rfl (XT.i0_eq_f hc51) k) ?_
            refine own_stW (B := T24.setTop (mkF m 92 #[.val (.int arg0), .val (.int arg1), .val (.int arg2), .val (.int arg3), .val (.int arg4), .val (.ref b1), .val (.int v27), .unset, .unset, .unset, .unset] [(.int arg0)])) (fun t k => XS.iloadN X24.here hx rfl (hb hby at_91) rfl k) ?_
            refine own_stW (B := T24.setTop (mkF m 96 #[.val (.int arg0), .val (.int arg1), .val (.int arg2), .val (.int arg3), .val (.int arg4), .val (.ref b1), .val (.int v27), .unset, .unset, .unset, .unset] [(.int arg0)])) (fun t k => XS.goto X24.here hx rfl (pc0 := 92) (pc' := 96) rfl (hb hby at_92) (by decide) (by decide) k) ?_
            exact J53 arg0 (by rw [if_neg hc51])
        intro v52 hv52
        refine own_stW (B := T24.setTop (mkF m 98 #[.val (.int arg0), .val (.int arg1), .val (.int arg2), .val (.int arg3), .val (.int arg4), .val (.ref b1), .val (.int v27), .val (.int v52), .unset, .unset, .unset] [])) (fun t k => XS.istore X24.here hx rfl (hb hby at_96) rfl (l' := #[.val (.int arg0), .val (.int arg1), .val (.int arg2), .val (.int arg3), .val (.int arg4), .val (.ref b1), .val (.int v27), .val (.int v52), .unset, .unset, .unset]) rfl k) ?_
        refine own_stW (B := T24.setTop (mkF m 100 #[.val (.int arg0), .val (.int arg1), .val (.int arg2), .val (.int arg3), .val (.int arg4), .val (.ref b1), .val (.int v27), .val (.int v52), .unset, .unset, .unset] [(.int arg4)])) (fun t k => XS.iload X24.here hx rfl (hb hby at_98) rfl k) ?_
        refine own_stW (B := T24.setTop (mkF m 101 #[.val (.int arg0), .val (.int arg1), .val (.int arg2), .val (.int arg3), .val (.int arg4), .val (.ref b1), .val (.int v27), .val (.int v52), .unset, .unset, .unset] [(.int (2 : Int32)), (.int arg4)])) (fun t k => XS.iconst X24.here hx rfl (hb hby at_100) k) ?_
        refine own_stW (B := T24.setTop (mkF m 102 #[.val (.int arg0), .val (.int arg1), .val (.int arg2), .val (.int arg3), .val (.int arg4), .val (.ref b1), .val (.int v27), .val (.int v52), .unset, .unset, .unset] [(.int (arg4 &&& (2 : Int32)))])) (fun t k => XS.iand X24.here hx rfl (hb hby at_101) rfl k) ?_
        refine own_cut (P := ∀ (v55 : Int32), (v55 = (if (arg4 &&& (2 : Int32)) = (0 : Int32) then arg3 else arg1)) → own_GoW p e below s (Q0 Z arg0 arg1 arg2 arg3 arg4 cs h0 n0) (fun vm h => CHr Z own_EL s.vm h0 vm h) 40 1216 (T24.setTop (mkF m 110 #[.val (.int arg0), .val (.int arg1), .val (.int arg2), .val (.int arg3), .val (.int arg4), .val (.ref b1), .val (.int v27), .val (.int v52), .unset, .unset, .unset] [(.int v55)]))) (fun J56 => ?_) ?_
        · by_cases hc54 : (arg4 &&& (2 : Int32)) = (0 : Int32)
          · refine own_stW (B := T24.setTop (mkF m 109 #[.val (.int arg0), .val (.int arg1), .val (.int arg2), .val (.int arg3), .val (.int arg4), .val (.ref b1), .val (.int v27), .val (.int v52), .unset, .unset, .unset] [])) (fun t k => XS.ifYes X24.here hx rfl (pc0 := 102) (pc' := 109) rfl (hb hby at_102) rfl (XT.i0_eq_t hc54) (by decide) (by decide) k) ?_
            refine own_stW (B := T24.setTop (mkF m 110 #[.val (.int arg0), .val (.int arg1), .val (.int arg2), .val (.int arg3), .val (.int arg4), .val (.ref b1), .val (.int v27), .val (.int v52), .unset, .unset, .unset] [(.int arg3)])) (fun t k => XS.iloadN X24.here hx rfl (hb hby at_109) rfl k) ?_
            exact J56 arg3 (by rw [if_pos hc54])
          · refine own_stW (B := T24.setTop (mkF m 105 #[.val (.int arg0), .val (.int arg1), .val (.int arg2), .val (.int arg3), .val (.int arg4), .val (.ref b1), .val (.int v27), .val (.int v52), .unset, .unset, .unset] [])) (fun t k => XS.ifNo X24.here hx rfl (hb hby at_102) rfl (XT.i0_eq_f hc54) k) ?_
            refine own_stW (B := T24.setTop (mkF m 106 #[.val (.int arg0), .val (.int arg1), .val (.int arg2), .val (.int arg3), .val (.int arg4), .val (.ref b1), .val (.int v27), .val (.int v52), .unset, .unset, .unset] [(.int arg1)])) (fun t k => XS.iloadN X24.here hx rfl (hb hby at_105) rfl k) ?_
            refine own_stW (B := T24.setTop (mkF m 110 #[.val (.int arg0), .val (.int arg1), .val (.int arg2), .val (.int arg3), .val (.int arg4), .val (.ref b1), .val (.int v27), .val (.int v52), .unset, .unset, .unset] [(.int arg1)])) (fun t k => XS.goto X24.here hx rfl (pc0 := 106) (pc' := 110) rfl (hb hby at_106) (by decide) (by decide) k) ?_
            exact J56 arg1 (by rw [if_neg hc54])
        intro v55 hv55
        refine own_stW (B := T24.setTop (mkF m 112 #[.val (.int arg0), .val (.int arg1), .val (.int arg2), .val (.int arg3), .val (.int arg4), .val (.ref b1), .val (.int v27), .val (.int v52), .val (.int v55), .unset, .unset] [])) (fun t k => XS.istore X24.here hx rfl (hb hby at_110) rfl (l' := #[.val (.int arg0), .val (.int arg1), .val (.int arg2), .val (.int arg3), .val (.int arg4), .val (.ref b1), .val (.int v27), .val (.int v52), .val (.int v55), .unset, .unset]) rfl k) ?_
        obtain ⟨T57, h57, X57, e57, E57, A57, D57, -, st57⟩ := newO X24 hx hZ hown (w_0 hw) (w_1 hw) (w_2 hw) rfl (g := (mkF m 112 #[.val (.int arg0), .val (.int arg1), .val (.int arg2), .val (.int arg3), .val (.int arg4), .val (.ref b1), .val (.int v27), .val (.int v52), .val (.int v55), .unset, .unset] [])) rfl (hb hby at_112) (by decide) (by decide)
        obtain ⟨b57, g57⟩ : ∃ z, z = T24.heap.size := ⟨_, rfl⟩
        rw [← g57] at A57 D57 st57
        have q57_b1 : b1 ≠ b57 := Nat.ne_of_lt (Nat.lt_of_lt_of_le p24_0.lt (Nat.le_of_eq g57.symm))
        have f58 : Exa Z T24.heap o_7 "java/lang/String" := (f20.keep K24)
        have q57_o_7 : o_7 ≠ b57 := Nat.ne_of_lt (Nat.lt_of_lt_of_le f58.lt (Nat.le_of_eq g57.symm))
        have f59 : own_A Z T24.heap b_7 .byte ((own_bs arg0).map Value.int) := ((p7_3.keep K14 nin0).keep K24 (ninS (Ne.symm q10_) nin0))
        have q57_b_7 : b_7 ≠ b57 := Nat.ne_of_lt (Nat.lt_of_lt_of_le f59.lt (Nat.le_of_eq g57.symm))
        have f60 : Exa Z T24.heap o_14 "java/lang/String" := (p14_0.keep K24)
        have q57_o_14 : o_14 ≠ b57 := Nat.ne_of_lt (Nat.lt_of_lt_of_le f60.lt (Nat.le_of_eq g57.symm))
        have f61 : own_A Z T24.heap b_14 .byte ((own_bs arg1).map Value.int) := (p14_3.keep K24 (ninS (Ne.symm q17_) nin0))
        have q57_b_14 : b_14 ≠ b57 := Nat.ne_of_lt (Nat.lt_of_lt_of_le f61.lt (Nat.le_of_eq g57.symm))
        have u57 : n0 ≤ b57 := Nat.le_trans z26 (Nat.le_of_eq g57.symm)
        have ch62 := ch25.trans (CHr.ext E57 ch25.1)
        have hk62 := Nat.le_trans hk25 E57.1
        have z63 : n0 ≤ h57.size := Nat.le_trans z26 E57.1
        have f64 : Fld Z h57 b57 "com/example/marshal_lock/marshallock/internal/Hold" "lockKey" "Ljava/lang/String;" .null := D57 (Or.inr (w_37 hw)) (ty := (.object "java/lang/String")) (by decide)
        have f65 : Fld Z h57 b57 "com/example/marshal_lock/marshallock/internal/Hold" "owner" "Ljava/lang/String;" .null := D57 (Or.inr (w_39 hw)) (ty := (.object "java/lang/String")) (by decide)
        refine own_stW (B := T57.setTop (mkF m 115 #[.val (.int arg0), .val (.int arg1), .val (.int arg2), .val (.int arg3), .val (.int arg4), .val (.ref b1), .val (.int v27), .val (.int v52), .val (.int v55), .unset, .unset] [(.ref b57)])) (fun t k => st57 t k) ?_
        refine own_stW (B := T57.setTop (mkF m 116 #[.val (.int arg0), .val (.int arg1), .val (.int arg2), .val (.int arg3), .val (.int arg4), .val (.ref b1), .val (.int v27), .val (.int v52), .val (.int v55), .unset, .unset] [(.ref b57), (.ref b57)])) (fun t k => XS.dup X57.here hx rfl (hb hby at_115) rfl rfl k) ?_
        refine own_stW (B := T57.setTop (mkF m 118 #[.val (.int arg0), .val (.int arg1), .val (.int arg2), .val (.int arg3), .val (.int arg4), .val (.ref b1), .val (.int v27), .val (.int v52), .val (.int v55), .unset, .unset] [(.int v52), (.ref b57), (.ref b57)])) (fun t k => XS.iload X57.here hx rfl (hb hby at_116) rfl k) ?_
        have f66 : Sta Z h57 "java/lang/String" "COMPACT_STRINGS" "Z" (.int cs) := ((own_Sta.keep (own_Sta.keep f13 K14 (fun _ q => nomatch q)) K24 (show ∀ st ∈ [b1], ∀ cell : Cell, T14.heap[st]? = some cell → cell.vm.isStatics = false from (allS (own_plainE f18) all0))).ext E57)
        obtain ⟨_, _, ⟨T67, L67, k67, j67⟩, -, X67, hs67, hg67, ⟨Lc67, hQ67, l67, y67_, z67_, ch67_⟩, st67⟩ := callSS X57 hx (y := (⟨"com/example/marshal_lock/marshallock/internal/HoldEqualsPinLaw", "str", "(I)Ljava/lang/String;"⟩ : MethodName)) hown (mvT hZ (w_3 hw)) (mvT hZ (w_4 hw)) (mvT hZ (w_5 hw)) (mvT hZ (w_6 hw)) (by decide) (own_backSH (EL := own_EL) (W := 2) (rm1 l Z a0 hw [] v52 cs h57 n0 z63 f66 hcs) hZ (w_6 hw) (w_5 hw) (by decide) (by decide) (own_ew hw) ch62.1 all0) (g := (mkF m 118 #[.val (.int arg0), .val (.int arg1), .val (.int arg2), .val (.int arg3), .val (.int arg4), .val (.ref b1), .val (.int v27), .val (.int v52), .val (.int v55), .unset, .unset] [(.int v52), (.ref b57), (.ref b57)])) rfl (by rw [hml]; rfl) (argsL := [(.int v52)]) (rest := [(.ref b57), (.ref b57)]) (lenOf own_pd13 rfl) rfl (by show 2 * 0 + _ ≤ _; exact Nat.le_of_eq rfl) (hb hby at_118) (fun _ _ => ⟨rfl, e57, (by decide : 14 + 6 ≤ _), (by decide : 28 + 12 ≤ _)⟩)
        dsimp only [Pt.U, Pt.locs, Pt.cells, Pt.slots] at X67 hs67 hg67 ch67_ l67 y67_ z67_ st67 hQ67
        subst l67 y67_ z67_
        obtain ⟨X67, hS67, hZ, hown⟩ := rebS hS14 (show _ ≤ T57.heap.size by rw [e57]; exact hk62) X67 hs67 hg67 hZ hown
        obtain ⟨o_67, b_67, rfl, N67q, K67, u67_o, y67_o, p67_0, p67_1, p67_2, p67_3⟩ := hQ67
        have N67 := Fr.app N24 N67q
        have f68 : Exa Z h57 b1 "com/example/marshal_lock/marshallock/internal/Hold" := (p24_0.ext E57)
        have q67_o_b1 : b1 ≠ o_67 := Nat.ne_of_lt (Nat.lt_of_lt_of_le f68.lt y67_o)
        have f69 : Exa Z h57 o_7 "java/lang/String" := (f58.ext E57)
        have q67_o_o_7 : o_7 ≠ o_67 := Nat.ne_of_lt (Nat.lt_of_lt_of_le f69.lt y67_o)
        have f70 : own_A Z h57 b_7 .byte ((own_bs arg0).map Value.int) := (f59.ext E57)
        have q67_o_b_7 : b_7 ≠ o_67 := Nat.ne_of_lt (Nat.lt_of_lt_of_le f70.lt y67_o)
        have f71 : Exa Z h57 o_14 "java/lang/String" := (f60.ext E57)
        have q67_o_o_14 : o_14 ≠ o_67 := Nat.ne_of_lt (Nat.lt_of_lt_of_le f71.lt y67_o)
        have f72 : own_A Z h57 b_14 .byte ((own_bs arg1).map Value.int) := (f61.ext E57)
        have q67_o_b_14 : b_14 ≠ o_67 := Nat.ne_of_lt (Nat.lt_of_lt_of_le f72.lt y67_o)
        have q67_o_b57 : b57 ≠ o_67 := Nat.ne_of_lt (Nat.lt_of_lt_of_le A57.lt y67_o)
        have ch73 := ch62.trans ch67_
        have z74 : n0 ≤ T67.heap.size := Nat.le_trans z63 K67.1
        have f76 : Exa Z T67.heap b1 "com/example/marshal_lock/marshallock/internal/Hold" := (f68.keep K67)
        have q75_ : b1 ≠ b_67 := own_neA f76 p67_3 (w_1 hw)
        have f78 : Exa Z T67.heap o_7 "java/lang/String" := (f69.keep K67)
        have q77_ : o_7 ≠ b_67 := own_neA f78 p67_3 (w_11 hw)
        have f80 : Exa Z T67.heap o_14 "java/lang/String" := (f71.keep K67)
        have q79_ : o_14 ≠ b_67 := own_neA f80 p67_3 (w_11 hw)
        have f82 : Exa Z T67.heap b57 "com/example/marshal_lock/marshallock/internal/Hold" := (A57.keep K67)
        have q81_ : b57 ≠ b_67 := own_neA f82 p67_3 (w_1 hw)
        have q83_ : o_67 ≠ b_67 := own_neA p67_0 p67_3 (w_11 hw)
        refine own_ssW (B := T67.setTop (mkF m 121 #[.val (.int arg0), .val (.int arg1), .val (.int arg2), .val (.int arg3), .val (.int arg4), .val (.ref b1), .val (.int v27), .val (.int v52), .val (.int v55), .unset, .unset] [(.ref o_67), (.ref b57), (.ref b57)])) st67 ?_
        refine own_stW (B := T67.setTop (mkF m 123 #[.val (.int arg0), .val (.int arg1), .val (.int arg2), .val (.int arg3), .val (.int arg4), .val (.ref b1), .val (.int v27), .val (.int v52), .val (.int v55), .unset, .unset] [(.int v55), (.ref o_67), (.ref b57), (.ref b57)])) (fun t k => XS.iload X67.here hx rfl (hb hby at_121) rfl k) ?_
        have f84 : Sta Z T67.heap "java/lang/String" "COMPACT_STRINGS" "Z" (.int cs) := (own_Sta.keep f66 K67 (fun _ q => nomatch q))
        obtain ⟨_, _, ⟨T85, L85, k85, j85⟩, -, X85, hs85, hg85, ⟨Lc85, hQ85, l85, y85_, z85_, ch85_⟩, st85⟩ := callSS X67 hx (y := (⟨"com/example/marshal_lock/marshallock/internal/HoldEqualsPinLaw", "str", "(I)Ljava/lang/String;"⟩ : MethodName)) hown (mvT hZ (w_3 hw)) (mvT hZ (w_4 hw)) (mvT hZ (w_5 hw)) (mvT hZ (w_6 hw)) (by decide) (own_backSH (EL := own_EL) (W := 3) (rm1 l Z a0 hw [] v55 cs T67.heap n0 z74 f84 hcs) hZ (w_6 hw) (w_5 hw) (by decide) (by decide) (own_ew hw) ch73.1 all0) (g := (mkF m 123 #[.val (.int arg0), .val (.int arg1), .val (.int arg2), .val (.int arg3), .val (.int arg4), .val (.ref b1), .val (.int v27), .val (.int v52), .val (.int v55), .unset, .unset] [(.int v55), (.ref o_67), (.ref b57), (.ref b57)])) rfl (by rw [hml]; rfl) (argsL := [(.int v55)]) (rest := [(.ref o_67), (.ref b57), (.ref b57)]) (lenOf own_pd13 rfl) rfl (by show 2 * 0 + _ ≤ _; exact Nat.le_of_eq rfl) (hb hby at_123) (fun _ _ => ⟨rfl, rfl, (by decide : 20 + 6 ≤ _), (by decide : 40 + 12 ≤ _)⟩)
        dsimp only [Pt.U, Pt.locs, Pt.cells, Pt.slots] at X85 hs85 hg85 ch85_ l85 y85_ z85_ st85 hQ85
        subst l85 y85_ z85_
        obtain ⟨X85, hS85, hZ, hown⟩ := rebS hS67 (show _ ≤ T67.heap.size by exact (Nat.le_refl _)) X85 hs85 hg85 hZ hown
        obtain ⟨o_85, b_85, rfl, N85q, K85, u85_o, y85_o, p85_0, p85_1, p85_2, p85_3⟩ := hQ85
        have N85 := Fr.app N67 N85q
        have q85_o_b1 : b1 ≠ o_85 := Nat.ne_of_lt (Nat.lt_of_lt_of_le f76.lt y85_o)
        have q85_o_o_7 : o_7 ≠ o_85 := Nat.ne_of_lt (Nat.lt_of_lt_of_le f78.lt y85_o)
        have f86 : own_A Z T67.heap b_7 .byte ((own_bs arg0).map Value.int) := (f70.keep K67 nin0)
        have q85_o_b_7 : b_7 ≠ o_85 := Nat.ne_of_lt (Nat.lt_of_lt_of_le f86.lt y85_o)
        have q85_o_o_14 : o_14 ≠ o_85 := Nat.ne_of_lt (Nat.lt_of_lt_of_le f80.lt y85_o)
        have f87 : own_A Z T67.heap b_14 .byte ((own_bs arg1).map Value.int) := (f72.keep K67 nin0)
        have q85_o_b_14 : b_14 ≠ o_85 := Nat.ne_of_lt (Nat.lt_of_lt_of_le f87.lt y85_o)
        have q85_o_b57 : b57 ≠ o_85 := Nat.ne_of_lt (Nat.lt_of_lt_of_le f82.lt y85_o)
        have q85_o_o_67 : o_67 ≠ o_85 := Nat.ne_of_lt (Nat.lt_of_lt_of_le p67_0.lt y85_o)
        have q85_o_b_67 : b_67 ≠ o_85 := Nat.ne_of_lt (Nat.lt_of_lt_of_le p67_3.lt y85_o)
        have ch88 := ch73.trans ch85_
        have z89 : n0 ≤ T85.heap.size := Nat.le_trans z74 K85.1
        have f91 : Exa Z T85.heap b1 "com/example/marshal_lock/marshallock/internal/Hold" := (f76.keep K85)
        have q90_ : b1 ≠ b_85 := own_neA f91 p85_3 (w_1 hw)
        have f93 : Exa Z T85.heap o_7 "java/lang/String" := (f78.keep K85)
        have q92_ : o_7 ≠ b_85 := own_neA f93 p85_3 (w_11 hw)
        have f95 : Exa Z T85.heap o_14 "java/lang/String" := (f80.keep K85)
        have q94_ : o_14 ≠ b_85 := own_neA f95 p85_3 (w_11 hw)
        have f97 : Exa Z T85.heap b57 "com/example/marshal_lock/marshallock/internal/Hold" := (f82.keep K85)
        have q96_ : b57 ≠ b_85 := own_neA f97 p85_3 (w_1 hw)
        have f99 : Exa Z T85.heap o_67 "java/lang/String" := (p67_0.keep K85)
        have q98_ : o_67 ≠ b_85 := own_neA f99 p85_3 (w_11 hw)
        have q100_ : o_85 ≠ b_85 := own_neA p85_0 p85_3 (w_11 hw)
        refine own_ssW (B := T85.setTop (mkF m 126 #[.val (.int arg0), .val (.int arg1), .val (.int arg2), .val (.int arg3), .val (.int arg4), .val (.ref b1), .val (.int v27), .val (.int v52), .val (.int v55), .unset, .unset] [(.ref o_85), (.ref o_67), (.ref b57), (.ref b57)])) st85 ?_
        have f101 : Fld Z T85.heap b57 "com/example/marshal_lock/marshallock/internal/Hold" "lockKey" "Ljava/lang/String;" .null := ((f64.keep K67 nin0).keep K85 nin0)
        have f102 : Fld Z T85.heap b57 "com/example/marshal_lock/marshallock/internal/Hold" "owner" "Ljava/lang/String;" .null := ((f65.keep K67 nin0).keep K85 nin0)
        obtain ⟨_, _, ⟨T103, L103, k103, j103⟩, -, X103, ⟨Lc103, hQ103, l103, y103_, z103_⟩, st103⟩ := X85.specialBack hx (y := (⟨"com/example/marshal_lock/marshallock/internal/Hold", "<init>", "(Ljava/lang/String;Ljava/lang/String;)V"⟩ : MethodName)) rfl hown (mvT hZ (w_32 hw)) (mvT hZ (w_33 hw)) (mvT hZ (w_34 hw)) (by decide) (backOf (W := 1) (rm6 l Z a0 hw [] b57 o_67 o_85 T85.heap n0 z89 f97 f101 f102 u57) hZ (w_34 hw) (w_2 hw) (by decide) (by decide)) (g := (mkF m 126 #[.val (.int arg0), .val (.int arg1), .val (.int arg2), .val (.int arg3), .val (.int arg4), .val (.ref b1), .val (.int v27), .val (.int v52), .val (.int v55), .unset, .unset] [(.ref o_85), (.ref o_67), (.ref b57), (.ref b57)])) rfl (by rw [hml]; rfl) (Steps.refl _) (a := b57) (argsL := [(.ref o_67), (.ref o_85)]) (rest := [(.ref b57)]) (lenOf own_pd14 rfl) rfl (by show 2 * 0 + _ ≤ _; exact Nat.le_of_eq rfl) (hb hby at_126) (fun _ _ => ⟨rfl, rfl, (by decide : 26 + 0 ≤ _), (by decide : 52 + 0 ≤ _)⟩)
        dsimp only [Pt.U, Pt.locs, Pt.cells, Pt.slots] at X103 l103 y103_ z103_ st103 hQ103
        subst l103 y103_ z103_
        obtain ⟨rfl, N103q, K103, p103_0, p103_1, p103_2⟩ := hQ103
        have N103 := Fr.app N85 N103q
        have ch104 := ch88.trans (CHr.keep K103 (allS (Safe.exa hZ.alike f97 (by decide) (by decide)) all0) ch88.1)
        have hk104 := Nat.le_trans (Nat.le_refl _) K103.1
        have z105 : n0 ≤ T103.heap.size := Nat.le_trans z89 K103.1
        refine own_ssW (B := T103.setTop (mkF m 129 #[.val (.int arg0), .val (.int arg1), .val (.int arg2), .val (.int arg3), .val (.int arg4), .val (.ref b1), .val (.int v27), .val (.int v52), .val (.int v55), .unset, .unset] [(.ref b57)])) st103 ?_
        refine own_stW (B := T103.setTop (mkF m 131 #[.val (.int arg0), .val (.int arg1), .val (.int arg2), .val (.int arg3), .val (.int arg4), .val (.ref b1), .val (.int v27), .val (.int v52), .val (.int v55), .val (.ref b57), .unset] [])) (fun t k => XS.astore X103.here hx rfl (hb hby at_129) rfl rfl (l' := #[.val (.int arg0), .val (.int arg1), .val (.int arg2), .val (.int arg3), .val (.int arg4), .val (.ref b1), .val (.int v27), .val (.int v52), .val (.int v55), .val (.ref b57), .unset]) rfl k) ?_
        refine own_stW (B := T103.setTop (mkF m 132 #[.val (.int arg0), .val (.int arg1), .val (.int arg2), .val (.int arg3), .val (.int arg4), .val (.ref b1), .val (.int v27), .val (.int v52), .val (.int v55), .val (.ref b57), .unset] [(.int arg0)])) (fun t k => XS.iloadN X103.here hx rfl (hb hby at_131) rfl k) ?_
        refine own_stW (B := T103.setTop (mkF m 134 #[.val (.int arg0), .val (.int arg1), .val (.int arg2), .val (.int arg3), .val (.int arg4), .val (.ref b1), .val (.int v27), .val (.int v52), .val (.int v55), .val (.ref b57), .unset] [(.int v52), (.int arg0)])) (fun t k => XS.iload X103.here hx rfl (hb hby at_132) rfl k) ?_
        obtain ⟨_, _, ⟨T106, L106, k106, j106⟩, -, X106, ⟨Lc106, hQ106, l106, y106_, z106_⟩, st106⟩ := Jvm.LawKit.callS X103 hx (y := (⟨"com/example/marshal_lock/marshallock/internal/HoldEqualsPinLaw", "sameStr", "(II)Z"⟩ : MethodName)) hown (mvT hZ (w_40 hw)) (mvT hZ (w_41 hw)) (mvT hZ (w_5 hw)) (mvT hZ (w_42 hw)) (by decide) (backOf (W := 0) (rm7 l Z a0 hw [] arg0 v52 T103.heap n0 z105 ) hZ (w_42 hw) (w_5 hw) (by decide) (by decide)) (g := (mkF m 134 #[.val (.int arg0), .val (.int arg1), .val (.int arg2), .val (.int arg3), .val (.int arg4), .val (.ref b1), .val (.int v27), .val (.int v52), .val (.int v55), .val (.ref b57), .unset] [(.int v52), (.int arg0)])) rfl (by rw [hml]; rfl) (argsL := [(.int arg0), (.int v52)]) (rest := []) (lenOf own_pd15 rfl) rfl (by show 2 * 0 + _ ≤ _; exact Nat.le_of_eq rfl) (hb hby at_134) (fun _ _ => ⟨rfl, rfl, (by decide : 26 + 0 ≤ _), (by decide : 52 + 0 ≤ _)⟩)
        dsimp only [Pt.U, Pt.locs, Pt.cells, Pt.slots] at X106 l106 y106_ z106_ st106 hQ106
        subst l106 y106_ z106_
        obtain ⟨rfl, N106q, e106q⟩ := hQ106
        have N106 := Fr.app N103 N106q
        refine own_stW (B := T106.setTop (mkF m 137 #[.val (.int arg0), .val (.int arg1), .val (.int arg2), .val (.int arg3), .val (.int arg4), .val (.ref b1), .val (.int v27), .val (.int v52), .val (.int v55), .val (.ref b57), .unset] [(.int (own_same arg0 v52))])) (fun t k => st106 t k) ?_
        by_cases hc107 : (own_same arg0 v52) = (0 : Int32)
        · refine own_stW (B := T106.setTop (mkF m 153 #[.val (.int arg0), .val (.int arg1), .val (.int arg2), .val (.int arg3), .val (.int arg4), .val (.ref b1), .val (.int v27), .val (.int v52), .val (.int v55), .val (.ref b57), .unset] [])) (fun t k => XS.ifYes X106.here hx rfl (pc0 := 137) (pc' := 153) rfl (hb hby at_137) rfl (XT.i0_eq_t hc107) (by decide) (by decide) k) ?_
          refine own_stW (B := T106.setTop (mkF m 154 #[.val (.int arg0), .val (.int arg1), .val (.int arg2), .val (.int arg3), .val (.int arg4), .val (.ref b1), .val (.int v27), .val (.int v52), .val (.int v55), .val (.ref b57), .unset] [(.int (0 : Int32))])) (fun t k => XS.iconst X106.here hx rfl (hb hby at_153) k) ?_
          refine own_stW (B := T106.setTop (mkF m 156 #[.val (.int arg0), .val (.int arg1), .val (.int arg2), .val (.int arg3), .val (.int arg4), .val (.ref b1), .val (.int v27), .val (.int v52), .val (.int v55), .val (.ref b57), .val (.int (0 : Int32))] [])) (fun t k => XS.istore X106.here hx rfl (hb hby at_154) rfl (l' := #[.val (.int arg0), .val (.int arg1), .val (.int arg2), .val (.int arg3), .val (.int arg4), .val (.ref b1), .val (.int v27), .val (.int v52), .val (.int v55), .val (.ref b57), .val (.int (0 : Int32))]) rfl k) ?_
          refine own_stW (B := T106.setTop (mkF m 158 #[.val (.int arg0), .val (.int arg1), .val (.int arg2), .val (.int arg3), .val (.int arg4), .val (.ref b1), .val (.int v27), .val (.int v52), .val (.int v55), .val (.ref b57), .val (.int (0 : Int32))] [(.ref b1)])) (fun t k => XS.aload X106.here hx rfl (hb hby at_156) rfl rfl k) ?_
          refine own_stW (B := T106.setTop (mkF m 160 #[.val (.int arg0), .val (.int arg1), .val (.int arg2), .val (.int arg3), .val (.int arg4), .val (.ref b1), .val (.int v27), .val (.int v52), .val (.int v55), .val (.ref b57), .val (.int (0 : Int32))] [(.ref b57), (.ref b1)])) (fun t k => XS.aload X106.here hx rfl (hb hby at_158) rfl rfl k) ?_
          have f108 : Exa Z T103.heap b1 "com/example/marshal_lock/marshallock/internal/Hold" := (f91.keep K103)
          have f109 : Fld Z T103.heap b1 "com/example/marshal_lock/marshallock/internal/Hold" "lockKey" "Ljava/lang/String;" (.ref o_7) := ((((p24_1.ext E57).keep K67 nin0).keep K85 nin0).keep K103 (ninS q57_b1 nin0))
          have f110 : Fld Z T103.heap b1 "com/example/marshal_lock/marshallock/internal/Hold" "owner" "Ljava/lang/String;" (.ref o_14) := ((((p24_2.ext E57).keep K67 nin0).keep K85 nin0).keep K103 (ninS q57_b1 nin0))
          have f111 : Exa Z T103.heap o_7 "java/lang/String" := (f93.keep K103)
          have f112 : Exa Z T103.heap o_14 "java/lang/String" := (f95.keep K103)
          have f113 : Exa Z T103.heap o_67 "java/lang/String" := (f99.keep K103)
          have f114 : Exa Z T103.heap o_85 "java/lang/String" := (p85_0.keep K103)
          have f115 : Fld Z T103.heap o_7 "java/lang/String" "coder" "B" (.int (0 : Int32)) := ((((((p7_1.keep K14 nin0).keep K24 (ninS (Ne.symm q7_o_b1) nin0)).ext E57).keep K67 nin0).keep K85 nin0).keep K103 (ninS q57_o_7 nin0))
          have f116 : Fld Z T103.heap o_7 "java/lang/String" "value" "[B" (.ref b_7) := ((((((p7_2.keep K14 nin0).keep K24 (ninS (Ne.symm q7_o_b1) nin0)).ext E57).keep K67 nin0).keep K85 nin0).keep K103 (ninS q57_o_7 nin0))
          have f117 : Fld Z T103.heap o_14 "java/lang/String" "coder" "B" (.int (0 : Int32)) := (((((p14_1.keep K24 (ninS (Ne.symm q14_o_b1) nin0)).ext E57).keep K67 nin0).keep K85 nin0).keep K103 (ninS q57_o_14 nin0))
          have f118 : Fld Z T103.heap o_14 "java/lang/String" "value" "[B" (.ref b_14) := (((((p14_2.keep K24 (ninS (Ne.symm q14_o_b1) nin0)).ext E57).keep K67 nin0).keep K85 nin0).keep K103 (ninS q57_o_14 nin0))
          have f119 : Fld Z T103.heap o_67 "java/lang/String" "coder" "B" (.int (0 : Int32)) := ((p67_1.keep K85 nin0).keep K103 (ninS (Ne.symm q67_o_b57) nin0))
          have f120 : Fld Z T103.heap o_67 "java/lang/String" "value" "[B" (.ref b_67) := ((p67_2.keep K85 nin0).keep K103 (ninS (Ne.symm q67_o_b57) nin0))
          have f121 : Fld Z T103.heap o_85 "java/lang/String" "coder" "B" (.int (0 : Int32)) := (p85_1.keep K103 (ninS (Ne.symm q85_o_b57) nin0))
          have f122 : Fld Z T103.heap o_85 "java/lang/String" "value" "[B" (.ref b_85) := (p85_2.keep K103 (ninS (Ne.symm q85_o_b57) nin0))
          have f123 : own_A Z T103.heap b_7 .byte ((own_bs arg0).map Value.int) := ((f86.keep K85 nin0).keep K103 (ninS q57_b_7 nin0))
          have f124 : own_A Z T103.heap b_14 .byte ((own_bs arg1).map Value.int) := ((f87.keep K85 nin0).keep K103 (ninS q57_b_14 nin0))
          have f125 : own_A Z T103.heap b_67 .byte ((own_bs v52).map Value.int) := ((p67_3.keep K85 nin0).keep K103 (ninS (Ne.symm q81_) nin0))
          have f126 : own_A Z T103.heap b_85 .byte ((own_bs v55).map Value.int) := (p85_3.keep K103 (ninS (Ne.symm q96_) nin0))
          have f127 : Sta Z T103.heap "java/lang/String" "COMPACT_STRINGS" "Z" (.int cs) := (own_Sta.keep (own_Sta.keep f84 K85 (fun _ q => nomatch q)) K103 (show ∀ st ∈ [b57], ∀ cell : Cell, T85.heap[st]? = some cell → cell.vm.isStatics = false from (allS (own_plainE f97) all0)))
          obtain ⟨cq128, kq128, q128a, q128b, q128c⟩ := isOf hZ e106q f108
          obtain ⟨_, _, ⟨T128, L128, k128, j128⟩, -, X128, ⟨Lc128, hQ128, l128, y128_, z128_⟩, st128⟩ := X106.virtualBack hx (y := (⟨"com/example/marshal_lock/marshallock/internal/Hold", "equals", "(Ljava/lang/Object;)Z"⟩ : MethodName)) (z := (⟨"com/example/marshal_lock/marshallock/internal/Hold", "equals", "(Ljava/lang/Object;)Z"⟩ : MethodName)) hown (mvT hZ (w_43 hw)) (mvT hZ (w_44 hw)) (notFace_of_selects (args := #[]) (mvT hZ (w_46 hw))) (mvT hZ (w_46 hw)) (mvT hZ (w_45 hw)) (by decide) (backOf (W := 0) (rm8d l Z a0 hw [] b1 b57 o_7 o_14 o_67 o_85 b_7 b_14 b_67 b_85 (own_bs arg0) (own_bs arg1) (own_bs v52) (own_bs v55) cs T103.heap n0 z105 f108 p103_0 f109 f110 p103_1 p103_2 f111 f112 f113 f114 f115 f116 f117 f118 f119 f120 f121 f122 f123 f124 f125 f126 f127 q67_o_o_7 q85_o_o_14 hcs (own_bl _) (own_bl _) (own_bl _) (own_bl _)) hZ (w_47 hw) (w_2 hw) (by decide) (by decide)) q128a q128c (g := (mkF m 160 #[.val (.int arg0), .val (.int arg1), .val (.int arg2), .val (.int arg3), .val (.int arg4), .val (.ref b1), .val (.int v27), .val (.int v52), .val (.int v55), .val (.ref b57), .val (.int (0 : Int32))] [(.ref b57), (.ref b1)])) rfl (by rw [hml]; rfl) (Steps.refl _) (argsL := [(.ref b57)]) (rest := []) (lenOf own_pd12 rfl) rfl (by show 2 * 0 + _ ≤ _; exact Nat.le_of_eq rfl) (hb hby at_160) (fun _ _ => ⟨rfl, e106q, (by decide : 26 + 0 ≤ _), (by decide : 52 + 0 ≤ _)⟩)
          dsimp only [Pt.U, Pt.locs, Pt.cells, Pt.slots] at X128 l128 y128_ z128_ st128 hQ128
          subst l128 y128_ z128_
          obtain ⟨rfl, N128q, e128q⟩ := hQ128
          have N128 := Fr.app N106 N128q
          refine own_ssW (B := T128.setTop (mkF m 163 #[.val (.int arg0), .val (.int arg1), .val (.int arg2), .val (.int arg3), .val (.int arg4), .val (.ref b1), .val (.int v27), .val (.int v52), .val (.int v55), .val (.ref b57), .val (.int (0 : Int32))] [(.int (own_heq (own_bs arg0) (own_bs arg1) (own_bs v52) (own_bs v55)))])) st128 ?_
          refine own_stW (B := T128.setTop (mkF m 165 #[.val (.int arg0), .val (.int arg1), .val (.int arg2), .val (.int arg3), .val (.int arg4), .val (.ref b1), .val (.int v27), .val (.int v52), .val (.int v55), .val (.ref b57), .val (.int (0 : Int32))] [(.int (0 : Int32)), (.int (own_heq (own_bs arg0) (own_bs arg1) (own_bs v52) (own_bs v55)))])) (fun t k => XS.iload X128.here hx rfl (hb hby at_163) rfl k) ?_
          have hc129 : (own_heq (own_bs arg0) (own_bs arg1) (own_bs v52) (own_bs v55)) = (0 : Int32) := by
            exact (own_fin (v := (0 : Int32)) (a := arg0) (x := v52) (b := arg1) (y := v55) (by rw [if_pos hc107])).1
          refine own_stW (B := T128.setTop (mkF m 168 #[.val (.int arg0), .val (.int arg1), .val (.int arg2), .val (.int arg3), .val (.int arg4), .val (.ref b1), .val (.int v27), .val (.int v52), .val (.int v55), .val (.ref b57), .val (.int (0 : Int32))] [])) (fun t k => XS.icmpNo X128.here hx rfl (hb hby at_165) rfl (XT.ii_ne_f hc129) k) ?_
          refine own_stW (B := T128.setTop (mkF m 170 #[.val (.int arg0), .val (.int arg1), .val (.int arg2), .val (.int arg3), .val (.int arg4), .val (.ref b1), .val (.int v27), .val (.int v52), .val (.int v55), .val (.ref b57), .val (.int (0 : Int32))] [(.ref b57)])) (fun t k => XS.aload X128.here hx rfl (hb hby at_168) rfl rfl k) ?_
          refine own_stW (B := T128.setTop (mkF m 172 #[.val (.int arg0), .val (.int arg1), .val (.int arg2), .val (.int arg3), .val (.int arg4), .val (.ref b1), .val (.int v27), .val (.int v52), .val (.int v55), .val (.ref b57), .val (.int (0 : Int32))] [(.ref b1), (.ref b57)])) (fun t k => XS.aload X128.here hx rfl (hb hby at_170) rfl rfl k) ?_
          obtain ⟨cq130, kq130, q130a, q130b, q130c⟩ := isOf hZ e128q p103_0
          obtain ⟨_, _, ⟨T130, L130, k130, j130⟩, -, X130, ⟨Lc130, hQ130, l130, y130_, z130_⟩, st130⟩ := X128.virtualBack hx (y := (⟨"com/example/marshal_lock/marshallock/internal/Hold", "equals", "(Ljava/lang/Object;)Z"⟩ : MethodName)) (z := (⟨"com/example/marshal_lock/marshallock/internal/Hold", "equals", "(Ljava/lang/Object;)Z"⟩ : MethodName)) hown (mvT hZ (w_43 hw)) (mvT hZ (w_44 hw)) (notFace_of_selects (args := #[]) (mvT hZ (w_46 hw))) (mvT hZ (w_46 hw)) (mvT hZ (w_45 hw)) (by decide) (backOf (W := 0) (rm8d l Z a0 hw [] b57 b1 o_67 o_85 o_7 o_14 b_67 b_85 b_7 b_14 (own_bs v52) (own_bs v55) (own_bs arg0) (own_bs arg1) cs T103.heap n0 z105 p103_0 f108 p103_1 p103_2 f109 f110 f113 f114 f111 f112 f119 f120 f121 f122 f115 f116 f117 f118 f125 f126 f123 f124 f127 (Ne.symm q67_o_o_7) (Ne.symm q85_o_o_14) hcs (own_bl _) (own_bl _) (own_bl _) (own_bl _)) hZ (w_47 hw) (w_2 hw) (by decide) (by decide)) q130a q130c (g := (mkF m 172 #[.val (.int arg0), .val (.int arg1), .val (.int arg2), .val (.int arg3), .val (.int arg4), .val (.ref b1), .val (.int v27), .val (.int v52), .val (.int v55), .val (.ref b57), .val (.int (0 : Int32))] [(.ref b1), (.ref b57)])) rfl (by rw [hml]; rfl) (Steps.refl _) (argsL := [(.ref b1)]) (rest := []) (lenOf own_pd12 rfl) rfl (by show 2 * 0 + _ ≤ _; exact Nat.le_of_eq rfl) (hb hby at_172) (fun _ _ => ⟨rfl, e128q, (by decide : 26 + 0 ≤ _), (by decide : 52 + 0 ≤ _)⟩)
          dsimp only [Pt.U, Pt.locs, Pt.cells, Pt.slots] at X130 l130 y130_ z130_ st130 hQ130
          subst l130 y130_ z130_
          obtain ⟨rfl, N130q, e130q⟩ := hQ130
          have N130 := Fr.app N128 N130q
          refine own_ssW (B := T130.setTop (mkF m 175 #[.val (.int arg0), .val (.int arg1), .val (.int arg2), .val (.int arg3), .val (.int arg4), .val (.ref b1), .val (.int v27), .val (.int v52), .val (.int v55), .val (.ref b57), .val (.int (0 : Int32))] [(.int (own_heq (own_bs v52) (own_bs v55) (own_bs arg0) (own_bs arg1)))])) st130 ?_
          refine own_stW (B := T130.setTop (mkF m 177 #[.val (.int arg0), .val (.int arg1), .val (.int arg2), .val (.int arg3), .val (.int arg4), .val (.ref b1), .val (.int v27), .val (.int v52), .val (.int v55), .val (.ref b57), .val (.int (0 : Int32))] [(.int (0 : Int32)), (.int (own_heq (own_bs v52) (own_bs v55) (own_bs arg0) (own_bs arg1)))])) (fun t k => XS.iload X130.here hx rfl (hb hby at_175) rfl k) ?_
          have hc131 : (own_heq (own_bs v52) (own_bs v55) (own_bs arg0) (own_bs arg1)) = (0 : Int32) := by
            exact (own_fin (v := (0 : Int32)) (a := arg0) (x := v52) (b := arg1) (y := v55) (by rw [if_pos hc107])).2
          refine own_stW (B := T130.setTop (mkF m 180 #[.val (.int arg0), .val (.int arg1), .val (.int arg2), .val (.int arg3), .val (.int arg4), .val (.ref b1), .val (.int v27), .val (.int v52), .val (.int v55), .val (.ref b57), .val (.int (0 : Int32))] [])) (fun t k => XS.icmpNo X130.here hx rfl (hb hby at_177) rfl (XT.ii_ne_f hc131) k) ?_
          refine own_stW (B := T130.setTop (mkF m 181 #[.val (.int arg0), .val (.int arg1), .val (.int arg2), .val (.int arg3), .val (.int arg4), .val (.ref b1), .val (.int v27), .val (.int v52), .val (.int v55), .val (.ref b57), .val (.int (0 : Int32))] [(.int (1 : Int32))])) (fun t k => XS.iconst X130.here hx rfl (hb hby at_180) k) ?_
          refine own_stW (B := T130.setTop (mkF m 185 #[.val (.int arg0), .val (.int arg1), .val (.int arg2), .val (.int arg3), .val (.int arg4), .val (.ref b1), .val (.int v27), .val (.int v52), .val (.int v55), .val (.ref b57), .val (.int (0 : Int32))] [(.int (1 : Int32))])) (fun t k => XS.goto X130.here hx rfl (pc0 := 181) (pc' := 185) rfl (hb hby at_181) (by decide) (by decide) k) ?_
          refine own_retNW X130 hS85 (show _ ≤ T130.heap.size by rw [e130q]; exact hk104) hx hlk (t := .boolean) Bd.returns (by simp) (z' := (1 : Int32)) rfl (hb hby at_185) (by decide) (by decide) (show CHr Z own_EL s.vm h0 T130.vm T130.heap by rw [e130q]; exact ch104.trans (CHv.at X130 hZ (own_ew hw) ch104.1)) ?_
          show Q0 Z arg0 arg1 arg2 arg3 arg4 cs h0 n0 _ T130.heap _
          rw [e130q]
          exact ⟨rfl, N130⟩
        · refine own_stW (B := T106.setTop (mkF m 140 #[.val (.int arg0), .val (.int arg1), .val (.int arg2), .val (.int arg3), .val (.int arg4), .val (.ref b1), .val (.int v27), .val (.int v52), .val (.int v55), .val (.ref b57), .unset] [])) (fun t k => XS.ifNo X106.here hx rfl (hb hby at_137) rfl (XT.i0_eq_f hc107) k) ?_
          refine own_stW (B := T106.setTop (mkF m 141 #[.val (.int arg0), .val (.int arg1), .val (.int arg2), .val (.int arg3), .val (.int arg4), .val (.ref b1), .val (.int v27), .val (.int v52), .val (.int v55), .val (.ref b57), .unset] [(.int arg1)])) (fun t k => XS.iloadN X106.here hx rfl (hb hby at_140) rfl k) ?_
          refine own_stW (B := T106.setTop (mkF m 143 #[.val (.int arg0), .val (.int arg1), .val (.int arg2), .val (.int arg3), .val (.int arg4), .val (.ref b1), .val (.int v27), .val (.int v52), .val (.int v55), .val (.ref b57), .unset] [(.int v55), (.int arg1)])) (fun t k => XS.iload X106.here hx rfl (hb hby at_141) rfl k) ?_
          obtain ⟨_, _, ⟨T132, L132, k132, j132⟩, -, X132, ⟨Lc132, hQ132, l132, y132_, z132_⟩, st132⟩ := Jvm.LawKit.callS X106 hx (y := (⟨"com/example/marshal_lock/marshallock/internal/HoldEqualsPinLaw", "sameStr", "(II)Z"⟩ : MethodName)) hown (mvT hZ (w_40 hw)) (mvT hZ (w_41 hw)) (mvT hZ (w_5 hw)) (mvT hZ (w_42 hw)) (by decide) (backOf (W := 0) (rm7 l Z a0 hw [] arg1 v55 T103.heap n0 z105 ) hZ (w_42 hw) (w_5 hw) (by decide) (by decide)) (g := (mkF m 143 #[.val (.int arg0), .val (.int arg1), .val (.int arg2), .val (.int arg3), .val (.int arg4), .val (.ref b1), .val (.int v27), .val (.int v52), .val (.int v55), .val (.ref b57), .unset] [(.int v55), (.int arg1)])) rfl (by rw [hml]; rfl) (argsL := [(.int arg1), (.int v55)]) (rest := []) (lenOf own_pd15 rfl) rfl (by show 2 * 0 + _ ≤ _; exact Nat.le_of_eq rfl) (hb hby at_143) (fun _ _ => ⟨rfl, e106q, (by decide : 26 + 0 ≤ _), (by decide : 52 + 0 ≤ _)⟩)
          dsimp only [Pt.U, Pt.locs, Pt.cells, Pt.slots] at X132 l132 y132_ z132_ st132 hQ132
          subst l132 y132_ z132_
          obtain ⟨rfl, N132q, e132q⟩ := hQ132
          have N132 := Fr.app N106 N132q
          refine own_stW (B := T132.setTop (mkF m 146 #[.val (.int arg0), .val (.int arg1), .val (.int arg2), .val (.int arg3), .val (.int arg4), .val (.ref b1), .val (.int v27), .val (.int v52), .val (.int v55), .val (.ref b57), .unset] [(.int (own_same arg1 v55))])) (fun t k => st132 t k) ?_
          refine own_cut (P := ∀ (v134 : Int32), (v134 = (if (own_same arg1 v55) = (0 : Int32) then (0 : Int32) else (1 : Int32))) → own_GoW p e below s (Q0 Z arg0 arg1 arg2 arg3 arg4 cs h0 n0) (fun vm h => CHr Z own_EL s.vm h0 vm h) 40 1216 (T132.setTop (mkF m 154 #[.val (.int arg0), .val (.int arg1), .val (.int arg2), .val (.int arg3), .val (.int arg4), .val (.ref b1), .val (.int v27), .val (.int v52), .val (.int v55), .val (.ref b57), .unset] [(.int v134)]))) (fun J135 => ?_) ?_
          · by_cases hc133 : (own_same arg1 v55) = (0 : Int32)
            · refine own_stW (B := T132.setTop (mkF m 153 #[.val (.int arg0), .val (.int arg1), .val (.int arg2), .val (.int arg3), .val (.int arg4), .val (.ref b1), .val (.int v27), .val (.int v52), .val (.int v55), .val (.ref b57), .unset] [])) (fun t k => XS.ifYes X132.here hx rfl (pc0 := 146) (pc' := 153) rfl (hb hby at_146) rfl (XT.i0_eq_t hc133) (by decide) (by decide) k) ?_
              refine own_stW (B := T132.setTop (mkF m 154 #[.val (.int arg0), .val (.int arg1), .val (.int arg2), .val (.int arg3), .val (.int arg4), .val (.ref b1), .val (.int v27), .val (.int v52), .val (.int v55), .val (.ref b57), .unset] [(.int (0 : Int32))])) (fun t k => XS.iconst X132.here hx rfl (hb hby at_153) k) ?_
              exact J135 (0 : Int32) (by rw [if_pos hc133])
            · refine own_stW (B := T132.setTop (mkF m 149 #[.val (.int arg0), .val (.int arg1), .val (.int arg2), .val (.int arg3), .val (.int arg4), .val (.ref b1), .val (.int v27), .val (.int v52), .val (.int v55), .val (.ref b57), .unset] [])) (fun t k => XS.ifNo X132.here hx rfl (hb hby at_146) rfl (XT.i0_eq_f hc133) k) ?_
              refine own_stW (B := T132.setTop (mkF m 150 #[.val (.int arg0), .val (.int arg1), .val (.int arg2), .val (.int arg3), .val (.int arg4), .val (.ref b1), .val (.int v27), .val (.int v52), .val (.int v55), .val (.ref b57), .unset] [(.int (1 : Int32))])) (fun t k => XS.iconst X132.here hx rfl (hb hby at_149) k) ?_
              refine own_stW (B := T132.setTop (mkF m 154 #[.val (.int arg0), .val (.int arg1), .val (.int arg2), .val (.int arg3), .val (.int arg4), .val (.ref b1), .val (.int v27), .val (.int v52), .val (.int v55), .val (.ref b57), .unset] [(.int (1 : Int32))])) (fun t k => XS.goto X132.here hx rfl (pc0 := 150) (pc' := 154) rfl (hb hby at_150) (by decide) (by decide) k) ?_
              exact J135 (1 : Int32) (by rw [if_neg hc133])
          intro v134 hv134
          refine own_stW (B := T132.setTop (mkF m 156 #[.val (.int arg0), .val (.int arg1), .val (.int arg2), .val (.int arg3), .val (.int arg4), .val (.ref b1), .val (.int v27), .val (.int v52), .val (.int v55), .val (.ref b57), .val (.int v134)] [])) (fun t k => XS.istore X132.here hx rfl (hb hby at_154) rfl (l' := #[.val (.int arg0), .val (.int arg1), .val (.int arg2), .val (.int arg3), .val (.int arg4), .val (.ref b1), .val (.int v27), .val (.int v52), .val (.int v55), .val (.ref b57), .val (.int v134)]) rfl k) ?_
          refine own_stW (B := T132.setTop (mkF m 158 #[.val (.int arg0), .val (.int arg1), .val (.int arg2), .val (.int arg3), .val (.int arg4), .val (.ref b1), .val (.int v27), .val (.int v52), .val (.int v55), .val (.ref b57), .val (.int v134)] [(.ref b1)])) (fun t k => XS.aload X132.here hx rfl (hb hby at_156) rfl rfl k) ?_
          refine own_stW (B := T132.setTop (mkF m 160 #[.val (.int arg0), .val (.int arg1), .val (.int arg2), .val (.int arg3), .val (.int arg4), .val (.ref b1), .val (.int v27), .val (.int v52), .val (.int v55), .val (.ref b57), .val (.int v134)] [(.ref b57), (.ref b1)])) (fun t k => XS.aload X132.here hx rfl (hb hby at_158) rfl rfl k) ?_
          have f136 : Exa Z T103.heap b1 "com/example/marshal_lock/marshallock/internal/Hold" := (f91.keep K103)
          have f137 : Fld Z T103.heap b1 "com/example/marshal_lock/marshallock/internal/Hold" "lockKey" "Ljava/lang/String;" (.ref o_7) := ((((p24_1.ext E57).keep K67 nin0).keep K85 nin0).keep K103 (ninS q57_b1 nin0))
          have f138 : Fld Z T103.heap b1 "com/example/marshal_lock/marshallock/internal/Hold" "owner" "Ljava/lang/String;" (.ref o_14) := ((((p24_2.ext E57).keep K67 nin0).keep K85 nin0).keep K103 (ninS q57_b1 nin0))
          have f139 : Exa Z T103.heap o_7 "java/lang/String" := (f93.keep K103)
          have f140 : Exa Z T103.heap o_14 "java/lang/String" := (f95.keep K103)
          have f141 : Exa Z T103.heap o_67 "java/lang/String" := (f99.keep K103)
          have f142 : Exa Z T103.heap o_85 "java/lang/String" := (p85_0.keep K103)
          have f143 : Fld Z T103.heap o_7 "java/lang/String" "coder" "B" (.int (0 : Int32)) := ((((((p7_1.keep K14 nin0).keep K24 (ninS (Ne.symm q7_o_b1) nin0)).ext E57).keep K67 nin0).keep K85 nin0).keep K103 (ninS q57_o_7 nin0))
          have f144 : Fld Z T103.heap o_7 "java/lang/String" "value" "[B" (.ref b_7) := ((((((p7_2.keep K14 nin0).keep K24 (ninS (Ne.symm q7_o_b1) nin0)).ext E57).keep K67 nin0).keep K85 nin0).keep K103 (ninS q57_o_7 nin0))
          have f145 : Fld Z T103.heap o_14 "java/lang/String" "coder" "B" (.int (0 : Int32)) := (((((p14_1.keep K24 (ninS (Ne.symm q14_o_b1) nin0)).ext E57).keep K67 nin0).keep K85 nin0).keep K103 (ninS q57_o_14 nin0))
          have f146 : Fld Z T103.heap o_14 "java/lang/String" "value" "[B" (.ref b_14) := (((((p14_2.keep K24 (ninS (Ne.symm q14_o_b1) nin0)).ext E57).keep K67 nin0).keep K85 nin0).keep K103 (ninS q57_o_14 nin0))
          have f147 : Fld Z T103.heap o_67 "java/lang/String" "coder" "B" (.int (0 : Int32)) := ((p67_1.keep K85 nin0).keep K103 (ninS (Ne.symm q67_o_b57) nin0))
          have f148 : Fld Z T103.heap o_67 "java/lang/String" "value" "[B" (.ref b_67) := ((p67_2.keep K85 nin0).keep K103 (ninS (Ne.symm q67_o_b57) nin0))
          have f149 : Fld Z T103.heap o_85 "java/lang/String" "coder" "B" (.int (0 : Int32)) := (p85_1.keep K103 (ninS (Ne.symm q85_o_b57) nin0))
          have f150 : Fld Z T103.heap o_85 "java/lang/String" "value" "[B" (.ref b_85) := (p85_2.keep K103 (ninS (Ne.symm q85_o_b57) nin0))
          have f151 : own_A Z T103.heap b_7 .byte ((own_bs arg0).map Value.int) := ((f86.keep K85 nin0).keep K103 (ninS q57_b_7 nin0))
          have f152 : own_A Z T103.heap b_14 .byte ((own_bs arg1).map Value.int) := ((f87.keep K85 nin0).keep K103 (ninS q57_b_14 nin0))
          have f153 : own_A Z T103.heap b_67 .byte ((own_bs v52).map Value.int) := ((p67_3.keep K85 nin0).keep K103 (ninS (Ne.symm q81_) nin0))
          have f154 : own_A Z T103.heap b_85 .byte ((own_bs v55).map Value.int) := (p85_3.keep K103 (ninS (Ne.symm q96_) nin0))
          have f155 : Sta Z T103.heap "java/lang/String" "COMPACT_STRINGS" "Z" (.int cs) := (own_Sta.keep (own_Sta.keep f84 K85 (fun _ q => nomatch q)) K103 (show ∀ st ∈ [b57], ∀ cell : Cell, T85.heap[st]? = some cell → cell.vm.isStatics = false from (allS (own_plainE f97) all0)))
          obtain ⟨cq156, kq156, q156a, q156b, q156c⟩ := isOf hZ e132q f136
          obtain ⟨_, _, ⟨T156, L156, k156, j156⟩, -, X156, ⟨Lc156, hQ156, l156, y156_, z156_⟩, st156⟩ := X132.virtualBack hx (y := (⟨"com/example/marshal_lock/marshallock/internal/Hold", "equals", "(Ljava/lang/Object;)Z"⟩ : MethodName)) (z := (⟨"com/example/marshal_lock/marshallock/internal/Hold", "equals", "(Ljava/lang/Object;)Z"⟩ : MethodName)) hown (mvT hZ (w_43 hw)) (mvT hZ (w_44 hw)) (notFace_of_selects (args := #[]) (mvT hZ (w_46 hw))) (mvT hZ (w_46 hw)) (mvT hZ (w_45 hw)) (by decide) (backOf (W := 0) (rm8d l Z a0 hw [] b1 b57 o_7 o_14 o_67 o_85 b_7 b_14 b_67 b_85 (own_bs arg0) (own_bs arg1) (own_bs v52) (own_bs v55) cs T103.heap n0 z105 f136 p103_0 f137 f138 p103_1 p103_2 f139 f140 f141 f142 f143 f144 f145 f146 f147 f148 f149 f150 f151 f152 f153 f154 f155 q67_o_o_7 q85_o_o_14 hcs (own_bl _) (own_bl _) (own_bl _) (own_bl _)) hZ (w_47 hw) (w_2 hw) (by decide) (by decide)) q156a q156c (g := (mkF m 160 #[.val (.int arg0), .val (.int arg1), .val (.int arg2), .val (.int arg3), .val (.int arg4), .val (.ref b1), .val (.int v27), .val (.int v52), .val (.int v55), .val (.ref b57), .val (.int v134)] [(.ref b57), (.ref b1)])) rfl (by rw [hml]; rfl) (Steps.refl _) (argsL := [(.ref b57)]) (rest := []) (lenOf own_pd12 rfl) rfl (by show 2 * 0 + _ ≤ _; exact Nat.le_of_eq rfl) (hb hby at_160) (fun _ _ => ⟨rfl, e132q, (by decide : 26 + 0 ≤ _), (by decide : 52 + 0 ≤ _)⟩)
          dsimp only [Pt.U, Pt.locs, Pt.cells, Pt.slots] at X156 l156 y156_ z156_ st156 hQ156
          subst l156 y156_ z156_
          obtain ⟨rfl, N156q, e156q⟩ := hQ156
          have N156 := Fr.app N132 N156q
          refine own_ssW (B := T156.setTop (mkF m 163 #[.val (.int arg0), .val (.int arg1), .val (.int arg2), .val (.int arg3), .val (.int arg4), .val (.ref b1), .val (.int v27), .val (.int v52), .val (.int v55), .val (.ref b57), .val (.int v134)] [(.int (own_heq (own_bs arg0) (own_bs arg1) (own_bs v52) (own_bs v55)))])) st156 ?_
          refine own_stW (B := T156.setTop (mkF m 165 #[.val (.int arg0), .val (.int arg1), .val (.int arg2), .val (.int arg3), .val (.int arg4), .val (.ref b1), .val (.int v27), .val (.int v52), .val (.int v55), .val (.ref b57), .val (.int v134)] [(.int v134), (.int (own_heq (own_bs arg0) (own_bs arg1) (own_bs v52) (own_bs v55)))])) (fun t k => XS.iload X156.here hx rfl (hb hby at_163) rfl k) ?_
          have hc157 : (own_heq (own_bs arg0) (own_bs arg1) (own_bs v52) (own_bs v55)) = v134 := by
            exact (own_fin (v := v134) (a := arg0) (x := v52) (b := arg1) (y := v55) (by rw [if_neg hc107]; exact hv134)).1
          refine own_stW (B := T156.setTop (mkF m 168 #[.val (.int arg0), .val (.int arg1), .val (.int arg2), .val (.int arg3), .val (.int arg4), .val (.ref b1), .val (.int v27), .val (.int v52), .val (.int v55), .val (.ref b57), .val (.int v134)] [])) (fun t k => XS.icmpNo X156.here hx rfl (hb hby at_165) rfl (XT.ii_ne_f hc157) k) ?_
          refine own_stW (B := T156.setTop (mkF m 170 #[.val (.int arg0), .val (.int arg1), .val (.int arg2), .val (.int arg3), .val (.int arg4), .val (.ref b1), .val (.int v27), .val (.int v52), .val (.int v55), .val (.ref b57), .val (.int v134)] [(.ref b57)])) (fun t k => XS.aload X156.here hx rfl (hb hby at_168) rfl rfl k) ?_
          refine own_stW (B := T156.setTop (mkF m 172 #[.val (.int arg0), .val (.int arg1), .val (.int arg2), .val (.int arg3), .val (.int arg4), .val (.ref b1), .val (.int v27), .val (.int v52), .val (.int v55), .val (.ref b57), .val (.int v134)] [(.ref b1), (.ref b57)])) (fun t k => XS.aload X156.here hx rfl (hb hby at_170) rfl rfl k) ?_
          obtain ⟨cq158, kq158, q158a, q158b, q158c⟩ := isOf hZ e156q p103_0
          obtain ⟨_, _, ⟨T158, L158, k158, j158⟩, -, X158, ⟨Lc158, hQ158, l158, y158_, z158_⟩, st158⟩ := X156.virtualBack hx (y := (⟨"com/example/marshal_lock/marshallock/internal/Hold", "equals", "(Ljava/lang/Object;)Z"⟩ : MethodName)) (z := (⟨"com/example/marshal_lock/marshallock/internal/Hold", "equals", "(Ljava/lang/Object;)Z"⟩ : MethodName)) hown (mvT hZ (w_43 hw)) (mvT hZ (w_44 hw)) (notFace_of_selects (args := #[]) (mvT hZ (w_46 hw))) (mvT hZ (w_46 hw)) (mvT hZ (w_45 hw)) (by decide) (backOf (W := 0) (rm8d l Z a0 hw [] b57 b1 o_67 o_85 o_7 o_14 b_67 b_85 b_7 b_14 (own_bs v52) (own_bs v55) (own_bs arg0) (own_bs arg1) cs T103.heap n0 z105 p103_0 f136 p103_1 p103_2 f137 f138 f141 f142 f139 f140 f147 f148 f149 f150 f143 f144 f145 f146 f153 f154 f151 f152 f155 (Ne.symm q67_o_o_7) (Ne.symm q85_o_o_14) hcs (own_bl _) (own_bl _) (own_bl _) (own_bl _)) hZ (w_47 hw) (w_2 hw) (by decide) (by decide)) q158a q158c (g := (mkF m 172 #[.val (.int arg0), .val (.int arg1), .val (.int arg2), .val (.int arg3), .val (.int arg4), .val (.ref b1), .val (.int v27), .val (.int v52), .val (.int v55), .val (.ref b57), .val (.int v134)] [(.ref b1), (.ref b57)])) rfl (by rw [hml]; rfl) (Steps.refl _) (argsL := [(.ref b1)]) (rest := []) (lenOf own_pd12 rfl) rfl (by show 2 * 0 + _ ≤ _; exact Nat.le_of_eq rfl) (hb hby at_172) (fun _ _ => ⟨rfl, e156q, (by decide : 26 + 0 ≤ _), (by decide : 52 + 0 ≤ _)⟩)
          dsimp only [Pt.U, Pt.locs, Pt.cells, Pt.slots] at X158 l158 y158_ z158_ st158 hQ158
          subst l158 y158_ z158_
          obtain ⟨rfl, N158q, e158q⟩ := hQ158
          have N158 := Fr.app N156 N158q
          refine own_ssW (B := T158.setTop (mkF m 175 #[.val (.int arg0), .val (.int arg1), .val (.int arg2), .val (.int arg3), .val (.int arg4), .val (.ref b1), .val (.int v27), .val (.int v52), .val (.int v55), .val (.ref b57), .val (.int v134)] [(.int (own_heq (own_bs v52) (own_bs v55) (own_bs arg0) (own_bs arg1)))])) st158 ?_
          refine own_stW (B := T158.setTop (mkF m 177 #[.val (.int arg0), .val (.int arg1), .val (.int arg2), .val (.int arg3), .val (.int arg4), .val (.ref b1), .val (.int v27), .val (.int v52), .val (.int v55), .val (.ref b57), .val (.int v134)] [(.int v134), (.int (own_heq (own_bs v52) (own_bs v55) (own_bs arg0) (own_bs arg1)))])) (fun t k => XS.iload X158.here hx rfl (hb hby at_175) rfl k) ?_
          have hc159 : (own_heq (own_bs v52) (own_bs v55) (own_bs arg0) (own_bs arg1)) = v134 := by
            exact (own_fin (v := v134) (a := arg0) (x := v52) (b := arg1) (y := v55) (by rw [if_neg hc107]; exact hv134)).2
          refine own_stW (B := T158.setTop (mkF m 180 #[.val (.int arg0), .val (.int arg1), .val (.int arg2), .val (.int arg3), .val (.int arg4), .val (.ref b1), .val (.int v27), .val (.int v52), .val (.int v55), .val (.ref b57), .val (.int v134)] [])) (fun t k => XS.icmpNo X158.here hx rfl (hb hby at_177) rfl (XT.ii_ne_f hc159) k) ?_
          refine own_stW (B := T158.setTop (mkF m 181 #[.val (.int arg0), .val (.int arg1), .val (.int arg2), .val (.int arg3), .val (.int arg4), .val (.ref b1), .val (.int v27), .val (.int v52), .val (.int v55), .val (.ref b57), .val (.int v134)] [(.int (1 : Int32))])) (fun t k => XS.iconst X158.here hx rfl (hb hby at_180) k) ?_
          refine own_stW (B := T158.setTop (mkF m 185 #[.val (.int arg0), .val (.int arg1), .val (.int arg2), .val (.int arg3), .val (.int arg4), .val (.ref b1), .val (.int v27), .val (.int v52), .val (.int v55), .val (.ref b57), .val (.int v134)] [(.int (1 : Int32))])) (fun t k => XS.goto X158.here hx rfl (pc0 := 181) (pc' := 185) rfl (hb hby at_181) (by decide) (by decide) k) ?_
          refine own_retNW X158 hS85 (show _ ≤ T158.heap.size by rw [e158q]; exact hk104) hx hlk (t := .boolean) Bd.returns (by simp) (z' := (1 : Int32)) rfl (hb hby at_185) (by decide) (by decide) (show CHr Z own_EL s.vm h0 T158.vm T158.heap by rw [e158q]; exact ch104.trans (CHv.at X158 hZ (own_ew hw) ch104.1)) ?_
          show Q0 Z arg0 arg1 arg2 arg3 arg4 cs h0 n0 _ T158.heap _
          rw [e158q]
          exact ⟨rfl, N158⟩
set_option maxHeartbeats 40000000 in
theorem comes_1 {Post : Tables → Env → Array Value → State → Outcome → State → Prop} (hpost : ∀ tb e args s v u, (limb_1_1.after args s (.returned v) u = true ∧ limb_1_2.after args s (.returned v) u = true ∧ True) → Jvm.D.FramedW s (.returned v) u (Jvm.fieldLocs frame_1_writes args s ++ Jvm.arrayLocs frame_1_arrays args s ++ Jvm.staticLocs frame_1_statics s) 40 1216 → Post tb e args s (.returned v) u) :
    ArmFor flags0 classFile x code maxLocals ret World_1 tables_1 room_1 Calls_1 rest_1 Pre_1 Post := by
  intro l hfl _ _ p e ha hc hk s m args below hf hA hF happ hP
  obtain ⟨hcalls, hrest, hpre⟩ := hP
  obtain ⟨-, -, -, hnamed, -, -, -, hat⟩ := (Spec.applies_iff hf).mp happ
  obtain ⟨hg, hn⟩ := and_e (Cond.before_iff.mp (show (Jvm.Cond.and given_1 narrow_1).before args s = true from hpre))
  obtain ⟨g1a, g1b⟩ := and_e hg
  obtain ⟨g2a, g2b⟩ := and_e g1b
  obtain ⟨g3a, g3b⟩ := and_e g2b
  obtain ⟨g4a, g4b⟩ := and_e g3b
  obtain ⟨g5a, g5b⟩ := and_e g4b
  obtain ⟨w0, w1, w2, w3, w4, rfl⟩ : ∃ w0 w1 w2 w3 w4 : Value, args = #[w0, w1, w2, w3, w4] := by
    have hs : args.size = 5 := by simpa [Cond.value, given_1] using g1a
    obtain ⟨L⟩ := args
    match L, hs with
    | [w0, w1, w2, w3, w4], _ => exact ⟨w0, w1, w2, w3, w4, rfl⟩
  have hw := fun d (hd : d ∈ tables_1) => atoms_spec (ws := Jvm.Cond.code x code maxLocals ret :: tables_1) hat d (List.mem_cons_of_mem _ hd)
  have hfit : Fit s := fun {y c} hc i hi => by
    obtain ⟨ha, rfl⟩ := Array.getElem?_eq_some_iff.mp hc
    have q := List.all_eq_true.mp ((Array.all_eq_true_iff_forall_mem.mp hF) _ (Array.getElem_mem ha)) i (List.mem_range.mpr hi)
    simpa [Array.getElem?_eq_getElem hi] using q
  obtain ⟨hsets, hown0⟩ := atoms_of _ (rest_1_c_eq ▸ (show rest_1_c.before _ s = true from hrest))
  have hr0 := Cond.before_iff.mp hown0
  obtain ⟨i0, ei0⟩ := is_v g2a
  obtain rfl : w0 = (.int i0) := Option.some.inj ei0
  obtain ⟨i1, ei1⟩ := is_v g3a
  obtain rfl : w1 = (.int i1) := Option.some.inj ei1
  obtain ⟨i2, ei2⟩ := is_v g4a
  obtain rfl : w2 = (.int i2) := Option.some.inj ei2
  obtain ⟨i3, ei3⟩ := is_v g5a
  obtain rfl : w3 = (.int i3) := Option.some.inj ei3
  obtain ⟨i4, ei4⟩ := is_v g5b
  obtain rfl : w4 = (.int i4) := Option.some.inj ei4
  obtain ⟨cs, ecs⟩ := is_v (Cond.before_iff.mp (hsets _ (List.mem_of_getElem? (i := 1) rfl)))
  have S1 : Sta s s.heap "java/lang/String" "COMPACT_STRINGS" "Z" (.int cs) := Sta.start ecs (Or.inl (hsets _ (List.mem_of_getElem? (i := 0) rfl)))
  have hcw := hsets _ (List.mem_of_getElem? (i := 2) rfl)
  have hcs : ¬ (cs = (0 : Int32)) := gotF (Cond.eq_ints ecs (Term.int_eval (0))) (not_v (Cond.before_iff.mp hcw))
  have hCH : CHv s own_EL s.vm s.heap := CHv.start (own_ew hw) (fun p hp => hcalls.1 p hp) hcw (w_25 hw) (w_11 hw)
  obtain ⟨n, o, h1, h2, h3, _, L, rfl, ⟨rfl, N⟩, -, hq⟩ := rm0 l s _ hw tables_1 i0 i1 i2 i3 i4 cs s.heap s.heap.size (Nat.le_refl _) S1 hcs p e ha hc hk s m _ below hf ((Spec.applies_iff_loose hf).mp happ).1 ⟨rfl, State.Warmed39.refl s, rfl, hCH, all0⟩ trivial
  refine ⟨n, _, h1, h2, h3, hpost _ _ _ _ _ _ ⟨Cond.after_iff.mpr rfl, Cond.after_iff.mpr (eq_i res_at (Term.int_eval (1)) rfl), trivial⟩ ⟨hq.1, hq.2.1, hq.2.2.1, (hq.2.2.2.sift fun y hy => Or.inr (N y hy)).mono (by decide) (by decide)⟩⟩
theorem main_1_1 : Claimed_1_1 := comes_1 fun _ _ _ _ _ _ h hF => ⟨h.1, hF⟩
theorem main_1_2 : Claimed_1_2 := comes_1 fun _ _ _ _ _ _ h hF => ⟨h.2.1, hF⟩
end Jvm.Pilot.@@N@@
namespace Jvm.Pilot.@@N@@
open Jvm Jvm.ClassFile Sem Op Lib Jvm.Free Jvm.Stand Jvm.Pilot.@@N@@.Jvm.D
/-! MADE BY PROGRAM (witnessworld.py) out of the Statement's table words and the real class files: 20 classes; the members and pool entries that the words name. The judged class is class 1, her method 4. -/
namespace start1
open Jvm.ClassFile
def u (s : String) : CpInfo := .utf8 (stringToUtf16 s)
/-- a pool by its gaps: so many unusable entries, then the entry; so many at the end -/
def gap : Nat → List CpInfo → List CpInfo
  | 0, r => r
  | n + 1, r => .unusable :: gap n r
def poolList (es : List (Nat × CpInfo)) (last : Nat) : List CpInfo := es.foldr (fun e r => gap e.1 (e.2 :: r)) (gap last [])
def pool (es : List (Nat × CpInfo)) (last : Nat) : Array CpInfo := ⟨poolList es last⟩
def fileOf (pool : Array CpInfo) (this : Nat) (attrs : Array Attribute := #[]) (ms : Array MethodInfo := #[]) (fl : Nat := 33) (sup : Nat := 0) (ifs : Array Nat := #[]) (fds : Array FieldInfo := #[]) : ClassFile where
  minorVersion := 0
  majorVersion := 65
  constantPool := pool
  accessFlags := fl
  thisClass := this
  superClass := sup
  interfaces := ifs
  fields := fds
  methods := ms
  attributes := attrs
def plain (name : String) (sup : Option ClassId) : Class where
  name := name
  kind := .ordinary
  loader := none
  accessFlags := 33
  super := sup
  interfaces := #[]
  cf := none
  fields := #[]
  methods := #[]
  instanceTypes := #[]
  staticTypes := #[]
  resolved := #[]
  callSites := []
  init := .initialized
  statics := none
  mirror := none

def pool0 : Array CpInfo := pool [(5, u "<init>"), (0, u "()V"), (1, .class_ 10), (1, u "java/lang/Object")] 113

def k0c0 : Code := { maxStack := 0, maxLocals := 1, code := object_method_1_code, exceptionTable := #[], attributes := #[] }
def k0m0 : Method := { name := "<init>", desc := "()V", sig := { parameters := [], returnType := none }, accessFlags := 1, code := some k0c0 }
/-- java/lang/Object -/
def k0 : Class := { plain "java/lang/Object" none with
  accessFlags := 33
  interfaces := #[]
  cf := some (fileOf pool0 8 #[] #[{ accessFlags := 1, nameIndex := 5, descriptorIndex := 6, attributes := #[] }] 33 0 #[] #[])
  fields := #[]
  methods := #[k0m0]
  instanceTypes := #[]
  staticTypes := #[]
  resolved := Array.replicate 124 none
  statics := none }

def pool1 : Array CpInfo := pool [(2, .class_ 4), (1, u "java/lang/Object"), (0, u "<init>"), (0, u "()V"), (0, .methodref 8 9), (0, .class_ 10), (0, .nameAndType 11 12), (0, u "com/example/marshal_lock/marshallock/internal/HoldEqualsPinLaw"), (0, u "len"), (0, u "(I)I"), (0, .class_ 14), (0, u "java/lang/String"), (0, .methodref 13 16), (0, .nameAndType 5 17), (0, u "([C)V"), (0, .class_ 19), (0, u "com/example/marshal_lock/marshallock/internal/Hold"), (0, .methodref 8 21), (0, .nameAndType 22 23), (0, u "str"), (0, u "(I)Ljava/lang/String;"), (0, .methodref 18 25), (0, .nameAndType 5 26), (0, u "(Ljava/lang/String;Ljava/lang/String;)V"), (0, .methodref 18 28), (0, .nameAndType 29 30), (0, u "equals"), (0, u "(Ljava/lang/Object;)Z"), (0, .methodref 8 32), (0, .nameAndType 33 34), (0, u "sameStr"), (0, u "(II)Z"), (3, u "law"), (0, u "(IIIII)Z")] 2

def k1m0 : Method := { name := "<init>", desc := "()V", sig := { parameters := [], returnType := none }, accessFlags := 1, code := none }
def k1c1 : Code := { maxStack := 2, maxLocals := 1, code := method_2_code, exceptionTable := #[], attributes := #[] }
def k1m1 : Method := { name := "len", desc := "(I)I", sig := { parameters := [.int], returnType := some .int }, accessFlags := 10, code := some k1c1 }
def k1c2 : Code := { maxStack := 4, maxLocals := 3, code := method_3_code, exceptionTable := #[], attributes := #[] }
def k1m2 : Method := { name := "str", desc := "(I)Ljava/lang/String;", sig := { parameters := [.int], returnType := some (.object "java/lang/String") }, accessFlags := 10, code := some k1c2 }
def k1c3 : Code := { maxStack := 3, maxLocals := 3, code := method_4_code, exceptionTable := #[], attributes := #[] }
def k1m3 : Method := { name := "sameStr", desc := "(II)Z", sig := { parameters := [.int, .int], returnType := some .boolean }, accessFlags := 10, code := some k1c3 }
def k1c4 : Code := { maxStack := 4, maxLocals := 11, code := code, exceptionTable := #[], attributes := #[] }
def k1m4 : Method := { name := "law", desc := "(IIIII)Z", sig := { parameters := [.int, .int, .int, .int, .int], returnType := some .boolean }, accessFlags := 9, code := some k1c4 }
/-- com/example/marshal_lock/marshallock/internal/HoldEqualsPinLaw -/
def k1 : Class := { plain "com/example/marshal_lock/marshallock/internal/HoldEqualsPinLaw" (some 0) with
  accessFlags := 49
  interfaces := #[]
  cf := some (fileOf pool1 8 #[] #[{ accessFlags := 1, nameIndex := 5, descriptorIndex := 6, attributes := #[] }, { accessFlags := 10, nameIndex := 11, descriptorIndex := 12, attributes := #[] }, { accessFlags := 10, nameIndex := 22, descriptorIndex := 23, attributes := #[] }, { accessFlags := 10, nameIndex := 33, descriptorIndex := 34, attributes := #[] }, { accessFlags := 9, nameIndex := 38, descriptorIndex := 39, attributes := #[] }] 49 2 #[] #[])
  fields := #[]
  methods := #[k1m0, k1m1, k1m2, k1m3, k1m4]
  instanceTypes := #[]
  staticTypes := #[]
  resolved := Array.replicate 42 none
  statics := none }

def pool2 : Array CpInfo := pool [(1, .methodref 2 3), (0, .class_ 4), (0, .nameAndType 5 6), (0, u "java/lang/Object"), (0, u "<init>"), (0, u "()V"), (0, .fieldref 8 9), (0, .class_ 10), (0, .nameAndType 11 12), (0, u "com/example/marshal_lock/marshallock/internal/Hold"), (0, u "lockKey"), (0, u "Ljava/lang/String;"), (0, .fieldref 8 14), (0, .nameAndType 15 12), (0, u "owner"), (0, .methodref 17 18), (0, .class_ 19), (0, .nameAndType 20 21), (0, u "java/lang/String"), (0, u "equals"), (0, u "(Ljava/lang/Object;)Z"), (6, u "(Ljava/lang/String;Ljava/lang/String;)V")] 8

def k2c0 : Code := { maxStack := 2, maxLocals := 3, code := prog_6_method_1_code, exceptionTable := #[], attributes := #[] }
def k2m0 : Method := { name := "<init>", desc := "(Ljava/lang/String;Ljava/lang/String;)V", sig := { parameters := [(.object "java/lang/String"), (.object "java/lang/String")], returnType := none }, accessFlags := 0, code := some k2c0 }
def k2c1 : Code := { maxStack := 2, maxLocals := 3, code := prog_6_method_4_code, exceptionTable := #[], attributes := #[] }
def k2m1 : Method := { name := "equals", desc := "(Ljava/lang/Object;)Z", sig := { parameters := [(.object "java/lang/Object")], returnType := some .boolean }, accessFlags := 1, code := some k2c1 }
/-- com/example/marshal_lock/marshallock/internal/Hold -/
def k2 : Class := { plain "com/example/marshal_lock/marshallock/internal/Hold" (some 0) with
  accessFlags := 48
  interfaces := #[]
  cf := some (fileOf pool2 8 #[] #[{ accessFlags := 0, nameIndex := 5, descriptorIndex := 28, attributes := #[] }, { accessFlags := 1, nameIndex := 20, descriptorIndex := 21, attributes := #[] }] 48 2 #[] #[{ accessFlags := 18, nameIndex := 11, descriptorIndex := 12, attributes := #[] }, { accessFlags := 18, nameIndex := 15, descriptorIndex := 12, attributes := #[] }])
  fields := #[{ name := "lockKey", type := (.object "java/lang/String"), accessFlags := 18, slot := 0, constantValue := 0 }, { name := "owner", type := (.object "java/lang/String"), accessFlags := 18, slot := 1, constantValue := 0 }]
  methods := #[k2m0, k2m1]
  instanceTypes := #[(.object "java/lang/String"), (.object "java/lang/String")]
  staticTypes := #[]
  resolved := Array.replicate 37 none
  statics := none }

def pool3 : Array CpInfo := pool [(1, .class_ 2), (0, u "java/io/Serializable"), (0, .class_ 4), (0, u "java/lang/Object")] 2

/-- java/io/Serializable -/
def k3 : Class := { plain "java/io/Serializable" (some 0) with
  accessFlags := 1537
  interfaces := #[]
  cf := some (fileOf pool3 1 #[] #[] 1537 3 #[] #[])
  fields := #[]
  methods := #[]
  instanceTypes := #[]
  staticTypes := #[]
  resolved := Array.replicate 7 none
  statics := none }

def pool4 : Array CpInfo := pool [(1, .class_ 2), (0, u "java/lang/Comparable"), (0, .class_ 4), (0, u "java/lang/Object")] 7

/-- java/lang/Comparable -/
def k4 : Class := { plain "java/lang/Comparable" (some 0) with
  accessFlags := 1537
  interfaces := #[]
  cf := some (fileOf pool4 1 #[] #[] 1537 3 #[] #[])
  fields := #[]
  methods := #[]
  instanceTypes := #[]
  staticTypes := #[]
  resolved := Array.replicate 12 none
  statics := none }

def pool5 : Array CpInfo := pool [(2, .class_ 4), (1, u "java/lang/CharSequence"), (42, .class_ 48), (0, u "java/lang/CharSequence$1CodePointIterator"), (10, .class_ 60), (0, u "java/lang/CharSequence$1CharIterator"), (5, .class_ 67), (0, u "java/lang/Object")] 63

/-- java/lang/CharSequence -/
def k5 : Class := { plain "java/lang/CharSequence" (some 0) with
  accessFlags := 1537
  interfaces := #[]
  cf := some (fileOf pool5 2 #[.nestMembers #[47, 59]] #[] 1537 66 #[] #[])
  fields := #[]
  methods := #[]
  instanceTypes := #[]
  staticTypes := #[]
  resolved := Array.replicate 131 none
  statics := none }

def pool6 : Array CpInfo := pool [(1, .class_ 2), (0, u "java/lang/constant/Constable"), (0, .class_ 4), (0, u "java/lang/Object")] 6

/-- java/lang/constant/Constable -/
def k6 : Class := { plain "java/lang/constant/Constable" (some 0) with
  accessFlags := 1537
  interfaces := #[]
  cf := some (fileOf pool6 1 #[] #[] 1537 3 #[] #[])
  fields := #[]
  methods := #[]
  instanceTypes := #[]
  staticTypes := #[]
  resolved := Array.replicate 11 none
  statics := none }

def pool7 : Array CpInfo := pool [(1, .class_ 2), (0, u "java/lang/constant/ConstantDesc"), (0, .class_ 4), (0, u "java/lang/Object")] 32

/-- java/lang/constant/ConstantDesc -/
def k7 : Class := { plain "java/lang/constant/ConstantDesc" (some 0) with
  accessFlags := 1537
  interfaces := #[]
  cf := some (fileOf pool7 1 #[] #[] 1537 3 #[] #[])
  fields := #[]
  methods := #[]
  instanceTypes := #[]
  staticTypes := #[]
  resolved := Array.replicate 37 none
  statics := none }

def pool8 : Array CpInfo := pool [(1, .methodref 2 3), (0, .class_ 4), (0, .nameAndType 5 6), (0, u "java/lang/Object"), (0, u "<init>"), (0, u "()V"), (0, .string 8), (0, u ""), (0, .fieldref 10 11), (0, .class_ 12), (0, .nameAndType 13 14), (0, u "java/lang/String"), (0, u "value"), (0, u "[B"), (0, .fieldref 10 16), (0, .nameAndType 17 18), (0, u "coder"), (0, u "B"), (2, u "hash"), (0, u "I"), (2, u "hashIsZero"), (0, u "Z"), (0, .methodref 10 28), (0, .nameAndType 5 29), (0, u "([CIILjava/lang/Void;)V"), (8, .fieldref 10 39), (0, .nameAndType 40 26), (0, u "COMPACT_STRINGS"), (1, .class_ 44), (1, u "java/lang/StringUTF16"), (0, u "compress"), (1, .methodref 42 48), (0, .nameAndType 49 50), (0, u "coderFromArrayLen"), (0, u "([BI)B"), (56, .class_ 109), (1, u "java/lang/StringLatin1"), (67, .methodref 42 178), (0, .nameAndType 45 179), (0, u "([CII)[B"), (361, .methodref 107 542), (0, .nameAndType 543 544), (0, u "equals"), (0, u "([B[B)Z"), (28, u "(Ljava/lang/Object;)Z"), (1, .class_ 576), (0, u "java/lang/CharSequence"), (22, u "CASE_INSENSITIVE_ORDER"), (0, u "Ljava/util/Comparator;"), (409, u "([C)V"), (90, u "serialPersistentFields"), (0, u "[Ljava/io/ObjectStreamField;"), (0, .class_ 1104), (0, u "java/lang/String$CaseInsensitiveComparator"), (1, .class_ 1107), (0, u "java/io/Serializable"), (0, .class_ 1109), (0, u "java/lang/Comparable"), (0, .class_ 1111), (0, u "java/lang/constant/Constable"), (0, .class_ 1113), (0, u "java/lang/constant/ConstantDesc"), (2, u "serialVersionUID"), (0, u "J"), (3, u "REPL"), (0, u "C"), (2, u "LATIN1"), (1, u "UTF16")] 323

def k8m0 : Method := { name := "<init>", desc := "()V", sig := { parameters := [], returnType := none }, accessFlags := 1, code := none }
def k8c1 : Code := { maxStack := 5, maxLocals := 2, code := jdk_42_method_3_code, exceptionTable := #[], attributes := #[] }
def k8m1 : Method := { name := "<init>", desc := "([C)V", sig := { parameters := [(.array .char)], returnType := none }, accessFlags := 1, code := some k8c1 }
def k8c2 : Code := { maxStack := 2, maxLocals := 3, code := jdk_42_method_66_code, exceptionTable := #[], attributes := #[] }
def k8m2 : Method := { name := "equals", desc := "(Ljava/lang/Object;)Z", sig := { parameters := [(.object "java/lang/Object")], returnType := some .boolean }, accessFlags := 1, code := some k8c2 }
def k8c3 : Code := { maxStack := 4, maxLocals := 6, code := jdk_42_method_149_code, exceptionTable := #[], attributes := #[] }
def k8m3 : Method := { name := "<init>", desc := "([CIILjava/lang/Void;)V", sig := { parameters := [(.array .char), .int, .int, (.object "java/lang/Void")], returnType := none }, accessFlags := 2, code := some k8c3 }
/-- java/lang/String -/
def k8 : Class := { plain "java/lang/String" (some 0) with
  accessFlags := 49
  interfaces := #[3, 4, 5, 6, 7]
  cf := some (fileOf pool8 10 #[.nestMembers #[1103]] #[{ accessFlags := 1, nameIndex := 5, descriptorIndex := 6, attributes := #[] }, { accessFlags := 1, nameIndex := 5, descriptorIndex := 1010, attributes := #[] }, { accessFlags := 1, nameIndex := 543, descriptorIndex := 573, attributes := #[] }, { accessFlags := 2, nameIndex := 5, descriptorIndex := 29, attributes := #[] }] 49 2 #[1106, 1108, 575, 1110, 1112] #[{ accessFlags := 18, nameIndex := 13, descriptorIndex := 14, attributes := #[] }, { accessFlags := 18, nameIndex := 17, descriptorIndex := 18, attributes := #[] }, { accessFlags := 2, nameIndex := 21, descriptorIndex := 22, attributes := #[] }, { accessFlags := 2, nameIndex := 25, descriptorIndex := 26, attributes := #[] }, { accessFlags := 26, nameIndex := 1116, descriptorIndex := 1117, attributes := #[] }, { accessFlags := 24, nameIndex := 40, descriptorIndex := 26, attributes := #[] }, { accessFlags := 26, nameIndex := 1101, descriptorIndex := 1102, attributes := #[] }, { accessFlags := 26, nameIndex := 1121, descriptorIndex := 1122, attributes := #[] }, { accessFlags := 25, nameIndex := 599, descriptorIndex := 600, attributes := #[] }, { accessFlags := 24, nameIndex := 1125, descriptorIndex := 18, attributes := #[] }, { accessFlags := 24, nameIndex := 1127, descriptorIndex := 18, attributes := #[] }])
  fields := #[{ name := "value", type := (.array .byte), accessFlags := 18, slot := 0, constantValue := 0 }, { name := "coder", type := .byte, accessFlags := 18, slot := 1, constantValue := 0 }, { name := "hash", type := .int, accessFlags := 2, slot := 2, constantValue := 0 }, { name := "hashIsZero", type := .boolean, accessFlags := 2, slot := 3, constantValue := 0 }, { name := "serialVersionUID", type := .long, accessFlags := 26, slot := 0, constantValue := 0 }, { name := "COMPACT_STRINGS", type := .boolean, accessFlags := 24, slot := 1, constantValue := 0 }, { name := "serialPersistentFields", type := (.array (.object "java/io/ObjectStreamField")), accessFlags := 26, slot := 2, constantValue := 0 }, { name := "REPL", type := .char, accessFlags := 26, slot := 3, constantValue := 0 }, { name := "CASE_INSENSITIVE_ORDER", type := (.object "java/util/Comparator"), accessFlags := 25, slot := 4, constantValue := 0 }, { name := "LATIN1", type := .byte, accessFlags := 24, slot := 5, constantValue := 0 }, { name := "UTF16", type := .byte, accessFlags := 24, slot := 6, constantValue := 0 }]
  methods := #[k8m0, k8m1, k8m2, k8m3]
  instanceTypes := #[(.array .byte), .byte, .int, .boolean]
  staticTypes := #[.long, .boolean, (.array (.object "java/io/ObjectStreamField")), .char, (.object "java/util/Comparator"), .byte, .byte]
  resolved := Array.replicate 1451 none
  statics := some 0 }

def pool9 : Array CpInfo := pool [(4, .class_ 6), (1, u "java/lang/Object"), (0, u "<init>"), (0, u "()V"), (5, .class_ 16), (1, u "java/lang/StringLatin1"), (104, u "$assertionsDisabled"), (0, u "Z"), (98, .class_ 223), (1, u "java/lang/StringLatin1$LinesSpliterator"), (57, u "equals"), (0, u "([B[B)Z"), (107, .class_ 391), (0, u "java/lang/StringLatin1$CharsSpliterator")] 3

def k9m0 : Method := { name := "<init>", desc := "()V", sig := { parameters := [], returnType := none }, accessFlags := 0, code := none }
def k9c1 : Code := { maxStack := 3, maxLocals := 3, code := jdk_43_method_13_code, exceptionTable := #[], attributes := #[] }
def k9m1 : Method := { name := "equals", desc := "([B[B)Z", sig := { parameters := [(.array .byte), (.array .byte)], returnType := some .boolean }, accessFlags := 9, code := some k9c1 }
/-- java/lang/StringLatin1 -/
def k9 : Class := { plain "java/lang/StringLatin1" (some 0) with
  accessFlags := 48
  interfaces := #[]
  cf := some (fileOf pool9 14 #[.nestMembers #[390, 221]] #[{ accessFlags := 0, nameIndex := 7, descriptorIndex := 8, attributes := #[] }, { accessFlags := 9, nameIndex := 281, descriptorIndex := 282, attributes := #[] }] 48 4 #[] #[{ accessFlags := 4120, nameIndex := 121, descriptorIndex := 122, attributes := #[] }])
  fields := #[{ name := "$assertionsDisabled", type := .boolean, accessFlags := 4120, slot := 0, constantValue := 0 }]
  methods := #[k9m0, k9m1]
  instanceTypes := #[]
  staticTypes := #[.boolean]
  resolved := Array.replicate 395 none
  statics := none }

def pool10 : Array CpInfo := pool [(6, .class_ 8), (1, u "java/lang/Object"), (0, u "<init>"), (0, u "()V"), (1, .class_ 14), (1, u "java/lang/StringUTF16"), (31, u "$assertionsDisabled"), (0, u "Z"), (13, u "HI_BYTE_SHIFT"), (0, u "I"), (2, u "LO_BYTE_SHIFT"), (49, .methodref 12 116), (0, .nameAndType 117 118), (0, u "compress"), (0, u "([CI[BII)I"), (3, u "([CII)[B"), (138, u "coderFromArrayLen"), (0, u "([BI)B"), (106, .class_ 371), (1, u "java/lang/StringUTF16$LinesSpliterator"), (58, u "MAX_LENGTH"), (196, .class_ 628), (0, u "java/lang/StringUTF16$CodePointsSpliterator"), (0, .class_ 630), (0, u "java/lang/StringUTF16$CharsSpliterator")] 4

def k10m0 : Method := { name := "<init>", desc := "()V", sig := { parameters := [], returnType := none }, accessFlags := 0, code := none }
def k10c1 : Code := { maxStack := 2, maxLocals := 2, code := jdk_52_method_15_code, exceptionTable := #[], attributes := #[] }
def k10m1 : Method := { name := "coderFromArrayLen", desc := "([BI)B", sig := { parameters := [(.array .byte), .int], returnType := some .byte }, accessFlags := 8, code := some k10c1 }
def k10c2 : Code := { maxStack := 5, maxLocals := 6, code := jdk_52_method_16_code, exceptionTable := #[], attributes := #[] }
def k10m2 : Method := { name := "compress", desc := "([CII)[B", sig := { parameters := [(.array .char), .int, .int], returnType := some (.array .byte) }, accessFlags := 9, code := some k10c2 }
def k10c3 : Code := { maxStack := 3, maxLocals := 7, code := jdk_52_method_21_code, exceptionTable := #[], attributes := #[] }
def k10m3 : Method := { name := "compress", desc := "([CI[BII)I", sig := { parameters := [(.array .char), .int, (.array .byte), .int, .int], returnType := some .int }, accessFlags := 9, code := some k10c3 }
/-- java/lang/StringUTF16 -/
def k10 : Class := { plain "java/lang/StringUTF16" (some 0) with
  accessFlags := 48
  interfaces := #[]
  cf := some (fileOf pool10 12 #[.nestMembers #[627, 629, 369]] #[{ accessFlags := 0, nameIndex := 9, descriptorIndex := 10, attributes := #[] }, { accessFlags := 8, nameIndex := 261, descriptorIndex := 262, attributes := #[] }, { accessFlags := 9, nameIndex := 117, descriptorIndex := 122, attributes := #[] }, { accessFlags := 9, nameIndex := 117, descriptorIndex := 118, attributes := #[] }] 48 6 #[] #[{ accessFlags := 26, nameIndex := 61, descriptorIndex := 62, attributes := #[] }, { accessFlags := 26, nameIndex := 65, descriptorIndex := 62, attributes := #[] }, { accessFlags := 24, nameIndex := 430, descriptorIndex := 62, attributes := #[] }, { accessFlags := 4120, nameIndex := 46, descriptorIndex := 47, attributes := #[] }])
  fields := #[{ name := "HI_BYTE_SHIFT", type := .int, accessFlags := 26, slot := 0, constantValue := 0 }, { name := "LO_BYTE_SHIFT", type := .int, accessFlags := 26, slot := 1, constantValue := 0 }, { name := "MAX_LENGTH", type := .int, accessFlags := 24, slot := 2, constantValue := 0 }, { name := "$assertionsDisabled", type := .boolean, accessFlags := 4120, slot := 3, constantValue := 0 }]
  methods := #[k10m0, k10m1, k10m2, k10m3]
  instanceTypes := #[]
  staticTypes := #[.int, .int, .int, .boolean]
  resolved := Array.replicate 635 none
  statics := none }

def pool11 : Array CpInfo := pool [(2, .class_ 4), (1, u "java/lang/Object"), (0, u "<init>"), (0, u "()V"), (17, .class_ 26), (1, u "jdk/internal/util/Preconditions"), (28, .class_ 56), (0, u "jdk/internal/util/Preconditions$4"), (57, .class_ 115), (0, u "jdk/internal/util/Preconditions$1"), (7, u "SIOOBE_FORMATTER"), (0, u "Ljava/util/function/BiFunction;"), (0, .class_ 126), (0, u "jdk/internal/util/Preconditions$2"), (3, u "AIOOBE_FORMATTER"), (0, .class_ 132), (0, u "jdk/internal/util/Preconditions$3"), (3, u "IOOBE_FORMATTER")] 57

def k11m0 : Method := { name := "<init>", desc := "()V", sig := { parameters := [], returnType := none }, accessFlags := 1, code := none }
/-- jdk/internal/util/Preconditions -/
def k11 : Class := { plain "jdk/internal/util/Preconditions" (some 0) with
  accessFlags := 33
  interfaces := #[]
  cf := some (fileOf pool11 24 #[.nestMembers #[55, 131, 125, 114]] #[{ accessFlags := 1, nameIndex := 5, descriptorIndex := 6, attributes := #[] }] 33 2 #[] #[{ accessFlags := 25, nameIndex := 123, descriptorIndex := 124, attributes := #[] }, { accessFlags := 25, nameIndex := 130, descriptorIndex := 124, attributes := #[] }, { accessFlags := 25, nameIndex := 136, descriptorIndex := 124, attributes := #[] }])
  fields := #[{ name := "SIOOBE_FORMATTER", type := (.object "java/util/function/BiFunction"), accessFlags := 25, slot := 0, constantValue := 0 }, { name := "AIOOBE_FORMATTER", type := (.object "java/util/function/BiFunction"), accessFlags := 25, slot := 1, constantValue := 0 }, { name := "IOOBE_FORMATTER", type := (.object "java/util/function/BiFunction"), accessFlags := 25, slot := 2, constantValue := 0 }]
  methods := #[k11m0]
  instanceTypes := #[]
  staticTypes := #[(.object "java/util/function/BiFunction"), (.object "java/util/function/BiFunction"), (.object "java/util/function/BiFunction")]
  resolved := Array.replicate 194 none
  statics := some 1 }

def pool12 : Array CpInfo := pool [(9, u "<init>"), (6, .class_ 18), (1, u "java/lang/Object"), (0, u "()V"), (1, .class_ 23), (1, u "jdk/internal/util/ArraysSupport"), (0, u "LOG2_ARRAY_LONG_INDEX_SCALE"), (0, u "I"), (2, u "U"), (0, u "Ljdk/internal/misc/Unsafe;"), (8, u "BIG_ENDIAN"), (0, u "Z"), (8, u "LOG2_BYTE_BIT_SIZE"), (4, u "LOG2_ARRAY_INT_INDEX_SCALE"), (54, u "JLA"), (0, u "Ljdk/internal/access/JavaLangAccess;"), (11, u "LOG2_ARRAY_BOOLEAN_INDEX_SCALE"), (9, u "LOG2_ARRAY_BYTE_INDEX_SCALE"), (5, u "LOG2_ARRAY_CHAR_INDEX_SCALE"), (5, u "LOG2_ARRAY_SHORT_INDEX_SCALE"), (18, u "LOG2_ARRAY_FLOAT_INDEX_SCALE"), (24, u "LOG2_ARRAY_DOUBLE_INDEX_SCALE"), (89, u "T_BOOLEAN"), (2, u "T_CHAR"), (1, u "T_FLOAT"), (1, u "T_DOUBLE"), (1, u "T_BYTE"), (1, u "T_SHORT"), (1, u "T_INT"), (1, u "T_LONG"), (1, u "SOFT_MAX_ARRAY_LENGTH")] 83

def k12m0 : Method := { name := "<init>", desc := "()V", sig := { parameters := [], returnType := none }, accessFlags := 2, code := none }
/-- jdk/internal/util/ArraysSupport -/
def k12 : Class := { plain "jdk/internal/util/ArraysSupport" (some 0) with
  accessFlags := 33
  interfaces := #[]
  cf := some (fileOf pool12 21 #[] #[{ accessFlags := 2, nameIndex := 9, descriptorIndex := 19, attributes := #[] }] 33 16 #[] #[{ accessFlags := 24, nameIndex := 28, descriptorIndex := 29, attributes := #[] }, { accessFlags := 26, nameIndex := 38, descriptorIndex := 39, attributes := #[] }, { accessFlags := 25, nameIndex := 121, descriptorIndex := 25, attributes := #[] }, { accessFlags := 25, nameIndex := 131, descriptorIndex := 25, attributes := #[] }, { accessFlags := 25, nameIndex := 137, descriptorIndex := 25, attributes := #[] }, { accessFlags := 25, nameIndex := 143, descriptorIndex := 25, attributes := #[] }, { accessFlags := 25, nameIndex := 53, descriptorIndex := 25, attributes := #[] }, { accessFlags := 25, nameIndex := 24, descriptorIndex := 25, attributes := #[] }, { accessFlags := 25, nameIndex := 162, descriptorIndex := 25, attributes := #[] }, { accessFlags := 25, nameIndex := 187, descriptorIndex := 25, attributes := #[] }, { accessFlags := 26, nameIndex := 48, descriptorIndex := 25, attributes := #[] }, { accessFlags := 25, nameIndex := 277, descriptorIndex := 25, attributes := #[] }, { accessFlags := 25, nameIndex := 280, descriptorIndex := 25, attributes := #[] }, { accessFlags := 25, nameIndex := 282, descriptorIndex := 25, attributes := #[] }, { accessFlags := 25, nameIndex := 284, descriptorIndex := 25, attributes := #[] }, { accessFlags := 25, nameIndex := 286, descriptorIndex := 25, attributes := #[] }, { accessFlags := 25, nameIndex := 288, descriptorIndex := 25, attributes := #[] }, { accessFlags := 25, nameIndex := 290, descriptorIndex := 25, attributes := #[] }, { accessFlags := 25, nameIndex := 292, descriptorIndex := 25, attributes := #[] }, { accessFlags := 26, nameIndex := 108, descriptorIndex := 109, attributes := #[] }, { accessFlags := 25, nameIndex := 294, descriptorIndex := 25, attributes := #[] }])
  fields := #[{ name := "U", type := (.object "jdk/internal/misc/Unsafe"), accessFlags := 24, slot := 0, constantValue := 0 }, { name := "BIG_ENDIAN", type := .boolean, accessFlags := 26, slot := 1, constantValue := 0 }, { name := "LOG2_ARRAY_BOOLEAN_INDEX_SCALE", type := .int, accessFlags := 25, slot := 2, constantValue := 0 }, { name := "LOG2_ARRAY_BYTE_INDEX_SCALE", type := .int, accessFlags := 25, slot := 3, constantValue := 0 }, { name := "LOG2_ARRAY_CHAR_INDEX_SCALE", type := .int, accessFlags := 25, slot := 4, constantValue := 0 }, { name := "LOG2_ARRAY_SHORT_INDEX_SCALE", type := .int, accessFlags := 25, slot := 5, constantValue := 0 }, { name := "LOG2_ARRAY_INT_INDEX_SCALE", type := .int, accessFlags := 25, slot := 6, constantValue := 0 }, { name := "LOG2_ARRAY_LONG_INDEX_SCALE", type := .int, accessFlags := 25, slot := 7, constantValue := 0 }, { name := "LOG2_ARRAY_FLOAT_INDEX_SCALE", type := .int, accessFlags := 25, slot := 8, constantValue := 0 }, { name := "LOG2_ARRAY_DOUBLE_INDEX_SCALE", type := .int, accessFlags := 25, slot := 9, constantValue := 0 }, { name := "LOG2_BYTE_BIT_SIZE", type := .int, accessFlags := 26, slot := 10, constantValue := 0 }, { name := "T_BOOLEAN", type := .int, accessFlags := 25, slot := 11, constantValue := 0 }, { name := "T_CHAR", type := .int, accessFlags := 25, slot := 12, constantValue := 0 }, { name := "T_FLOAT", type := .int, accessFlags := 25, slot := 13, constantValue := 0 }, { name := "T_DOUBLE", type := .int, accessFlags := 25, slot := 14, constantValue := 0 }, { name := "T_BYTE", type := .int, accessFlags := 25, slot := 15, constantValue := 0 }, { name := "T_SHORT", type := .int, accessFlags := 25, slot := 16, constantValue := 0 }, { name := "T_INT", type := .int, accessFlags := 25, slot := 17, constantValue := 0 }, { name := "T_LONG", type := .int, accessFlags := 25, slot := 18, constantValue := 0 }, { name := "JLA", type := (.object "jdk/internal/access/JavaLangAccess"), accessFlags := 26, slot := 19, constantValue := 0 }, { name := "SOFT_MAX_ARRAY_LENGTH", type := .int, accessFlags := 25, slot := 20, constantValue := 0 }]
  methods := #[k12m0]
  instanceTypes := #[]
  staticTypes := #[(.object "jdk/internal/misc/Unsafe"), .boolean, .int, .int, .int, .int, .int, .int, .int, .int, .int, .int, .int, .int, .int, .int, .int, .int, .int, (.object "jdk/internal/access/JavaLangAccess"), .int]
  resolved := Array.replicate 378 none
  statics := none }

def pool13 : Array CpInfo := pool [(1, u "java/lang/Cloneable"), (0, .class_ 1), (0, u "java/lang/Object"), (0, .class_ 3)] 3

/-- java/lang/Cloneable -/
def k13 : Class := { plain "java/lang/Cloneable" (some 0) with
  accessFlags := 1537
  interfaces := #[]
  cf := some (fileOf pool13 2 #[] #[] 1537 4 #[] #[])
  fields := #[]
  methods := #[]
  instanceTypes := #[]
  staticTypes := #[]
  resolved := Array.replicate 8 none
  statics := none }

/-- the primitive byte -/
def k14 : Class := { plain "byte" none with kind := .primitive 'B', accessFlags := 0x411 }
/-- [B -/
def k15 : Class := { plain "[B" (some 0) with kind := .array 14 .byte, interfaces := #[13, 3], accessFlags := 1041 }

/-- the primitive char -/
def k16 : Class := { plain "char" none with kind := .primitive 'C', accessFlags := 0x411 }
/-- [C -/
def k17 : Class := { plain "[C" (some 0) with kind := .array 16 .char, interfaces := #[13, 3], accessFlags := 1041 }

/-- the primitive int -/
def k18 : Class := { plain "int" none with kind := .primitive 'I', accessFlags := 0x411 }
/-- [I -/
def k19 : Class := { plain "[I" (some 0) with kind := .array 18 .int, interfaces := #[13, 3], accessFlags := 1041 }

def heap : Heap := #[{ cls := 8, slots := #[.long 0, .int 1, .null, .int 0, .null, .int 0, .int 0], vm := .statics 8 },
  { cls := 11, slots := #[.null, .null, .null], vm := .statics 11 }]
def classes : Array Class := #[k0, k1, k2, k3, k4, k5, k6, k7, k8, k9, k10, k11, k12, k13, k14, k15, k16, k17, k18, k19]
def interned : List (Array UInt16 × Addr) := []
def slotsUsed : Nat := 10
def theMethod : MethodId := ⟨1, 4⟩
def args0 : Array Value := #[.int 5, .int 5, .int 5, .int 5, .int 5]
def aboutOver (below : List Frame) : State where
  vm := { classes := classes, interned := interned.toArray }
  heap := heap
  slotsUsed := slotsUsed
  threads := #[{ frames := .invoking theMethod args0 :: below }]
def below0 : List Frame := [.native { method := ⟨0, 0⟩, args := #[] }]
def about1 : State := aboutOver below0
def p0 : Program := .bare "" "" ""
def e0 : Env := launch0.env 0 0 0
theorem w_frames : about1.frames = Frame.invoking theMethod args0 :: below0 := rfl
set_option maxRecDepth 65536 in
theorem w_args : argsFit about1.vm theMethod args0 = true := by decide +kernel
set_option maxRecDepth 65536 in
theorem w_heap : heapFits about1 = true := by decide +kernel
set_option maxRecDepth 65536 in
theorem w_runnable : about1.curStatus? = some .runnable := by decide +kernel
set_option maxRecDepth 65536 in
theorem w_alone : about1.alone = true := by decide +kernel
set_option maxRecDepth 65536 in
theorem w_named : about1.methodNamed? x = some theMethod := by decide +kernel
set_option maxRecDepth 65536 in
theorem w_hears : about1.hears theMethod below0 = true := by decide +kernel
set_option maxRecDepth 65536 in
theorem w_ripe : about1.ripe theMethod args0 below0 = true := by decide +kernel
theorem w_running : about1.status = .running := rfl
set_option maxRecDepth 65536 in
theorem w_room : about1.hasRoom e0.platform room_1 = true :=
  launch0.hasRoom_least _ room_1 (by decide +kernel) (by decide +kernel) (by decide +kernel) (by decide +kernel) (by decide +kernel) (by decide +kernel)
theorem allAtoms_all (ts : List Jvm.Cond) (a : Array Jvm.Value) (st : Jvm.State) : (allAtoms ts).before a st = ts.all (fun c => c.before a st) := by
  induction ts with
  | nil => rfl
  | cons c t ih =>
    show (Jvm.Cond.and c (allAtoms t)).before a st = _
    rw [Jvm.Cond.before_and, ih, List.all_cons]
def words1 : List Jvm.Cond := Jvm.Cond.code x code maxLocals ret :: tables_1
/-- a 'code' word, met by the world's own term for the bytes: nothing is compared byte by byte -/
theorem code_word {y : MethodName} {bytes : ByteArray} {mx : Nat} {rt : Option FieldType} {a : Array Value} {s : State} {m : MethodId} {meth : Method} {c : Code} (h1 : s.methodNamed? y = some m) (h2 : s.vm.method? m = some meth) (h3 : meth.code = some c) (h4 : c.code = bytes)
    (h5 : (c.maxLocals == mx && c.exceptionTable.isEmpty && decide (c.maxStack ≤ mostOperands) && decide (meth.sig.returnType = rt) && !meth.locks && decide (parseMethodDescriptor y.desc = some meth.sig)) = true) : (Jvm.Cond.code y bytes mx rt).before a s = true := by
  simp only [Bool.and_eq_true, beq_iff_eq, Bool.not_eq_true', decide_eq_true_eq] at h5
  obtain ⟨⟨⟨⟨⟨g1, g2⟩, g3⟩, g4⟩, g5⟩, g6⟩ := h5
  simp [Cond.before, Cond.holds, Cond.value, h1, h2, h3, h4, g1, g2, g3, g4, g5, g6]
def isCode : Jvm.Cond → Bool
  | .code _ _ _ _ => true
  | _ => false
theorem all_split {L : List Jvm.Cond} {P : Jvm.Cond → Bool} (h1 : L.all (fun c => isCode c || P c) = true) (h2 : ∀ c ∈ L.filter isCode, P c = true) : L.all P = true := by
  refine List.all_eq_true.mpr fun c hc => ?_
  have h := List.all_eq_true.mp h1 c hc
  rcases Bool.eq_false_or_eq_true (isCode c) with hi | hi
  · exact h2 c (List.mem_filter.mpr ⟨hc, hi⟩)
  · simpa [hi] using h
set_option maxRecDepth 65536 in
theorem w_c0 : (Jvm.Cond.code x code maxLocals ret).before args0 about1 = true := code_word (m := ⟨1, 4⟩) (meth := k1m4) (c := k1c4) (by decide +kernel) rfl rfl rfl (by decide +kernel)
set_option maxRecDepth 65536 in
theorem w_c1 : (Jvm.Cond.code ({ cls := "com/example/marshal_lock/marshallock/internal/HoldEqualsPinLaw", name := "str", desc := "(I)Ljava/lang/String;" } : Jvm.MethodName) method_3_code (3 : Nat) (Option.some (Jvm.ClassFile.FieldType.object "java/lang/String"))).before args0 about1 = true := code_word (m := ⟨1, 2⟩) (meth := k1m2) (c := k1c2) (by decide +kernel) rfl rfl rfl (by decide +kernel)
set_option maxRecDepth 65536 in
theorem w_c2 : (Jvm.Cond.code ({ cls := "com/example/marshal_lock/marshallock/internal/HoldEqualsPinLaw", name := "len", desc := "(I)I" } : Jvm.MethodName) method_2_code (1 : Nat) (Option.some Jvm.ClassFile.FieldType.int)).before args0 about1 = true := code_word (m := ⟨1, 1⟩) (meth := k1m1) (c := k1c1) (by decide +kernel) rfl rfl rfl (by decide +kernel)
set_option maxRecDepth 65536 in
theorem w_c3 : (Jvm.Cond.code ({ cls := "java/lang/String", name := "<init>", desc := "([C)V" } : Jvm.MethodName) jdk_42_method_3_code (2 : Nat) (Option.none : Option Jvm.ClassFile.FieldType)).before args0 about1 = true := code_word (m := ⟨8, 1⟩) (meth := k8m1) (c := k8c1) (by decide +kernel) rfl rfl rfl (by decide +kernel)
set_option maxRecDepth 65536 in
theorem w_c4 : (Jvm.Cond.code ({ cls := "java/lang/String", name := "<init>", desc := "([CIILjava/lang/Void;)V" } : Jvm.MethodName) jdk_42_method_149_code (6 : Nat) (Option.none : Option Jvm.ClassFile.FieldType)).before args0 about1 = true := code_word (m := ⟨8, 3⟩) (meth := k8m3) (c := k8c3) (by decide +kernel) rfl rfl rfl (by decide +kernel)
set_option maxRecDepth 65536 in
theorem w_c5 : (Jvm.Cond.code ({ cls := "java/lang/Object", name := "<init>", desc := "()V" } : Jvm.MethodName) object_method_1_code (1 : Nat) (Option.none : Option Jvm.ClassFile.FieldType)).before args0 about1 = true := code_word (m := ⟨0, 0⟩) (meth := k0m0) (c := k0c0) (by decide +kernel) rfl rfl rfl (by decide +kernel)
set_option maxRecDepth 65536 in
theorem w_c6 : (Jvm.Cond.code ({ cls := "com/example/marshal_lock/marshallock/internal/Hold", name := "<init>", desc := "(Ljava/lang/String;Ljava/lang/String;)V" } : Jvm.MethodName) prog_6_method_1_code (3 : Nat) (Option.none : Option Jvm.ClassFile.FieldType)).before args0 about1 = true := code_word (m := ⟨2, 0⟩) (meth := k2m0) (c := k2c0) (by decide +kernel) rfl rfl rfl (by decide +kernel)
set_option maxRecDepth 65536 in
theorem w_c7 : (Jvm.Cond.code ({ cls := "com/example/marshal_lock/marshallock/internal/HoldEqualsPinLaw", name := "sameStr", desc := "(II)Z" } : Jvm.MethodName) method_4_code (3 : Nat) (Option.some Jvm.ClassFile.FieldType.boolean)).before args0 about1 = true := code_word (m := ⟨1, 3⟩) (meth := k1m3) (c := k1c3) (by decide +kernel) rfl rfl rfl (by decide +kernel)
set_option maxRecDepth 65536 in
theorem w_c8 : (Jvm.Cond.code ({ cls := "com/example/marshal_lock/marshallock/internal/Hold", name := "equals", desc := "(Ljava/lang/Object;)Z" } : Jvm.MethodName) prog_6_method_4_code (3 : Nat) (Option.some Jvm.ClassFile.FieldType.boolean)).before args0 about1 = true := code_word (m := ⟨2, 1⟩) (meth := k2m1) (c := k2c1) (by decide +kernel) rfl rfl rfl (by decide +kernel)
set_option maxRecDepth 65536 in
theorem w_c9 : (Jvm.Cond.code ({ cls := "java/lang/String", name := "equals", desc := "(Ljava/lang/Object;)Z" } : Jvm.MethodName) jdk_42_method_66_code (3 : Nat) (Option.some Jvm.ClassFile.FieldType.boolean)).before args0 about1 = true := code_word (m := ⟨8, 2⟩) (meth := k8m2) (c := k8c2) (by decide +kernel) rfl rfl rfl (by decide +kernel)
set_option maxRecDepth 65536 in
theorem w_c10 : (Jvm.Cond.code ({ cls := "java/lang/StringLatin1", name := "equals", desc := "([B[B)Z" } : Jvm.MethodName) jdk_43_method_13_code (3 : Nat) (Option.some Jvm.ClassFile.FieldType.boolean)).before args0 about1 = true := code_word (m := ⟨9, 1⟩) (meth := k9m1) (c := k9c1) (by decide +kernel) rfl rfl rfl (by decide +kernel)
set_option maxRecDepth 65536 in
theorem w_c11 : (Jvm.Cond.code ({ cls := "java/lang/StringUTF16", name := "compress", desc := "([CII)[B" } : Jvm.MethodName) jdk_52_method_16_code (6 : Nat) (Option.some (Jvm.ClassFile.FieldType.array Jvm.ClassFile.FieldType.byte))).before args0 about1 = true := code_word (m := ⟨10, 2⟩) (meth := k10m2) (c := k10c2) (by decide +kernel) rfl rfl rfl (by decide +kernel)
set_option maxRecDepth 65536 in
theorem w_c12 : (Jvm.Cond.code ({ cls := "java/lang/StringUTF16", name := "compress", desc := "([CI[BII)I" } : Jvm.MethodName) jdk_52_method_21_code (7 : Nat) (Option.some Jvm.ClassFile.FieldType.int)).before args0 about1 = true := code_word (m := ⟨10, 3⟩) (meth := k10m3) (c := k10c3) (by decide +kernel) rfl rfl rfl (by decide +kernel)
set_option maxRecDepth 65536 in
theorem w_c13 : (Jvm.Cond.code ({ cls := "java/lang/StringUTF16", name := "coderFromArrayLen", desc := "([BI)B" } : Jvm.MethodName) jdk_52_method_15_code (2 : Nat) (Option.some Jvm.ClassFile.FieldType.byte)).before args0 about1 = true := code_word (m := ⟨10, 1⟩) (meth := k10m1) (c := k10c1) (by decide +kernel) rfl rfl rfl (by decide +kernel)
def codes1 : List Jvm.Cond := [Jvm.Cond.code x code maxLocals ret, Jvm.Cond.code ({ cls := "com/example/marshal_lock/marshallock/internal/HoldEqualsPinLaw", name := "str", desc := "(I)Ljava/lang/String;" } : Jvm.MethodName) method_3_code (3 : Nat) (Option.some (Jvm.ClassFile.FieldType.object "java/lang/String")), Jvm.Cond.code ({ cls := "com/example/marshal_lock/marshallock/internal/HoldEqualsPinLaw", name := "len", desc := "(I)I" } : Jvm.MethodName) method_2_code (1 : Nat) (Option.some Jvm.ClassFile.FieldType.int), Jvm.Cond.code ({ cls := "java/lang/String", name := "<init>", desc := "([C)V" } : Jvm.MethodName) jdk_42_method_3_code (2 : Nat) (Option.none : Option Jvm.ClassFile.FieldType), Jvm.Cond.code ({ cls := "java/lang/String", name := "<init>", desc := "([CIILjava/lang/Void;)V" } : Jvm.MethodName) jdk_42_method_149_code (6 : Nat) (Option.none : Option Jvm.ClassFile.FieldType), Jvm.Cond.code ({ cls := "java/lang/Object", name := "<init>", desc := "()V" } : Jvm.MethodName) object_method_1_code (1 : Nat) (Option.none : Option Jvm.ClassFile.FieldType), Jvm.Cond.code ({ cls := "com/example/marshal_lock/marshallock/internal/Hold", name := "<init>", desc := "(Ljava/lang/String;Ljava/lang/String;)V" } : Jvm.MethodName) prog_6_method_1_code (3 : Nat) (Option.none : Option Jvm.ClassFile.FieldType), Jvm.Cond.code ({ cls := "com/example/marshal_lock/marshallock/internal/HoldEqualsPinLaw", name := "sameStr", desc := "(II)Z" } : Jvm.MethodName) method_4_code (3 : Nat) (Option.some Jvm.ClassFile.FieldType.boolean), Jvm.Cond.code ({ cls := "com/example/marshal_lock/marshallock/internal/Hold", name := "equals", desc := "(Ljava/lang/Object;)Z" } : Jvm.MethodName) prog_6_method_4_code (3 : Nat) (Option.some Jvm.ClassFile.FieldType.boolean), Jvm.Cond.code ({ cls := "java/lang/String", name := "equals", desc := "(Ljava/lang/Object;)Z" } : Jvm.MethodName) jdk_42_method_66_code (3 : Nat) (Option.some Jvm.ClassFile.FieldType.boolean), Jvm.Cond.code ({ cls := "java/lang/StringLatin1", name := "equals", desc := "([B[B)Z" } : Jvm.MethodName) jdk_43_method_13_code (3 : Nat) (Option.some Jvm.ClassFile.FieldType.boolean), Jvm.Cond.code ({ cls := "java/lang/StringUTF16", name := "compress", desc := "([CII)[B" } : Jvm.MethodName) jdk_52_method_16_code (6 : Nat) (Option.some (Jvm.ClassFile.FieldType.array Jvm.ClassFile.FieldType.byte)), Jvm.Cond.code ({ cls := "java/lang/StringUTF16", name := "compress", desc := "([CI[BII)I" } : Jvm.MethodName) jdk_52_method_21_code (7 : Nat) (Option.some Jvm.ClassFile.FieldType.int), Jvm.Cond.code ({ cls := "java/lang/StringUTF16", name := "coderFromArrayLen", desc := "([BI)B" } : Jvm.MethodName) jdk_52_method_15_code (2 : Nat) (Option.some Jvm.ClassFile.FieldType.byte)]
set_option maxRecDepth 65536 in
theorem codes_eq : words1.filter isCode = codes1 := rfl
theorem w_codes : ∀ c ∈ words1.filter isCode, c.before args0 about1 = true := by
  rw [codes_eq]
  intro c hc
  simp only [codes1, List.mem_cons, List.not_mem_nil, or_false] at hc
  rcases hc with rfl | rfl | rfl | rfl | rfl | rfl | rfl | rfl | rfl | rfl | rfl | rfl | rfl | rfl
  · exact w_c0
  · exact w_c1
  · exact w_c2
  · exact w_c3
  · exact w_c4
  · exact w_c5
  · exact w_c6
  · exact w_c7
  · exact w_c8
  · exact w_c9
  · exact w_c10
  · exact w_c11
  · exact w_c12
  · exact w_c13
set_option maxRecDepth 65536 in
theorem w_t1 : (words1.take 24).all (fun c => isCode c || c.before args0 about1) = true := by decide +kernel
set_option maxRecDepth 65536 in
theorem w_t2 : ((words1.drop 24).take 24).all (fun c => isCode c || c.before args0 about1) = true := by decide +kernel
set_option maxRecDepth 65536 in
theorem w_t3 : (((words1.drop 24).drop 24).take 24).all (fun c => isCode c || c.before args0 about1) = true := by decide +kernel
set_option maxRecDepth 65536 in
theorem w_t4 : (((words1.drop 24).drop 24).drop 24).all (fun c => isCode c || c.before args0 about1) = true := by decide +kernel
theorem w_tables : (allAtoms (Jvm.Cond.code x code maxLocals ret :: tables_1)).before args0 about1 = true := by
  rw [allAtoms_all]
  show words1.all (fun c => c.before args0 about1) = true
  refine all_split ?_ w_codes
  rw [← List.take_append_drop 24 words1, List.all_append, w_t1, ← List.take_append_drop 24 (words1.drop 24), List.all_append, w_t2, ← List.take_append_drop 24 ((words1.drop 24).drop 24), List.all_append, w_t3, w_t4]
  rfl
set_option maxRecDepth 65536 in
theorem w_rest : rest_1_c.before args0 about1 = true := by decide +kernel
set_option maxRecDepth 65536 in
theorem w_case : (Jvm.Cond.and given_1 narrow_1).before args0 about1 = true := by decide +kernel
set_option maxRecDepth 65536 in
theorem w_consts : constsHeld consts_1 about1 := Jvm.Lit.constsHeldB_iff.mp (by decide +kernel)
theorem w_applies : (headSpec (Jvm.Cond.code x code maxLocals ret :: tables_1) room_1).applies x e0.platform about1 = true :=
  (Spec.applies_iff w_frames).mpr ⟨w_running, w_runnable, w_alone, w_named, w_hears, w_ripe, w_room, w_tables⟩
theorem atStart : AtStart classFile x code maxLocals ret World_1 tables_1 room_1 Calls_1 rest_1 Pre_1 launch0 p0 e0 about1 theMethod args0 below0 :=
  ⟨lists_1, trivial, launch0.admits_env _ _ _, launch0.least_env, fairChoices_fair.cas, fairChoices_fair.clock, w_frames, w_args, w_heap, w_applies, ⟨w_consts, trivial⟩, w_rest, w_case⟩
end start1
theorem witness_1 : WitnessClaimed_1 := ⟨start1.p0, start1.e0, start1.about1, start1.theMethod, start1.args0, start1.below0, start1.atStart⟩
end Jvm.Pilot.@@N@@
