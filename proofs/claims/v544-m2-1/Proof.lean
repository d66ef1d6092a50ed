import JvmDerived
import JvmDerived.Pilot.@@N@@Statement
import JvmDerived.Pilot.@@N@@Code
set_option linter.unusedVariables false
set_option linter.unusedSimpArgs false
namespace Jvm.Pilot.@@N@@
open Jvm Jvm.ClassFile Sem Op Lib Jvm.Free Jvm.Stand Jvm.LawKit Jvm.RoadKit Bundle Jvm.Pilot.@@N@@.Jvm.D
set_option maxRecDepth 65536
/-! the run still has to be led to its end from A: the goal of a walk, taken step by step -/
def own_Go (p : Program) (e : Env) (below : List Frame) (s : State) (Q : Option Value → Heap → List Loc → Prop) (C S : Nat) (A : State) : Prop :=
  ∃ s₂ o, Steps p.tables e below A s₂ ∧ s₂.status = .running ∧ Ended s₂ below o ∧ ∃ v L, o = .returned v ∧ Q v s₂.heap L ∧ FrameEnd s o s₂ L C S
section OwnA
variable {p : Program} {l : Launch} {e : Env} {R : Room} {s : State} {m : MethodId} {args : Array Value} {below : List Frame} {meth : Method} {c : Code} {T : State} {locs : List Loc} {cells slots : Nat} {Q : Option Value → Heap → List Loc → Prop} {C S : Nat}
theorem own_st {A B : State} (h : ∀ t, Steps p.tables e below B t → Steps p.tables e below A t) (g : own_Go p e below s Q C S B) : own_Go p e below s Q C S A := by
  obtain ⟨s₂, o, h1, r⟩ := g
  exact ⟨s₂, o, h _ h1, r⟩
theorem own_ss {A B : State} (h : Steps p.tables e below A B) (g : own_Go p e below s Q C S B) : own_Go p e below s Q C S A := own_st (fun _ k => h.trans k) g
theorem own_cut {P G : Prop} (a : P → G) (b : P) : G := a b
theorem own_leave (X : Stand p l e R s m args below meth c T locs cells slots) {v : Option Value} (hv : meth.sig.returnType = none → v = none) (hlk : meth.locks = false) (hQ : Q v T.heap locs) (hc : cells ≤ C) (hs : slots ≤ S) {A : State}
    (hr : ∀ fs, (∀ (f : JFrame) (acts : List Action), f.method = m → f.locked = none → f.entered = [] → (doReturn e (T.setTop f) acts v).1 = T.setFrames fs) → Steps p.tables e below A (T.setFrames fs)) : own_Go p e below s Q C S A := by
  obtain ⟨fs, hr', hrun, hended, hW, hsame⟩ := X.leave (v := v) hv hlk
  exact ⟨_, _, hr fs hr', hrun, hended, _, _, rfl, hQ, ⟨_, rfl⟩, hW, hsame.mono hc hs⟩
theorem own_retV (X : Stand p l e R s m args below meth c T locs cells slots) (hx : p.tables.exec = Jvm.exec) (hlk : meth.locks = false) (hret : meth.sig.returnType = none) {pc : Nat} {Ls : Array Slot} (hd : decode c.code pc = .ok (.return_, 1)) (hc : cells ≤ C) (hs : slots ≤ S) (hQ : Q none T.heap locs) :
    own_Go p e below s Q C S (T.setTop (mkF m pc Ls [])) := own_leave X (fun _ => rfl) hlk hQ hc hs fun _ hr => X.returnOut hx hret hd hr
theorem own_retI (X : Stand p l e R s m args below meth c T locs cells slots) (hx : p.tables.exec = Jvm.exec) (hlk : meth.locks = false) (hret : meth.sig.returnType = some .int) {pc : Nat} {Ls : Array Slot} {z : Int32} {rest : List Value} (hd : decode c.code pc = .ok (.ireturn, 1)) (hc : cells ≤ C) (hs : slots ≤ S) (hQ : Q (some (.int z)) T.heap locs) :
    own_Go p e below s Q C S (T.setTop (mkF m pc Ls (.int z :: rest))) := own_leave X (fun h => by rw [hret] at h; cases h) hlk hQ hc hs fun _ hr => retOut X hx hret rfl (Or.inl ⟨rfl, Or.inl rfl, _, rfl⟩) hd hr
theorem own_retJ (X : Stand p l e R s m args below meth c T locs cells slots) (hx : p.tables.exec = Jvm.exec) (hlk : meth.locks = false) (hret : meth.sig.returnType = some .long) {pc : Nat} {Ls : Array Slot} {z : Int64} {rest : List Value} (hd : decode c.code pc = .ok (.lreturn, 1)) (hc : cells ≤ C) (hs : slots ≤ S) (hQ : Q (some (.long z)) T.heap locs) :
    own_Go p e below s Q C S (T.setTop (mkF m pc Ls (.long z :: rest))) := own_leave X (fun h => by rw [hret] at h; cases h) hlk hQ hc hs fun _ hr => retOut X hx hret rfl (Or.inr (Or.inl ⟨rfl, rfl, _, rfl⟩)) hd hr
theorem own_retR (X : Stand p l e R s m args below meth c T locs cells slots) (hx : p.tables.exec = Jvm.exec) (hlk : meth.locks = false) {t : FieldType} (hret : meth.sig.returnType = some t) (ht : t.isReference = true) {pc : Nat} {Ls : Array Slot} {w : Value} {rest : List Value} (hn : narrow t w = w) (hw : w.isRef = true) (hd : decode c.code pc = .ok (.areturn, 1)) (hc : cells ≤ C) (hs : slots ≤ S) (hQ : Q (some w) T.heap locs) :
    own_Go p e below s Q C S (T.setTop (mkF m pc Ls (w :: rest))) := own_leave X (fun h => by rw [hret] at h; cases h) hlk hQ hc hs fun _ hr => retOut X hx hret hn (Or.inr (Or.inr (Or.inr (Or.inr ⟨rfl, ht, hw⟩)))) hd hr
theorem own_retN (X : Stand p l e R s m args below meth c T locs cells slots) (hx : p.tables.exec = Jvm.exec) (hlk : meth.locks = false) {t : FieldType} (hret : meth.sig.returnType = some t) (ht : t = .boolean ∨ t = .byte ∨ t = .char ∨ t = .short) {pc : Nat} {Ls : Array Slot} {z z' : Int32} {rest : List Value} (hz : nar t z = z') (hd : decode c.code pc = .ok (.ireturn, 1)) (hc : cells ≤ C) (hs : slots ≤ S) (hQ : Q (some (.int z')) T.heap locs) :
    own_Go p e below s Q C S (T.setTop (mkF m pc Ls (.int z :: rest))) := by
  subst hz
  exact own_leave X (fun h => by rw [hret] at h; cases h) hlk hQ hc hs fun _ hr => retN X hx hret ht hd hr
/-! arrays by the whole list of what they hold -/
variable {Z : State} {h h' : Heap} {a b : Addr} {ty : FieldType} {vs : List Value}
def own_A (Z : State) (h : Heap) (a : Addr) (ty : FieldType) (vs : List Value) : Prop := ∃ c : Cell, Arr Z h a c ty ∧ c.slots.toList = vs
theorem own_A.lt (F : own_A Z h a ty vs) : a < h.size := by obtain ⟨c, A, -⟩ := F; exact A.lt
theorem own_A.ext (F : own_A Z h a ty vs) (E : Ext h h') : own_A Z h' a ty vs := by obtain ⟨c, A, q⟩ := F; exact ⟨c, A.ext E, q⟩
theorem own_A.other {sl : Nat} {v : Value} (F : own_A Z h a ty vs) (W : Wr h h' b sl v) (q : a ≠ b) : own_A Z h' a ty vs := by obtain ⟨c, A, r⟩ := F; exact ⟨c, A.other W q, r⟩
theorem own_A.keep {ws : List Addr} (F : own_A Z h a ty vs) (K : Keep h h' ws) (q : a ∉ ws) : own_A Z h' a ty vs := by obtain ⟨c, A, r⟩ := F; exact ⟨c, ⟨K.2.1 a c A.1 q, A.2⟩, r⟩
theorem own_A.set {i : Nat} {v : Value} (F : own_A Z h a ty vs) (W : Wr h h' a i v) : own_A Z h' a ty (vs.set i v) := by
  obtain ⟨c, A, rfl⟩ := F
  exact ⟨_, A.same W, by simp [Cell.setSlot]⟩
theorem own_ix {j : Int32} {i : Nat} (hj : j.toInt = (i : Int)) : ¬ j < 0 ∧ j.toNatClampNeg = i := by
  refine ⟨?_, ?_⟩
  · rw [Int32.lt_iff_toInt_lt, hj]
    show ¬ ((i : Int) < 0)
    omega
  · have h1 : j.toNatClampNeg = j.toInt.toNat := rfl
    rw [h1, hj]; rfl
theorem own_in {cl : Cell} {j : Int32} {i : Nat} {v : Value} (hj : j.toInt = (i : Int)) (hv : cl.slots.toList[i]? = some v) : ¬ (j < 0 ∨ cl.slots.size ≤ j.toNatClampNeg) ∧ cl.slots[j.toNatClampNeg]? = some v := by
  obtain ⟨n0, n1⟩ := own_ix hj
  rw [n1]
  rw [Array.getElem?_toList] at hv
  refine ⟨?_, hv⟩
  have h2 := (Array.getElem?_eq_some_iff.mp hv).1
  rintro (q | q)
  · exact n0 q
  · omega
theorem own_ldI (X : Stand p l e R s m args below meth c T locs cells slots) (hx : p.tables.exec = Jvm.exec) (hZ : Z.Warmed39 s.vm) (eT : T.heap = h) (A : own_A Z h a .int vs) {j : Int32} {i : Nat} {v : Value} (hj : j.toInt = (i : Int)) (hv : vs[i]? = some v) {g : JFrame} (hg : g.method = m) {rest : List Value} (hs : g.stack = .int j :: .ref a :: rest) (hd : decode c.code g.pc = .ok (.iaload, 1)) {t : State}
    (k : Steps p.tables e below (T.setTop { g with pc := g.pc + 1, stack := v :: rest }) t) : Steps p.tables e below (T.setTop g) t := by
  obtain ⟨cl, A, rfl⟩ := A
  exact X.iaload hx (by rw [eT]; exact A.1) (State.isArrayOf_alike hZ.alike A.2.1) A.2.2 (own_in hj hv).1 (own_in hj hv).2 hg hs hd _ k
theorem own_ldJ (X : Stand p l e R s m args below meth c T locs cells slots) (hx : p.tables.exec = Jvm.exec) (hZ : Z.Warmed39 s.vm) (eT : T.heap = h) (A : own_A Z h a .long vs) {j : Int32} {i : Nat} {v : Value} (hj : j.toInt = (i : Int)) (hv : vs[i]? = some v) {g : JFrame} (hg : g.method = m) {rest : List Value} (hs : g.stack = .int j :: .ref a :: rest) (hd : decode c.code g.pc = .ok (.laload, 1)) {t : State}
    (k : Steps p.tables e below (T.setTop { g with pc := g.pc + 1, stack := v :: rest }) t) : Steps p.tables e below (T.setTop g) t := by
  obtain ⟨cl, A, rfl⟩ := A
  exact X.laload hx (by rw [eT]; exact A.1) (State.isArrayOf_alike hZ.alike A.2.1) A.2.2 (own_in hj hv).1 (own_in hj hv).2 hg hs hd _ k
theorem own_ldB (X : Stand p l e R s m args below meth c T locs cells slots) (hx : p.tables.exec = Jvm.exec) (hZ : Z.Warmed39 s.vm) (eT : T.heap = h) (A : own_A Z h a .byte vs) {j : Int32} {i : Nat} {v : Value} (hj : j.toInt = (i : Int)) (hv : vs[i]? = some v) {g : JFrame} (hg : g.method = m) {rest : List Value} (hs : g.stack = .int j :: .ref a :: rest) (hd : decode c.code g.pc = .ok (.baload, 1)) {t : State}
    (k : Steps p.tables e below (T.setTop { g with pc := g.pc + 1, stack := v :: rest }) t) : Steps p.tables e below (T.setTop g) t := by
  obtain ⟨cl, A, rfl⟩ := A
  exact X.baloadBytes hx (by rw [eT]; exact A.1) (State.isArrayOf_alike hZ.alike A.2.1) A.2.2 (own_in hj hv).1 (own_in hj hv).2 hg hs hd _ k
theorem own_ldZ (X : Stand p l e R s m args below meth c T locs cells slots) (hx : p.tables.exec = Jvm.exec) (hZ : Z.Warmed39 s.vm) (eT : T.heap = h) (A : own_A Z h a .boolean vs) {j : Int32} {i : Nat} {v : Value} (hj : j.toInt = (i : Int)) (hv : vs[i]? = some v) {g : JFrame} (hg : g.method = m) {rest : List Value} (hs : g.stack = .int j :: .ref a :: rest) (hd : decode c.code g.pc = .ok (.baload, 1)) {t : State}
    (k : Steps p.tables e below (T.setTop { g with pc := g.pc + 1, stack := v :: rest }) t) : Steps p.tables e below (T.setTop g) t := by
  obtain ⟨cl, A, rfl⟩ := A
  exact X.baloadBooleans hx (by rw [eT]; exact A.1) (State.isArrayOf_alike hZ.alike A.2.1) A.2.2 (own_in hj hv).1 (own_in hj hv).2 hg hs hd _ k
theorem own_ldS (X : Stand p l e R s m args below meth c T locs cells slots) (hx : p.tables.exec = Jvm.exec) (hZ : Z.Warmed39 s.vm) (eT : T.heap = h) (A : own_A Z h a .short vs) {j : Int32} {i : Nat} {v : Value} (hj : j.toInt = (i : Int)) (hv : vs[i]? = some v) {g : JFrame} (hg : g.method = m) {rest : List Value} (hs : g.stack = .int j :: .ref a :: rest) (hd : decode c.code g.pc = .ok (.saload, 1)) {t : State}
    (k : Steps p.tables e below (T.setTop { g with pc := g.pc + 1, stack := v :: rest }) t) : Steps p.tables e below (T.setTop g) t := by
  obtain ⟨cl, A, rfl⟩ := A
  exact X.saload hx (by rw [eT]; exact A.1) (State.isArrayOf_alike hZ.alike A.2.1) A.2.2 (own_in hj hv).1 (own_in hj hv).2 hg hs hd _ k
theorem own_ldC (X : Stand p l e R s m args below meth c T locs cells slots) (hx : p.tables.exec = Jvm.exec) (hZ : Z.Warmed39 s.vm) (eT : T.heap = h) (A : own_A Z h a .char vs) {j : Int32} {i : Nat} {v : Value} (hj : j.toInt = (i : Int)) (hv : vs[i]? = some v) {g : JFrame} (hg : g.method = m) {rest : List Value} (hs : g.stack = .int j :: .ref a :: rest) (hd : decode c.code g.pc = .ok (.caload, 1)) {t : State}
    (k : Steps p.tables e below (T.setTop { g with pc := g.pc + 1, stack := v :: rest }) t) : Steps p.tables e below (T.setTop g) t := by
  obtain ⟨cl, A, rfl⟩ := A
  exact X.caload hx (by rw [eT]; exact A.1) (State.isArrayOf_alike hZ.alike A.2.1) A.2.2 (own_in hj hv).1 (own_in hj hv).2 hg hs hd _ k
theorem own_ldR (X : Stand p l e R s m args below meth c T locs cells slots) (hx : p.tables.exec = Jvm.exec) (hZ : Z.Warmed39 s.vm) (eT : T.heap = h) (A : own_A Z h a ty vs) (hty : ty.isReference = true) {j : Int32} {i : Nat} {v : Value} (hj : j.toInt = (i : Int)) (hv : vs[i]? = some v) {g : JFrame} (hg : g.method = m) {rest : List Value} (hs : g.stack = .int j :: .ref a :: rest) (hd : decode c.code g.pc = .ok (.aaload, 1)) {t : State}
    (k : Steps p.tables e below (T.setTop { g with pc := g.pc + 1, stack := v :: rest }) t) : Steps p.tables e below (T.setTop g) t := by
  obtain ⟨cl, A, rfl⟩ := A
  exact X.aaload hx (by rw [eT]; exact A.1) (State.isArrayOf_alike hZ.alike A.2.1) hty A.2.2 (own_in hj hv).1 (own_in hj hv).2 hg hs hd _ k
theorem own_stI (X : Stand p l e R s m args below meth c T locs cells slots) (hx : p.tables.exec = Jvm.exec) (hZ : Z.Warmed39 s.vm) (eT : T.heap = h) (A : own_A Z h a .int vs) {j x : Int32} {i : Nat} (hj : j.toInt = (i : Int)) (hi : i < vs.length) {g : JFrame} (hg : g.method = m) {rest : List Value} (hs : g.stack = .int x :: .int j :: .ref a :: rest) (hd : decode c.code g.pc = .ok (.iastore, 1)) :
    ∃ T' h', Stand p l e R s m args below meth c T' (locs ++ [⟨a, i⟩]) cells slots ∧ T'.heap = h' ∧ Wr h h' a i (.int x) ∧ own_A Z h' a .int (vs.set i (.int x)) ∧ ∀ target, Steps p.tables e below (T'.setTop { g with pc := g.pc + 1, stack := rest }) target → Steps p.tables e below (T.setTop g) target := by
  obtain ⟨cl, A, rfl⟩ := A
  have hin := (own_in (cl := cl) (v := cl.slots.toList[i]) hj (List.getElem?_eq_getElem hi)).1
  obtain ⟨T', h', X', e', W', st⟩ := stI X hx hZ eT A (j := j) (x := x) hin hg hs hd
  rw [(own_ix hj).2] at X' W'
  exact ⟨T', h', X', e', W', own_A.set ⟨cl, A, rfl⟩ W', st⟩
theorem own_stJ (X : Stand p l e R s m args below meth c T locs cells slots) (hx : p.tables.exec = Jvm.exec) (hZ : Z.Warmed39 s.vm) (eT : T.heap = h) (A : own_A Z h a .long vs) {j : Int32} {x : Int64} {i : Nat} (hj : j.toInt = (i : Int)) (hi : i < vs.length) {g : JFrame} (hg : g.method = m) {rest : List Value} (hs : g.stack = .long x :: .int j :: .ref a :: rest) (hd : decode c.code g.pc = .ok (.lastore, 1)) :
    ∃ T' h', Stand p l e R s m args below meth c T' (locs ++ [⟨a, i⟩]) cells slots ∧ T'.heap = h' ∧ Wr h h' a i (.long x) ∧ own_A Z h' a .long (vs.set i (.long x)) ∧ ∀ target, Steps p.tables e below (T'.setTop { g with pc := g.pc + 1, stack := rest }) target → Steps p.tables e below (T.setTop g) target := by
  obtain ⟨cl, A, rfl⟩ := A
  have hin := (own_in (cl := cl) (v := cl.slots.toList[i]) hj (List.getElem?_eq_getElem hi)).1
  obtain ⟨T', h', X', e', W', st⟩ := stJ X hx hZ eT A (j := j) (x := x) hin hg hs hd
  rw [(own_ix hj).2] at X' W'
  exact ⟨T', h', X', e', W', own_A.set ⟨cl, A, rfl⟩ W', st⟩
theorem own_stB (X : Stand p l e R s m args below meth c T locs cells slots) (hx : p.tables.exec = Jvm.exec) (hZ : Z.Warmed39 s.vm) (eT : T.heap = h) (A : own_A Z h a .byte vs) {j x : Int32} {i : Nat} (hj : j.toInt = (i : Int)) (hi : i < vs.length) {g : JFrame} (hg : g.method = m) {rest : List Value} (hs : g.stack = .int x :: .int j :: .ref a :: rest) (hd : decode c.code g.pc = .ok (.bastore, 1)) :
    ∃ T' h', Stand p l e R s m args below meth c T' (locs ++ [⟨a, i⟩]) cells slots ∧ T'.heap = h' ∧ Wr h h' a i (.int x.toInt8.toInt32) ∧ own_A Z h' a .byte (vs.set i (.int x.toInt8.toInt32)) ∧ ∀ target, Steps p.tables e below (T'.setTop { g with pc := g.pc + 1, stack := rest }) target → Steps p.tables e below (T.setTop g) target := by
  obtain ⟨cl, A, rfl⟩ := A
  have hin := (own_in (cl := cl) (v := cl.slots.toList[i]) hj (List.getElem?_eq_getElem hi)).1
  obtain ⟨T', h', X', e', W', st⟩ := stB X hx hZ eT A (j := j) (x := x) hin hg hs hd
  rw [(own_ix hj).2] at X' W'
  exact ⟨T', h', X', e', W', own_A.set ⟨cl, A, rfl⟩ W', st⟩
theorem own_stS (X : Stand p l e R s m args below meth c T locs cells slots) (hx : p.tables.exec = Jvm.exec) (hZ : Z.Warmed39 s.vm) (eT : T.heap = h) (A : own_A Z h a .short vs) {j x : Int32} {i : Nat} (hj : j.toInt = (i : Int)) (hi : i < vs.length) {g : JFrame} (hg : g.method = m) {rest : List Value} (hs : g.stack = .int x :: .int j :: .ref a :: rest) (hd : decode c.code g.pc = .ok (.sastore, 1)) :
    ∃ T' h', Stand p l e R s m args below meth c T' (locs ++ [⟨a, i⟩]) cells slots ∧ T'.heap = h' ∧ Wr h h' a i (.int x.toInt16.toInt32) ∧ own_A Z h' a .short (vs.set i (.int x.toInt16.toInt32)) ∧ ∀ target, Steps p.tables e below (T'.setTop { g with pc := g.pc + 1, stack := rest }) target → Steps p.tables e below (T.setTop g) target := by
  obtain ⟨cl, A, rfl⟩ := A
  have hin := (own_in (cl := cl) (v := cl.slots.toList[i]) hj (List.getElem?_eq_getElem hi)).1
  obtain ⟨T', h', X', e', W', st⟩ := stS X hx hZ eT A (j := j) (x := x) hin hg hs hd
  rw [(own_ix hj).2] at X' W'
  exact ⟨T', h', X', e', W', own_A.set ⟨cl, A, rfl⟩ W', st⟩
theorem own_stC (X : Stand p l e R s m args below meth c T locs cells slots) (hx : p.tables.exec = Jvm.exec) (hZ : Z.Warmed39 s.vm) (eT : T.heap = h) (A : own_A Z h a .char vs) {j x : Int32} {i : Nat} (hj : j.toInt = (i : Int)) (hi : i < vs.length) {g : JFrame} (hg : g.method = m) {rest : List Value} (hs : g.stack = .int x :: .int j :: .ref a :: rest) (hd : decode c.code g.pc = .ok (.castore, 1)) :
    ∃ T' h', Stand p l e R s m args below meth c T' (locs ++ [⟨a, i⟩]) cells slots ∧ T'.heap = h' ∧ Wr h h' a i (.int x.toUInt32.toUInt16.toUInt32.toInt32) ∧ own_A Z h' a .char (vs.set i (.int x.toUInt32.toUInt16.toUInt32.toInt32)) ∧ ∀ target, Steps p.tables e below (T'.setTop { g with pc := g.pc + 1, stack := rest }) target → Steps p.tables e below (T.setTop g) target := by
  obtain ⟨cl, A, rfl⟩ := A
  have hin := (own_in (cl := cl) (v := cl.slots.toList[i]) hj (List.getElem?_eq_getElem hi)).1
  obtain ⟨T', h', X', e', W', st⟩ := stC X hx hZ eT A (j := j) (x := x) hin hg hs hd
  rw [(own_ix hj).2] at X' W'
  exact ⟨T', h', X', e', W', own_A.set ⟨cl, A, rfl⟩ W', st⟩
theorem own_newP {a0 : Array Value} (X : Stand p l e R s m args below meth c T locs cells slots) (hx : p.tables.exec = Jvm.exec) (hZ : Z.Warmed39 s.vm) {aty : ArrayType} (w : (Cond.arrayClass (newarray.typeOf aty)).before a0 Z = true) (eT : T.heap = h) {g : JFrame} (hg : g.method = m) (hd : decode c.code g.pc = .ok (.newarray aty, 2)) {n : Int32} {rest : List Value} (hs : g.stack = .int n :: rest)
    {k cap : Nat} (hk : n.toInt = (k : Int)) (hcap : k ≤ cap) (hb : cap * 8 ≤ 536870912) (hc : cells + 1 ≤ R.cells) (hl : slots + cap ≤ R.slots) {ad : String} (had : "[" ++ (newarray.typeOf aty).toString = ad) :
    ∃ T' h', Stand p l e R s m args below meth c T' locs (cells + 1) (slots + cap) ∧ T'.heap = h' ∧ Ext h h' ∧ own_A Z h' h.size (newarray.typeOf aty) (List.replicate k (defaultValue (newarray.typeOf aty))) ∧ Exa Z h' h.size ad ∧
      ∀ target, Steps p.tables e below (T'.setTop { g with pc := g.pc + 2, stack := .ref h.size :: rest }) target → Steps p.tables e below (T.setTop g) target := by
  obtain ⟨n0, n1⟩ := own_ix hk
  obtain ⟨T', h', cA, X', e', E', A', x', st⟩ := newPE X hx hZ w eT hg hd hs n0 (cap := cap) (by rw [n1]; exact hcap) hb hc hl had
  exact ⟨T', h', X', e', E', ⟨_, A', by simp [newA, n1]⟩, x', st⟩
theorem own_clone {a0 : Array Value} (X : Stand p l e R s m args below meth c T locs cells slots) (hx : p.tables.exec = Jvm.exec) (hZ : Z.Warmed39 s.vm) {own ad : String} {index : Nat} (hown : s.vm.findClass own = some m.cls)
    (w1 : (Cond.methodLink own index ⟨ad, "clone", "()Ljava/lang/Object;"⟩).before a0 Z = true) (w2 : (Cond.sameMethod ad "java/lang/Object" "clone" "()Ljava/lang/Object;").before a0 Z = true) (w3 : (Cond.native ⟨"java/lang/Object", "clone", "()Ljava/lang/Object;"⟩).before a0 Z = true)
    (w4 : (Cond.instanceMethod ⟨"java/lang/Object", "clone", "()Ljava/lang/Object;"⟩).before a0 Z = true) (w5 : (Cond.selects ad ⟨ad, "clone", "()Ljava/lang/Object;"⟩ ⟨"java/lang/Object", "clone", "()Ljava/lang/Object;"⟩).before a0 Z = true) (w6 : (Cond.castable ad "java/lang/Cloneable").before a0 Z = true)
    (eT : T.heap = h) (A : own_A Z h a ty vs) (E : Exa Z h a ad) (hf : ∀ v ∈ vs, fits ty v = true) {g : JFrame} (hg : g.method = m) (hsize : g.locals.size = c.maxLocals) {rest : List Value} (hst : g.stack = .ref a :: rest) (hd : decode c.code g.pc = .ok (.invokevirtual index, 3))
    (hfr : 1 ≤ R.frames) {W cap : Nat} (hW : 2 * g.monitorRoom + (rest.map fun v => v.category).sum ≤ W) (hl : W + 14 ≤ R.locals) (hcap : vs.length ≤ cap) (hc : cells + 1 ≤ R.cells) (hsl : slots + cap ≤ R.slots) :
    ∃ T' h', Stand p l e R s m args below meth c T' locs (cells + 1) (slots + cap) ∧ T'.heap = h' ∧ Ext h h' ∧ own_A Z h' h.size ty vs ∧ Exa Z h' h.size ad ∧
      ∀ target, Steps p.tables e below (T'.setTop { g with pc := g.pc + 3, stack := .ref h.size :: rest }) target → Steps p.tables e below (T.setTop g) target := by
  obtain ⟨cl, A, rfl⟩ := A
  have FC : FitC Z cl := fitC_of A fun i hi v hv => hf v (by
    rw [← Array.getElem?_toList] at hv
    exact List.mem_of_getElem? hv)
  obtain ⟨T', h', X', e', ex, A', E', st⟩ := cloneA X hx hZ hown w1 w2 w3 w4 w5 w6 eT A E FC hg hsize hst hd hfr hW hl (by simpa using hcap) hc hsl
  exact ⟨T', h', X', e', ex, ⟨_, A', rfl⟩, E', st⟩
def own_Ov (C : String) (Z : State) (h : Heap) (a : Addr) : Prop := ∃ c : Cell, h[a]? = some c ∧ Ovr Z c.cls C
theorem own_Ov.lt {C : String} (F : own_Ov C Z h a) : a < h.size := by obtain ⟨c, q, -⟩ := F; exact (Array.getElem?_eq_some_iff.mp q).1
theorem own_Ov.ext {C : String} (F : own_Ov C Z h a) (E : Ext h h') : own_Ov C Z h' a := by obtain ⟨c, q, r⟩ := F; exact ⟨c, E.2 _ _ q, r⟩
theorem own_Ov.other {C : String} {sl : Nat} {v : Value} (F : own_Ov C Z h a) (W : Wr h h' b sl v) (ne : a ≠ b) : own_Ov C Z h' a := by
  obtain ⟨c, q, r⟩ := F
  obtain ⟨c', q', -, -, -, e, -⟩ := wr_at W q
  exact ⟨c', q', by rw [e ne]; exact r⟩
theorem own_Ov.keep {C : String} {ws : List Addr} (F : own_Ov C Z h a) (K : Keep h h' ws) (ne : a ∉ ws) : own_Ov C Z h' a := by obtain ⟨c, q, r⟩ := F; exact ⟨c, K.2.1 _ _ q ne, r⟩
theorem own_newR {a0 : Array Value} (X : Stand p l e R s m args below meth c T locs cells slots) (hx : p.tables.exec = Jvm.exec) (hZ : Z.Warmed39 s.vm) {own C : String} {index : Nat} (hown : s.vm.findClass own = some m.cls) (w1 : (Cond.classLink own index C).before a0 Z = true) (w2 : (Cond.arrayOver (.object C)).before a0 Z = true) (eT : T.heap = h) {g : JFrame} (hg : g.method = m) (hd : decode c.code g.pc = .ok (.anewarray index, 3)) {n : Int32} {rest : List Value} (hs : g.stack = .int n :: rest)
    {k cap : Nat} (hk : n.toInt = (k : Int)) (hcap : k ≤ cap) (hb : cap * 8 ≤ 536870912) (hc : cells + 1 ≤ R.cells) (hl : slots + cap ≤ R.slots) {ad : String} (had : "[" ++ (FieldType.object C).toString = ad) :
    ∃ T' h', Stand p l e R s m args below meth c T' locs (cells + 1) (slots + cap) ∧ T'.heap = h' ∧ Ext h h' ∧ own_A Z h' h.size (.object C) (List.replicate k .null) ∧ Exa Z h' h.size ad ∧ own_Ov C Z h' h.size ∧
      ∀ target, Steps p.tables e below (T'.setTop { g with pc := g.pc + 3, stack := .ref h.size :: rest }) target → Steps p.tables e below (T.setTop g) target := by
  obtain ⟨n0, n1⟩ := own_ix hk
  obtain ⟨T', h', cA, X', e', E', A', x', O', st⟩ := newRE X hx hZ hown w1 w2 eT hg hd hs n0 (cap := cap) (by rw [n1]; exact hcap) hb hc hl had
  exact ⟨T', h', X', e', E', ⟨_, A', by simp [newA, n1, defaultValue]⟩, x', ⟨_, A'.1, O'⟩, st⟩
theorem own_stR {C : String} (X : Stand p l e R s m args below meth c T locs cells slots) (hx : p.tables.exec = Jvm.exec) (hZ : Z.Warmed39 s.vm) (eT : T.heap = h) (A : own_A Z h a (.object C) vs) (O : own_Ov C Z h a) {y : Addr} (I : Ins Z h y C true) {j : Int32} {i : Nat} (hj : j.toInt = (i : Int)) (hi : i < vs.length) {g : JFrame} (hg : g.method = m) {rest : List Value} (hs : g.stack = .ref y :: .int j :: .ref a :: rest) (hd : decode c.code g.pc = .ok (.aastore, 1)) :
    ∃ T' h', Stand p l e R s m args below meth c T' (locs ++ [⟨a, i⟩]) cells slots ∧ T'.heap = h' ∧ Wr h h' a i (.ref y) ∧ own_A Z h' a (.object C) (vs.set i (.ref y)) ∧ ∀ target, Steps p.tables e below (T'.setTop { g with pc := g.pc + 1, stack := rest }) target → Steps p.tables e below (T.setTop g) target := by
  obtain ⟨cl, A, rfl⟩ := A
  obtain ⟨c2, q, r⟩ := O
  cases A.1.symm.trans q
  have hin := (own_in (cl := cl) (v := cl.slots.toList[i]) hj (List.getElem?_eq_getElem hi)).1
  obtain ⟨T', h', X', e', W', st⟩ := stR X hx hZ eT A (j := j) (v := .ref y) hin rfl (Sto.of A r I) hg hs hd
  rw [(own_ix hj).2] at X' W'
  exact ⟨T', h', X', e', W', own_A.set ⟨cl, A, rfl⟩ W', st⟩
theorem own_len (X : Stand p l e R s m args below meth c T locs cells slots) (hx : p.tables.exec = Jvm.exec) (hZ : Z.Warmed39 s.vm) (eT : T.heap = h) (A : own_A Z h a ty vs) {n : Int32} (hn : n.toInt = (vs.length : Int)) {g : JFrame} (hg : g.method = m) {rest : List Value} (hs : g.stack = .ref a :: rest) (hd : decode c.code g.pc = .ok (.arraylength, 1)) {t : State}
    (k : Steps p.tables e below (T.setTop { g with pc := g.pc + 1, stack := .int n :: rest }) t) : Steps p.tables e below (T.setTop g) t := by
  obtain ⟨cl, A, rfl⟩ := A
  have h1 := n.toInt_lt
  have h2 : cl.slots.size.toInt32 = n := by
    refine Int32.toInt_inj.mp ?_
    rw [hn]
    have h3 : cl.slots.toList.length = cl.slots.size := by simp
    rw [h3] at hn ⊢
    exact len_toInt (by omega)
  refine X.arraylength hx (by rw [eT]; exact A.1) (State.isArrayOf_alike hZ.alike A.2.1) hg hs hd _ ?_
  rw [h2]; exact k
theorem own_lrem (X : Stand p l e R s m args below meth c T locs cells slots) (hx : p.tables.exec = Jvm.exec) {g : JFrame} (hg : g.method = m) {x y : Int64} {rest : List Value} (hd : decode c.code g.pc = .ok (.lrem, 1)) (hs : g.stack = .long y :: .long x :: rest) (hy : y ≠ 0) {t : State}
    (k : Steps p.tables e below (T.setTop { g with pc := g.pc + 1, stack := .long (x % y) :: rest }) t) : Steps p.tables e below (T.setTop g) t := XS.lrem X.here hx hg hd hs hy (by rw [lrem_mod]; exact k)
end OwnA
theorem own_Sta.keep {Z : State} {h h' : Heap} {ws : List Addr} {C n d : String} {v : Value} (F : Sta Z h C n d v) (K : Keep h h' ws) (q : ∀ st ∈ ws, ∀ cell : Cell, h[st]? = some cell → cell.vm.isStatics = false) : Sta Z h' C n d v := by
  obtain ⟨cf, i, k, f, st, cell, h1, h2, h3, h4, h5, h6, h7⟩ := F
  refine ⟨cf, i, k, f, st, cell, h1, h2, h3, h4, K.2.1 st cell h5 fun hm => ?_, h6, h7⟩
  rw [q st hm cell h5] at h6
  cases h6
theorem own_z_eq_t {c : Prop} [Decidable c] (h : ¬ c) : ifCond.holds .eq (if c then (1 : Int32) else 0) = true := by rw [if_neg h]; rfl
theorem own_z_eq_f {c : Prop} [Decidable c] (h : c) : ifCond.holds .eq (if c then (1 : Int32) else 0) = false := by rw [if_pos h]; rfl
theorem own_z_ne_t {c : Prop} [Decidable c] (h : c) : ifCond.holds .ne (if c then (1 : Int32) else 0) = true := by rw [if_pos h]; rfl
theorem own_z_ne_f {c : Prop} [Decidable c] (h : ¬ c) : ifCond.holds .ne (if c then (1 : Int32) else 0) = false := by rw [if_neg h]; rfl
theorem own_z_nar {c : Prop} [Decidable c] : nar .boolean (if c then (1 : Int32) else 0) = if c then (1 : Int32) else 0 := by split <;> rfl
/-- two slots that hold nothing or a long, whose value nobody reads again -/
def own_Two (a b : Slot) : Prop := (a = .unset ∧ b = .unset) ∨ ∃ z, a = .val (.long z) ∧ b = .second
theorem own_plainE {Z : State} {h : Heap} {a : Addr} {C : String} (F : Exa Z h a C) : ∀ cell : Cell, h[a]? = some cell → cell.vm.isStatics = false := fun cell hc => by
  obtain ⟨c, k, h1, -, -, h4, -⟩ := F
  cases h1.symm.trans hc
  exact h4
theorem own_plainA {Z : State} {h : Heap} {a : Addr} {ty : FieldType} {vs : List Value} (F : own_A Z h a ty vs) : ∀ cell : Cell, h[a]? = some cell → cell.vm.isStatics = false := fun cell hc => by
  obtain ⟨c, A, -⟩ := F
  cases A.1.symm.trans hc
  exact A.plain
theorem own_pop2 {tb : Tables} [Ours tb] {e : Env} {below : List Frame} {T target : State} {m : MethodId} {c : Code} {g : JFrame} (h : At T m c below) (hx : tb.exec = Jvm.exec) (hg : g.method = m) {x : Int64} {rest : List Value} (hd : decode c.code g.pc = .ok (.pop2, 1)) (hs : g.stack = .long x :: rest)
    (hr : Steps tb e below (T.setTop { g with pc := g.pc + 1, stack := rest }) target) : Steps tb e below (T.setTop g) target := by
  subst hg
  jvm_step h [h.top, hx, hd, hs, Value.category]
  exact hr
theorem own_min1 {i : Int32} {n : Nat} (h0 : 0 ≤ i.toInt) (h1 : i.toInt < (n : Int)) (hn : n < 1000) : (i + 1).toInt.toNat = i.toInt.toNat + 1 ∧ (i + 1).toInt = i.toInt + 1 := by
  have h2 := c_iadd i 1
  have h3 := rng32 (i + 1)
  have h4 : (1 : Int32).toInt = 1 := rfl
  omega
theorem own_ltN {i : Int32} {n : Nat} (hn : n < 1000) : i < n.toInt32 ↔ i.toInt < (n : Int) := by
  rw [Int32.lt_iff_toInt_lt, len_toInt (by omega)]
theorem own_getI {bs : List Int32} {i : Nat} (h : i < bs.length) : (bs.map Value.int)[i]? = some (.int (bs.getD i 0)) := by
  simp [List.getElem?_map, h]
theorem own_nat {i : Int32} (h : 0 ≤ i.toInt) : i.toInt = ((i.toInt.toNat : Nat) : Int) := by omega
theorem w_0 {a0 : Array Value} {Z : State} (hw : ∀ d ∈ tables_1, d.before a0 Z = true) : (Jvm.Cond.arrayClass Jvm.ClassFile.FieldType.int).before a0 Z = true := hw _ (List.mem_of_getElem? (i := 0) rfl)
theorem w_1 {a0 : Array Value} {Z : State} (hw : ∀ d ∈ tables_1, d.before a0 Z = true) : (Jvm.Cond.classLink "com/example/relayframe/relayframe/PaletteIndexOfPinLaw" (7 : Nat) "com/example/relayframe/relayframe/Palette").before a0 Z = true := hw _ (List.mem_of_getElem? (i := 1) rfl)
theorem w_2 {a0 : Array Value} {Z : State} (hw : ∀ d ∈ tables_1, d.before a0 Z = true) : (Jvm.Cond.instantiable "com/example/relayframe/relayframe/Palette" (5 : Nat)).before a0 Z = true := hw _ (List.mem_of_getElem? (i := 2) rfl)
theorem w_3 {a0 : Array Value} {Z : State} (hw : ∀ d ∈ tables_1, d.before a0 Z = true) : (Jvm.Cond.initialized "com/example/relayframe/relayframe/Palette").before a0 Z = true := hw _ (List.mem_of_getElem? (i := 3) rfl)
theorem w_4 {a0 : Array Value} {Z : State} (hw : ∀ d ∈ tables_1, d.before a0 Z = true) : (Jvm.Cond.methodLink "com/example/relayframe/relayframe/PaletteIndexOfPinLaw" (9 : Nat) ({ cls := "com/example/relayframe/relayframe/Palette", name := "<init>", desc := "(I)V" } : Jvm.MethodName)).before a0 Z = true := hw _ (List.mem_of_getElem? (i := 4) rfl)
theorem w_5 {a0 : Array Value} {Z : State} (hw : ∀ d ∈ tables_1, d.before a0 Z = true) : (Jvm.Cond.instanceMethod ({ cls := "com/example/relayframe/relayframe/Palette", name := "<init>", desc := "(I)V" } : Jvm.MethodName)).before a0 Z = true := hw _ (List.mem_of_getElem? (i := 5) rfl)
theorem w_6 {a0 : Array Value} {Z : State} (hw : ∀ d ∈ tables_1, d.before a0 Z = true) : (Jvm.Cond.code ({ cls := "com/example/relayframe/relayframe/Palette", name := "<init>", desc := "(I)V" } : Jvm.MethodName) prog_3_method_1_code (2 : Nat) (Option.none : Option Jvm.ClassFile.FieldType)).before a0 Z = true := hw _ (List.mem_of_getElem? (i := 6) rfl)
theorem w_7 {a0 : Array Value} {Z : State} (hw : ∀ d ∈ tables_1, d.before a0 Z = true) : (Jvm.Cond.methodLink "com/example/relayframe/relayframe/Palette" (1 : Nat) ({ cls := "java/lang/Object", name := "<init>", desc := "()V" } : Jvm.MethodName)).before a0 Z = true := hw _ (List.mem_of_getElem? (i := 7) rfl)
theorem w_8 {a0 : Array Value} {Z : State} (hw : ∀ d ∈ tables_1, d.before a0 Z = true) : (Jvm.Cond.instanceMethod ({ cls := "java/lang/Object", name := "<init>", desc := "()V" } : Jvm.MethodName)).before a0 Z = true := hw _ (List.mem_of_getElem? (i := 8) rfl)
theorem w_9 {a0 : Array Value} {Z : State} (hw : ∀ d ∈ tables_1, d.before a0 Z = true) : (Jvm.Cond.code ({ cls := "java/lang/Object", name := "<init>", desc := "()V" } : Jvm.MethodName) object_method_1_code (1 : Nat) (Option.none : Option Jvm.ClassFile.FieldType)).before a0 Z = true := hw _ (List.mem_of_getElem? (i := 9) rfl)
theorem w_10 {a0 : Array Value} {Z : State} (hw : ∀ d ∈ tables_1, d.before a0 Z = true) : (Jvm.Cond.fieldLink "com/example/relayframe/relayframe/Palette" (7 : Nat) "com/example/relayframe/relayframe/Palette" "colours" "[I").before a0 Z = true := hw _ (List.mem_of_getElem? (i := 10) rfl)
theorem w_11 {a0 : Array Value} {Z : State} (hw : ∀ d ∈ tables_1, d.before a0 Z = true) : (Jvm.Cond.laysFinal "com/example/relayframe/relayframe/Palette" "com/example/relayframe/relayframe/Palette" "colours" "[I").before a0 Z = true := hw _ (List.mem_of_getElem? (i := 11) rfl)
theorem w_12 {a0 : Array Value} {Z : State} (hw : ∀ d ∈ tables_1, d.before a0 Z = true) : (Jvm.Cond.methodLink "com/example/relayframe/relayframe/Palette" (15 : Nat) ({ cls := "java/lang/Integer", name := "numberOfLeadingZeros", desc := "(I)I" } : Jvm.MethodName)).before a0 Z = true := hw _ (List.mem_of_getElem? (i := 12) rfl)
theorem w_13 {a0 : Array Value} {Z : State} (hw : ∀ d ∈ tables_1, d.before a0 Z = true) : (Jvm.Cond.static ({ cls := "java/lang/Integer", name := "numberOfLeadingZeros", desc := "(I)I" } : Jvm.MethodName)).before a0 Z = true := hw _ (List.mem_of_getElem? (i := 13) rfl)
theorem w_14 {a0 : Array Value} {Z : State} (hw : ∀ d ∈ tables_1, d.before a0 Z = true) : (Jvm.Cond.initialized "java/lang/Integer").before a0 Z = true := hw _ (List.mem_of_getElem? (i := 14) rfl)
theorem w_15 {a0 : Array Value} {Z : State} (hw : ∀ d ∈ tables_1, d.before a0 Z = true) : (Jvm.Cond.code ({ cls := "java/lang/Integer", name := "numberOfLeadingZeros", desc := "(I)I" } : Jvm.MethodName) jdk_33_method_47_code (2 : Nat) (Option.some Jvm.ClassFile.FieldType.int)).before a0 Z = true := hw _ (List.mem_of_getElem? (i := 15) rfl)
theorem w_16 {a0 : Array Value} {Z : State} (hw : ∀ d ∈ tables_1, d.before a0 Z = true) : (Jvm.Cond.constant "java/lang/Integer" (264 : Nat) (65536 : Int32)).before a0 Z = true := hw _ (List.mem_of_getElem? (i := 16) rfl)
theorem w_17 {a0 : Array Value} {Z : State} (hw : ∀ d ∈ tables_1, d.before a0 Z = true) : (Jvm.Cond.fieldLink "com/example/relayframe/relayframe/Palette" (19 : Nat) "com/example/relayframe/relayframe/Palette" "slotBits" "I").before a0 Z = true := hw _ (List.mem_of_getElem? (i := 17) rfl)
theorem w_18 {a0 : Array Value} {Z : State} (hw : ∀ d ∈ tables_1, d.before a0 Z = true) : (Jvm.Cond.laysFinal "com/example/relayframe/relayframe/Palette" "com/example/relayframe/relayframe/Palette" "slotBits" "I").before a0 Z = true := hw _ (List.mem_of_getElem? (i := 18) rfl)
theorem w_19 {a0 : Array Value} {Z : State} (hw : ∀ d ∈ tables_1, d.before a0 Z = true) : (Jvm.Cond.fieldLink "com/example/relayframe/relayframe/Palette" (23 : Nat) "com/example/relayframe/relayframe/Palette" "slotColours" "[I").before a0 Z = true := hw _ (List.mem_of_getElem? (i := 19) rfl)
theorem w_20 {a0 : Array Value} {Z : State} (hw : ∀ d ∈ tables_1, d.before a0 Z = true) : (Jvm.Cond.laysFinal "com/example/relayframe/relayframe/Palette" "com/example/relayframe/relayframe/Palette" "slotColours" "[I").before a0 Z = true := hw _ (List.mem_of_getElem? (i := 20) rfl)
theorem w_21 {a0 : Array Value} {Z : State} (hw : ∀ d ∈ tables_1, d.before a0 Z = true) : (Jvm.Cond.arrayClass Jvm.ClassFile.FieldType.short).before a0 Z = true := hw _ (List.mem_of_getElem? (i := 21) rfl)
theorem w_22 {a0 : Array Value} {Z : State} (hw : ∀ d ∈ tables_1, d.before a0 Z = true) : (Jvm.Cond.fieldLink "com/example/relayframe/relayframe/Palette" (26 : Nat) "com/example/relayframe/relayframe/Palette" "slotIndices" "[S").before a0 Z = true := hw _ (List.mem_of_getElem? (i := 22) rfl)
theorem w_23 {a0 : Array Value} {Z : State} (hw : ∀ d ∈ tables_1, d.before a0 Z = true) : (Jvm.Cond.laysFinal "com/example/relayframe/relayframe/Palette" "com/example/relayframe/relayframe/Palette" "slotIndices" "[S").before a0 Z = true := hw _ (List.mem_of_getElem? (i := 23) rfl)
theorem w_24 {a0 : Array Value} {Z : State} (hw : ∀ d ∈ tables_1, d.before a0 Z = true) : (Jvm.Cond.methodLink "com/example/relayframe/relayframe/Palette" (30 : Nat) ({ cls := "com/example/relayframe/relayframe/Palette", name := "clear", desc := "()V" } : Jvm.MethodName)).before a0 Z = true := hw _ (List.mem_of_getElem? (i := 24) rfl)
theorem w_25 {a0 : Array Value} {Z : State} (hw : ∀ d ∈ tables_1, d.before a0 Z = true) : (Jvm.Cond.declares ({ cls := "com/example/relayframe/relayframe/Palette", name := "clear", desc := "()V" } : Jvm.MethodName)).before a0 Z = true := hw _ (List.mem_of_getElem? (i := 25) rfl)
theorem w_26 {a0 : Array Value} {Z : State} (hw : ∀ d ∈ tables_1, d.before a0 Z = true) : (Jvm.Cond.instanceMethod ({ cls := "com/example/relayframe/relayframe/Palette", name := "clear", desc := "()V" } : Jvm.MethodName)).before a0 Z = true := hw _ (List.mem_of_getElem? (i := 26) rfl)
theorem w_27 {a0 : Array Value} {Z : State} (hw : ∀ d ∈ tables_1, d.before a0 Z = true) : (Jvm.Cond.selects "com/example/relayframe/relayframe/Palette" ({ cls := "com/example/relayframe/relayframe/Palette", name := "clear", desc := "()V" } : Jvm.MethodName) ({ cls := "com/example/relayframe/relayframe/Palette", name := "clear", desc := "()V" } : Jvm.MethodName)).before a0 Z = true := hw _ (List.mem_of_getElem? (i := 27) rfl)
theorem w_28 {a0 : Array Value} {Z : State} (hw : ∀ d ∈ tables_1, d.before a0 Z = true) : (Jvm.Cond.code ({ cls := "com/example/relayframe/relayframe/Palette", name := "clear", desc := "()V" } : Jvm.MethodName) prog_3_method_2_code (1 : Nat) (Option.none : Option Jvm.ClassFile.FieldType)).before a0 Z = true := hw _ (List.mem_of_getElem? (i := 28) rfl)
theorem w_29 {a0 : Array Value} {Z : State} (hw : ∀ d ∈ tables_1, d.before a0 Z = true) : (Jvm.Cond.methodLink "com/example/relayframe/relayframe/Palette" (33 : Nat) ({ cls := "java/util/Arrays", name := "fill", desc := "([SS)V" } : Jvm.MethodName)).before a0 Z = true := hw _ (List.mem_of_getElem? (i := 29) rfl)
theorem w_30 {a0 : Array Value} {Z : State} (hw : ∀ d ∈ tables_1, d.before a0 Z = true) : (Jvm.Cond.static ({ cls := "java/util/Arrays", name := "fill", desc := "([SS)V" } : Jvm.MethodName)).before a0 Z = true := hw _ (List.mem_of_getElem? (i := 30) rfl)
theorem w_31 {a0 : Array Value} {Z : State} (hw : ∀ d ∈ tables_1, d.before a0 Z = true) : (Jvm.Cond.initialized "java/util/Arrays").before a0 Z = true := hw _ (List.mem_of_getElem? (i := 31) rfl)
theorem w_32 {a0 : Array Value} {Z : State} (hw : ∀ d ∈ tables_1, d.before a0 Z = true) : (Jvm.Cond.code ({ cls := "java/util/Arrays", name := "fill", desc := "([SS)V" } : Jvm.MethodName) jdk_65_method_105_code (4 : Nat) (Option.none : Option Jvm.ClassFile.FieldType)).before a0 Z = true := hw _ (List.mem_of_getElem? (i := 32) rfl)
theorem w_33 {a0 : Array Value} {Z : State} (hw : ∀ d ∈ tables_1, d.before a0 Z = true) : (Jvm.Cond.fieldLink "com/example/relayframe/relayframe/Palette" (39 : Nat) "com/example/relayframe/relayframe/Palette" "size" "I").before a0 Z = true := hw _ (List.mem_of_getElem? (i := 33) rfl)
theorem w_34 {a0 : Array Value} {Z : State} (hw : ∀ d ∈ tables_1, d.before a0 Z = true) : (Jvm.Cond.lays "com/example/relayframe/relayframe/Palette" "com/example/relayframe/relayframe/Palette" "size" "I").before a0 Z = true := hw _ (List.mem_of_getElem? (i := 34) rfl)
theorem w_35 {a0 : Array Value} {Z : State} (hw : ∀ d ∈ tables_1, d.before a0 Z = true) : (Jvm.Cond.methodLink "com/example/relayframe/relayframe/PaletteIndexOfPinLaw" (12 : Nat) ({ cls := "com/example/relayframe/relayframe/PaletteIndexOfPinLaw", name := "step", desc := "(Lcom/example/relayframe/relayframe/Palette;I[I[II)Z" } : Jvm.MethodName)).before a0 Z = true := hw _ (List.mem_of_getElem? (i := 35) rfl)
theorem w_36 {a0 : Array Value} {Z : State} (hw : ∀ d ∈ tables_1, d.before a0 Z = true) : (Jvm.Cond.static ({ cls := "com/example/relayframe/relayframe/PaletteIndexOfPinLaw", name := "step", desc := "(Lcom/example/relayframe/relayframe/Palette;I[I[II)Z" } : Jvm.MethodName)).before a0 Z = true := hw _ (List.mem_of_getElem? (i := 36) rfl)
theorem w_37 {a0 : Array Value} {Z : State} (hw : ∀ d ∈ tables_1, d.before a0 Z = true) : (Jvm.Cond.initialized "com/example/relayframe/relayframe/PaletteIndexOfPinLaw").before a0 Z = true := hw _ (List.mem_of_getElem? (i := 37) rfl)
theorem w_38 {a0 : Array Value} {Z : State} (hw : ∀ d ∈ tables_1, d.before a0 Z = true) : (Jvm.Cond.code ({ cls := "com/example/relayframe/relayframe/PaletteIndexOfPinLaw", name := "step", desc := "(Lcom/example/relayframe/relayframe/Palette;I[I[II)Z" } : Jvm.MethodName) method_4_code (6 : Nat) (Option.some Jvm.ClassFile.FieldType.boolean)).before a0 Z = true := hw _ (List.mem_of_getElem? (i := 38) rfl)
theorem w_39 {a0 : Array Value} {Z : State} (hw : ∀ d ∈ tables_1, d.before a0 Z = true) : (Jvm.Cond.methodLink "com/example/relayframe/relayframe/PaletteIndexOfPinLaw" (30 : Nat) ({ cls := "com/example/relayframe/relayframe/PaletteIndexOfPinLaw", name := "expected", desc := "([I[III)I" } : Jvm.MethodName)).before a0 Z = true := hw _ (List.mem_of_getElem? (i := 39) rfl)
theorem w_40 {a0 : Array Value} {Z : State} (hw : ∀ d ∈ tables_1, d.before a0 Z = true) : (Jvm.Cond.static ({ cls := "com/example/relayframe/relayframe/PaletteIndexOfPinLaw", name := "expected", desc := "([I[III)I" } : Jvm.MethodName)).before a0 Z = true := hw _ (List.mem_of_getElem? (i := 40) rfl)
theorem w_41 {a0 : Array Value} {Z : State} (hw : ∀ d ∈ tables_1, d.before a0 Z = true) : (Jvm.Cond.code ({ cls := "com/example/relayframe/relayframe/PaletteIndexOfPinLaw", name := "expected", desc := "([I[III)I" } : Jvm.MethodName) method_3_code (5 : Nat) (Option.some Jvm.ClassFile.FieldType.int)).before a0 Z = true := hw _ (List.mem_of_getElem? (i := 41) rfl)
theorem w_42 {a0 : Array Value} {Z : State} (hw : ∀ d ∈ tables_1, d.before a0 Z = true) : (Jvm.Cond.methodLink "com/example/relayframe/relayframe/PaletteIndexOfPinLaw" (34 : Nat) ({ cls := "com/example/relayframe/relayframe/Palette", name := "indexOf", desc := "(I)I" } : Jvm.MethodName)).before a0 Z = true := hw _ (List.mem_of_getElem? (i := 42) rfl)
theorem w_43 {a0 : Array Value} {Z : State} (hw : ∀ d ∈ tables_1, d.before a0 Z = true) : (Jvm.Cond.declares ({ cls := "com/example/relayframe/relayframe/Palette", name := "indexOf", desc := "(I)I" } : Jvm.MethodName)).before a0 Z = true := hw _ (List.mem_of_getElem? (i := 43) rfl)
theorem w_44 {a0 : Array Value} {Z : State} (hw : ∀ d ∈ tables_1, d.before a0 Z = true) : (Jvm.Cond.instanceMethod ({ cls := "com/example/relayframe/relayframe/Palette", name := "indexOf", desc := "(I)I" } : Jvm.MethodName)).before a0 Z = true := hw _ (List.mem_of_getElem? (i := 44) rfl)
theorem w_45 {a0 : Array Value} {Z : State} (hw : ∀ d ∈ tables_1, d.before a0 Z = true) : (Jvm.Cond.selects "com/example/relayframe/relayframe/Palette" ({ cls := "com/example/relayframe/relayframe/Palette", name := "indexOf", desc := "(I)I" } : Jvm.MethodName) ({ cls := "com/example/relayframe/relayframe/Palette", name := "indexOf", desc := "(I)I" } : Jvm.MethodName)).before a0 Z = true := hw _ (List.mem_of_getElem? (i := 45) rfl)
theorem w_46 {a0 : Array Value} {Z : State} (hw : ∀ d ∈ tables_1, d.before a0 Z = true) : (Jvm.Cond.code ({ cls := "com/example/relayframe/relayframe/Palette", name := "indexOf", desc := "(I)I" } : Jvm.MethodName) prog_3_method_3_code (4 : Nat) (Option.some Jvm.ClassFile.FieldType.int)).before a0 Z = true := hw _ (List.mem_of_getElem? (i := 46) rfl)
theorem w_47 {a0 : Array Value} {Z : State} (hw : ∀ d ∈ tables_1, d.before a0 Z = true) : (Jvm.Cond.constant "com/example/relayframe/relayframe/Palette" (42 : Nat) (-1640531527 : Int32)).before a0 Z = true := hw _ (List.mem_of_getElem? (i := 47) rfl)
theorem w_48 {a0 : Array Value} {Z : State} (hw : ∀ d ∈ tables_1, d.before a0 Z = true) : (Jvm.Cond.methodLink "com/example/relayframe/relayframe/PaletteIndexOfPinLaw" (18 : Nat) ({ cls := "com/example/relayframe/relayframe/Palette", name := "size", desc := "()I" } : Jvm.MethodName)).before a0 Z = true := hw _ (List.mem_of_getElem? (i := 48) rfl)
theorem w_49 {a0 : Array Value} {Z : State} (hw : ∀ d ∈ tables_1, d.before a0 Z = true) : (Jvm.Cond.declares ({ cls := "com/example/relayframe/relayframe/Palette", name := "size", desc := "()I" } : Jvm.MethodName)).before a0 Z = true := hw _ (List.mem_of_getElem? (i := 49) rfl)
theorem w_50 {a0 : Array Value} {Z : State} (hw : ∀ d ∈ tables_1, d.before a0 Z = true) : (Jvm.Cond.instanceMethod ({ cls := "com/example/relayframe/relayframe/Palette", name := "size", desc := "()I" } : Jvm.MethodName)).before a0 Z = true := hw _ (List.mem_of_getElem? (i := 50) rfl)
theorem w_51 {a0 : Array Value} {Z : State} (hw : ∀ d ∈ tables_1, d.before a0 Z = true) : (Jvm.Cond.selects "com/example/relayframe/relayframe/Palette" ({ cls := "com/example/relayframe/relayframe/Palette", name := "size", desc := "()I" } : Jvm.MethodName) ({ cls := "com/example/relayframe/relayframe/Palette", name := "size", desc := "()I" } : Jvm.MethodName)).before a0 Z = true := hw _ (List.mem_of_getElem? (i := 51) rfl)
theorem w_52 {a0 : Array Value} {Z : State} (hw : ∀ d ∈ tables_1, d.before a0 Z = true) : (Jvm.Cond.code ({ cls := "com/example/relayframe/relayframe/Palette", name := "size", desc := "()I" } : Jvm.MethodName) prog_3_method_4_code (1 : Nat) (Option.some Jvm.ClassFile.FieldType.int)).before a0 Z = true := hw _ (List.mem_of_getElem? (i := 52) rfl)
theorem w_53 {a0 : Array Value} {Z : State} (hw : ∀ d ∈ tables_1, d.before a0 Z = true) : (Jvm.Cond.methodLink "com/example/relayframe/relayframe/PaletteIndexOfPinLaw" (22 : Nat) ({ cls := "com/example/relayframe/relayframe/Palette", name := "colours", desc := "()[I" } : Jvm.MethodName)).before a0 Z = true := hw _ (List.mem_of_getElem? (i := 53) rfl)
theorem w_54 {a0 : Array Value} {Z : State} (hw : ∀ d ∈ tables_1, d.before a0 Z = true) : (Jvm.Cond.declares ({ cls := "com/example/relayframe/relayframe/Palette", name := "colours", desc := "()[I" } : Jvm.MethodName)).before a0 Z = true := hw _ (List.mem_of_getElem? (i := 54) rfl)
theorem w_55 {a0 : Array Value} {Z : State} (hw : ∀ d ∈ tables_1, d.before a0 Z = true) : (Jvm.Cond.instanceMethod ({ cls := "com/example/relayframe/relayframe/Palette", name := "colours", desc := "()[I" } : Jvm.MethodName)).before a0 Z = true := hw _ (List.mem_of_getElem? (i := 55) rfl)
theorem w_56 {a0 : Array Value} {Z : State} (hw : ∀ d ∈ tables_1, d.before a0 Z = true) : (Jvm.Cond.selects "com/example/relayframe/relayframe/Palette" ({ cls := "com/example/relayframe/relayframe/Palette", name := "colours", desc := "()[I" } : Jvm.MethodName) ({ cls := "com/example/relayframe/relayframe/Palette", name := "colours", desc := "()[I" } : Jvm.MethodName)).before a0 Z = true := hw _ (List.mem_of_getElem? (i := 56) rfl)
theorem w_57 {a0 : Array Value} {Z : State} (hw : ∀ d ∈ tables_1, d.before a0 Z = true) : (Jvm.Cond.code ({ cls := "com/example/relayframe/relayframe/Palette", name := "colours", desc := "()[I" } : Jvm.MethodName) prog_3_method_5_code (1 : Nat) (Option.some (Jvm.ClassFile.FieldType.array Jvm.ClassFile.FieldType.int))).before a0 Z = true := hw _ (List.mem_of_getElem? (i := 57) rfl)
theorem w_58 {a0 : Array Value} {Z : State} (hw : ∀ d ∈ tables_1, d.before a0 Z = true) : (Jvm.Cond.methodLink "com/example/relayframe/relayframe/PaletteIndexOfPinLaw" (26 : Nat) ({ cls := "com/example/relayframe/relayframe/PaletteIndexOfPinLaw", name := "sameAt", desc := "([I[III)Z" } : Jvm.MethodName)).before a0 Z = true := hw _ (List.mem_of_getElem? (i := 58) rfl)
theorem w_59 {a0 : Array Value} {Z : State} (hw : ∀ d ∈ tables_1, d.before a0 Z = true) : (Jvm.Cond.static ({ cls := "com/example/relayframe/relayframe/PaletteIndexOfPinLaw", name := "sameAt", desc := "([I[III)Z" } : Jvm.MethodName)).before a0 Z = true := hw _ (List.mem_of_getElem? (i := 59) rfl)
theorem w_60 {a0 : Array Value} {Z : State} (hw : ∀ d ∈ tables_1, d.before a0 Z = true) : (Jvm.Cond.code ({ cls := "com/example/relayframe/relayframe/PaletteIndexOfPinLaw", name := "sameAt", desc := "([I[III)Z" } : Jvm.MethodName) method_5_code (4 : Nat) (Option.some Jvm.ClassFile.FieldType.boolean)).before a0 Z = true := hw _ (List.mem_of_getElem? (i := 60) rfl)
theorem own_gs {l : List Int32} {i j : Nat} {a : Int32} (h : i < l.length) : (l.set i a).getD j 0 = if i = j then a else l.getD j 0 := by
  rw [List.getD_eq_getElem?_getD, List.getD_eq_getElem?_getD]
  by_cases e : i = j
  · subst e
    rw [List.getElem?_set_self h, if_pos rfl]; rfl
  · rw [List.getElem?_set_ne e, if_neg e]
/-- a table of N places and what it holds: n colours, told by their places in CO -/
def own_I0 (N cap n : Nat) (H : Int32 → Nat) (CO SC SI : List Int32) : Prop :=
  (CO.length = cap ∧ SC.length = N ∧ SI.length = N ∧ n ≤ cap) ∧
  (∀ j, j < N → SI.getD j 0 = -1 ∨ ∃ i, i < n ∧ (SI.getD j 0).toInt = (i : Int) ∧ SC.getD j 0 = CO.getD i 0) ∧
  (∀ i, i < n → ∃ j, j < N ∧ (SI.getD j 0).toInt = (i : Int)) ∧
  (∀ j, j < N → SI.getD j 0 ≠ -1 → ∀ t, t < (j + N - H (SC.getD j 0)) % N → SI.getD ((H (SC.getD j 0) + t) % N) 0 ≠ -1) ∧
  (∀ i i', i < n → i' < n → CO.getD i 0 = CO.getD i' 0 → i = i') ∧
  SI.countP (fun x => x == (-1 : Int32)) + n = N
/-- a colour's place, an old one's or a new one's, or none -/
def own_Res (n cap : Nat) (c : Int32) (CO : List Int32) (r : Int32) (n2 : Nat) (CO2 : List Int32) : Prop :=
  (∃ i, i < n ∧ CO.getD i 0 = c ∧ r.toInt = (i : Int) ∧ n2 = n ∧ CO2 = CO) ∨ ((∀ i, i < n → CO.getD i 0 ≠ c) ∧ ((n = cap ∧ r = -1 ∧ n2 = n ∧ CO2 = CO) ∨ (n < cap ∧ r.toInt = (n : Int) ∧ n2 = n + 1 ∧ CO2 = CO.set n c)))
def own_Ag (n : Nat) (CO SE : List Int32) : Prop := ∀ i, i < n → SE.getD i 0 = CO.getD i 0
def own_NB (N : Nat) (B : Int32) : Prop := (N = 2 ∧ B = 1) ∨ (N = 4 ∧ B = 2) ∨ (N = 8 ∧ B = 3)
def own_hx (B c : Int32) : Int32 := ((c * (-1640531527 : Int32)).toUInt32 >>> (((32 : Int32) - B) &&& 31).toUInt32).toInt32
def own_H (B c : Int32) : Nat := (own_hx B c).toInt.toNat
theorem own_m1 : (-1 : Int32).toInt = -1 := rfl
theorem own_hxr {N : Nat} {B : Int32} (hN : own_NB N B) (c : Int32) : 0 ≤ (own_hx B c).toInt ∧ (own_hx B c).toInt < (N : Int) := by
  unfold own_hx
  rcases hN with ⟨rfl, rfl⟩ | ⟨rfl, rfl⟩ | ⟨rfl, rfl⟩
  · have h := c_iushr (c * (-1640531527 : Int32)) ((32 : Int32) - 1) 31 (by decide) (by decide)
    omega
  · have h := c_iushr (c * (-1640531527 : Int32)) ((32 : Int32) - 2) 30 (by decide) (by decide)
    omega
  · have h := c_iushr (c * (-1640531527 : Int32)) ((32 : Int32) - 3) 29 (by decide) (by decide)
    omega
theorem own_Hlt {N : Nat} {B : Int32} (hN : own_NB N B) (c : Int32) : own_H B c < N := by
  have h := own_hxr hN c
  unfold own_H
  omega
theorem own_N3 {N : Nat} {B : Int32} (hN : own_NB N B) : N = 2 ∨ N = 4 ∨ N = 8 := by
  rcases hN with ⟨h, -⟩ | ⟨h, -⟩ | ⟨h, -⟩ <;> omega
theorem own_md1 {N h T j : Nat} (hN : N = 2 ∨ N = 4 ∨ N = 8) (hh : h < N) (hj : j = (h + T) % N) : (j + N - h) % N ≤ T ∧ (h + (j + N - h) % N) % N = j ∧ j < N := by
  rcases hN with rfl | rfl | rfl <;> omega
theorem own_md2 {N h j : Nat} (hN : N = 2 ∨ N = 4 ∨ N = 8) (hh : h < N) (hj : j < N) : (h + (j + N - h) % N) % N = j ∧ (j + N - h) % N < N := by
  rcases hN with rfl | rfl | rfl <;> omega
theorem own_md3 {N h T u : Nat} (hN : N = 2 ∨ N = 4 ∨ N = 8) (hh : h < N) (hu : u = ((h + T) % N + 1) % N) : u = (h + (T + 1)) % N := by
  rcases hN with rfl | rfl | rfl <;> omega
theorem own_md4 {N e a b : Nat} (hN : N = 2 ∨ N = 4 ∨ N = 8) (he : e < N) (ha : a < N) (hne : a ≠ e) (hb : b = (a + 1) % N) : (e + N - b) % N < (e + N - a) % N := by
  rcases hN with rfl | rfl | rfl <;> omega
theorem own_msk {N : Nat} {B a v : Int32} (hN : own_NB N B) (ha : 0 ≤ a.toInt ∧ a.toInt < (N : Int)) (e : v = ((a + (1 : Int32)) &&& ((N.toInt32) - (1 : Int32)))) : (0 ≤ v.toInt ∧ v.toInt < (N : Int)) ∧ v.toInt.toNat = (a.toInt.toNat + 1) % N := by
  have h1 := c_iadd a 1
  have h2 := rng32 (a + 1)
  have h3 : (1 : Int32).toInt = 1 := rfl
  rw [e]
  rcases hN with ⟨rfl, -⟩ | ⟨rfl, -⟩ | ⟨rfl, -⟩
  · have h := c_mask (a + 1) ((2 : Nat).toInt32 - (1 : Int32)) 1 (by decide) (by decide)
    rw [h]; omega
  · have h := c_mask (a + 1) ((4 : Nat).toInt32 - (1 : Int32)) 2 (by decide) (by decide)
    rw [h]; omega
  · have h := c_mask (a + 1) ((8 : Nat).toInt32 - (1 : Int32)) 3 (by decide) (by decide)
    rw [h]; omega
theorem own_emp {N cap n : Nat} {H : Int32 → Nat} {CO SC SI : List Int32} (hI : own_I0 N cap n H CO SC SI) (hc : cap < N) : ∃ e, e < N ∧ SI.getD e 0 = -1 := by
  obtain ⟨⟨-, -, hl, hn⟩, -, -, -, -, hE⟩ := hI
  have h0 : 0 < SI.countP (fun x => x == (-1 : Int32)) := by omega
  obtain ⟨a, ha, hb⟩ := List.countP_pos_iff.mp h0
  obtain ⟨i, hi, hia⟩ := List.mem_iff_getElem.mp ha
  refine ⟨i, by omega, ?_⟩
  rw [List.getD_eq_getElem?_getD, List.getElem?_eq_getElem hi, hia]
  exact eq_of_beq hb
theorem own_fnd {N cap n j : Nat} {H : Int32 → Nat} {CO SC SI : List Int32} {c : Int32} (hI : own_I0 N cap n H CO SC SI) (hj : j < N) (h1 : ¬ (SI.getD j 0 = (-1 : Int32))) (h2 : SC.getD j 0 = c) : own_Res n cap c CO (SI.getD j 0) n CO := by
  obtain ⟨-, hA, -⟩ := hI
  rcases hA j hj with h | ⟨i, a1, a2, a3⟩
  · exact absurd h h1
  · exact Or.inl ⟨i, a1, a3.symm.trans h2, a2, rfl, rfl⟩
theorem own_nf {N cap n j : Nat} {B c : Int32} {CO SC SI : List Int32} (hN : own_NB N B) (hI : own_I0 N cap n (own_H B) CO SC SI) (hT : ∃ T, j = (own_H B c + T) % N ∧ ∀ u, u < T → SI.getD ((own_H B c + u) % N) 0 ≠ -1 ∧ SC.getD ((own_H B c + u) % N) 0 ≠ c) (hj : SI.getD j 0 = (-1 : Int32)) : ∀ i, i < n → CO.getD i 0 ≠ c := by
  intro i hi hc
  obtain ⟨-, hA, hB, hC, -⟩ := hI
  obtain ⟨T, t1, t2⟩ := hT
  obtain ⟨k, hk, hki⟩ := hB i hi
  have hk1 : SI.getD k 0 ≠ -1 := fun q => by
    rw [q, own_m1] at hki
    omega
  rcases hA k hk with h | ⟨i2, a1, a2, a3⟩
  · exact hk1 h
  have hii : i2 = i := by omega
  rw [hii, hc] at a3
  have hp := hC k hk hk1
  rw [a3] at hp
  have hl := own_Hlt hN c
  obtain ⟨m1, m2⟩ := own_md2 (own_N3 hN) hl hk
  rcases Nat.lt_trichotomy ((k + N - own_H B c) % N) T with g | g | g
  · have h := (t2 _ g).2
    rw [m1] at h
    exact h a3
  · rw [g] at m1
    rw [← t1] at m1
    rw [m1] at hj
    exact hk1 hj
  · have h := hp T g
    rw [← t1] at h
    exact h hj
theorem own_ins {N cap n j : Nat} {B c v : Int32} {CO SC SI : List Int32} (hN : own_NB N B) (hI : own_I0 N cap n (own_H B) CO SC SI) (hT : ∃ T, j = (own_H B c + T) % N ∧ ∀ u, u < T → SI.getD ((own_H B c + u) % N) 0 ≠ -1 ∧ SC.getD ((own_H B c + u) % N) 0 ≠ c) (hj : SI.getD j 0 = (-1 : Int32)) (hn : n < cap) (hv : v.toInt = (n : Int)) : own_I0 N cap (n + 1) (own_H B) (CO.set n c) (SC.set j c) (SI.set j v) := by
  have nf := own_nf hN hI hT hj
  obtain ⟨⟨l1, l2, l3, l4⟩, hA, hB, hC, hD, hE⟩ := hI
  obtain ⟨T, t1, t2⟩ := hT
  have hl := own_Hlt hN c
  obtain ⟨m1, m2, m3⟩ := own_md1 (own_N3 hN) hl t1
  have hv1 : v ≠ -1 := fun q => by
    rw [q, own_m1] at hv
    omega
  have sI : ∀ k, (SI.set j v).getD k 0 = if j = k then v else SI.getD k 0 := fun k => own_gs (by omega)
  have sC : ∀ k, (SC.set j c).getD k 0 = if j = k then c else SC.getD k 0 := fun k => own_gs (by omega)
  have sO : ∀ k, (CO.set n c).getD k 0 = if n = k then c else CO.getD k 0 := fun k => own_gs (by omega)
  have nI : ∀ k, SI.getD k 0 ≠ -1 → (SI.set j v).getD k 0 ≠ -1 := fun k hk => by
    rw [sI]
    by_cases e : j = k
    · rw [if_pos e]; exact hv1
    · rw [if_neg e]; exact hk
  refine ⟨⟨by rw [List.length_set]; exact l1, by rw [List.length_set]; exact l2, by rw [List.length_set]; exact l3, by omega⟩, fun k hk => ?_, fun i hi => ?_, fun k hk hk1 t ht => ?_, fun i i' hi hi' he => ?_, ?_⟩
  · rw [sI, sC]
    by_cases e : j = k
    · rw [if_pos e, if_pos e]
      exact Or.inr ⟨n, by omega, hv, by rw [sO, if_pos rfl]⟩
    · rw [if_neg e, if_neg e]
      rcases hA k hk with h | ⟨i, a1, a2, a3⟩
      · exact Or.inl h
      · exact Or.inr ⟨i, by omega, a2, by rw [sO, if_neg (by omega)]; exact a3⟩
  · by_cases e : i = n
    · exact ⟨j, m3, by rw [sI, if_pos rfl, e]; exact hv⟩
    · obtain ⟨k, hk, hki⟩ := hB i (by omega)
      refine ⟨k, hk, ?_⟩
      have hjk : j ≠ k := fun q => by
        rw [← q, hj, own_m1] at hki
        omega
      rw [sI, if_neg hjk]; exact hki
  · rw [sC] at ht ⊢
    by_cases e : j = k
    · rw [if_pos e] at ht ⊢
      rw [← e] at ht
      exact nI _ (t2 t (by omega)).1
    · rw [if_neg e] at ht ⊢
      rw [sI, if_neg e] at hk1
      exact nI _ (hC k hk hk1 t ht)
  · rw [sO, sO] at he
    by_cases e1 : n = i
    · by_cases e2 : n = i'
      · omega
      · rw [if_pos e1, if_neg e2] at he
        exact absurd he.symm (nf i' (by omega))
    · by_cases e2 : n = i'
      · rw [if_neg e1, if_pos e2] at he
        exact absurd he (nf i (by omega))
      · rw [if_neg e1, if_neg e2] at he
        exact hD i i' (by omega) (by omega) he
  · have hlt : j < SI.length := by omega
    have hg : SI[j] = (-1 : Int32) := by
      rw [List.getD_eq_getElem?_getD, List.getElem?_eq_getElem hlt] at hj
      exact hj
    have hpos : 0 < SI.countP (fun x => x == (-1 : Int32)) := List.countP_pos_iff.mpr ⟨SI[j], List.getElem_mem hlt, by rw [hg]; rfl⟩
    rw [List.countP_set hlt, hg, if_pos (by rfl), if_neg (by rw [beq_iff_eq]; exact hv1)]
    omega
theorem own_both {n cap n2 m2 : Nat} {c r q : Int32} {CO SE CO2 SE2 : List Int32} (hl : CO.length = cap) (hl5 : SE.length = 5) (hc4 : cap ≤ 4) (ag : own_Ag n CO SE) (hD : ∀ i i', i < n → i' < n → CO.getD i 0 = CO.getD i' 0 → i = i') (h1 : own_Res n cap c CO r n2 CO2) (h2 : own_Res n cap c SE q m2 SE2) : r = q ∧ n2 = m2 ∧ own_Ag n2 CO2 SE2 ∧ SE2.length = 5 := by
  rcases h1 with ⟨i, a1, a2, a3, rfl, rfl⟩ | ⟨a, b⟩
  · rcases h2 with ⟨k, b1, b2, b3, rfl, rfl⟩ | ⟨b, -⟩
    · have e : i = k := hD i k a1 b1 (by rw [a2, ← ag k b1, b2])
      exact ⟨Int32.toInt_inj.mp (by rw [a3, b3, e]), rfl, ag, hl5⟩
    · exact absurd ((ag i a1).trans a2) (b i a1)
  · rcases h2 with ⟨k, b1, b2, b3, rfl, rfl⟩ | ⟨-, d⟩
    · exact absurd ((ag k b1).symm.trans b2) (a k b1)
    · rcases b with ⟨x1, x2, rfl, rfl⟩ | ⟨x1, x2, rfl, rfl⟩
      · rcases d with ⟨y1, y2, rfl, rfl⟩ | ⟨y1, y2, rfl, rfl⟩
        · exact ⟨x2.trans y2.symm, rfl, ag, hl5⟩
        · omega
      · rcases d with ⟨y1, y2, rfl, rfl⟩ | ⟨y1, y2, rfl, rfl⟩
        · omega
        · refine ⟨Int32.toInt_inj.mp (by rw [x2, y2]), rfl, fun i hi => ?_, by rw [List.length_set]; exact hl5⟩
          rw [own_gs (by omega), own_gs (by omega)]
          by_cases e : n = i
          · rw [if_pos e, if_pos e]
          · rw [if_neg e, if_neg e]; exact ag i (by omega)
theorem own_sh {v : Int32} (h : 0 ≤ v.toInt ∧ v.toInt < 1000) : ((v.toInt16.toInt32).toInt16.toInt32) = v := by
  have h1 := c_i2s v
  have h2 : v.toInt16.toInt32 = v := Int32.toInt_inj.mp (by omega)
  rw [h2, h2]
theorem own_pn1 : plainName "java/lang/Integer" = true := by first | (simp [plainName, overriddenIn]; done) | decide +kernel
theorem d3_0 : decode jdk_33_method_47_code 0 = .ok (.iload_n 0, 1) := by decide +kernel
theorem d3_1 : decode jdk_33_method_47_code 1 = .ok (.ifCond .gt 14, 3) := by decide +kernel
theorem d3_15 : decode jdk_33_method_47_code 15 = .ok (.bipush 31, 2) := by decide +kernel
theorem d3_17 : decode jdk_33_method_47_code 17 = .ok (.istore_n 1, 1) := by decide +kernel
theorem d3_18 : decode jdk_33_method_47_code 18 = .ok (.iload_n 0, 1) := by decide +kernel
theorem d3_19 : decode jdk_33_method_47_code 19 = .ok (.ldc_w 264, 3) := by decide +kernel
theorem d3_22 : decode jdk_33_method_47_code 22 = .ok (.if_icmp .lt 11, 3) := by decide +kernel
theorem d3_33 : decode jdk_33_method_47_code 33 = .ok (.iload_n 0, 1) := by decide +kernel
theorem d3_34 : decode jdk_33_method_47_code 34 = .ok (.sipush 256, 3) := by decide +kernel
theorem d3_37 : decode jdk_33_method_47_code 37 = .ok (.if_icmp .lt 11, 3) := by decide +kernel
theorem d3_48 : decode jdk_33_method_47_code 48 = .ok (.iload_n 0, 1) := by decide +kernel
theorem d3_49 : decode jdk_33_method_47_code 49 = .ok (.bipush 16, 2) := by decide +kernel
theorem d3_51 : decode jdk_33_method_47_code 51 = .ok (.if_icmp .lt 10, 3) := by decide +kernel
theorem d3_61 : decode jdk_33_method_47_code 61 = .ok (.iload_n 0, 1) := by decide +kernel
theorem d3_62 : decode jdk_33_method_47_code 62 = .ok (.iconst 4, 1) := by decide +kernel
theorem d3_63 : decode jdk_33_method_47_code 63 = .ok (.if_icmp .lt 10, 3) := by decide +kernel
theorem d3_73 : decode jdk_33_method_47_code 73 = .ok (.iload_n 1, 1) := by decide +kernel
theorem d3_74 : decode jdk_33_method_47_code 74 = .ok (.iload_n 0, 1) := by decide +kernel
theorem d3_75 : decode jdk_33_method_47_code 75 = .ok (.iconst 1, 1) := by decide +kernel
theorem d3_76 : decode jdk_33_method_47_code 76 = .ok (.iushr, 1) := by decide +kernel
theorem d3_77 : decode jdk_33_method_47_code 77 = .ok (.isub, 1) := by decide +kernel
theorem d3_78 : decode jdk_33_method_47_code 78 = .ok (.ireturn, 1) := by decide +kernel
theorem ef_3c1 (m : MethodId) (x0 : Int32) : entryFrame m #[(.int x0)] 2 = mkF m 0 #[.val (.int x0), .unset] [] := by first | (simp [entryFrame, mkF, argsToLocals, Value.category]; done) | rfl
def Q3c1 (Z : State)  (h0 : Heap) (n0 : Nat) (v : Option Value) (h : Heap) (L : List Loc) : Prop := v = some (.int (31 : Int32)) ∧ Fr n0 L ∧ h = h0
set_option maxHeartbeats 40000000 in
theorem rm3c1 (l : Launch) (Z : State) (a0 : Array Value) (hw : ∀ d ∈ tables_1, d.before a0 Z = true) (ws : List Jvm.Cond)  (h0 : Heap) (n0 : Nat) (Z0 : n0 ≤ h0.size) :
    MetFree l (⟨"java/lang/Integer", "numberOfLeadingZeros", "(I)I"⟩ : MethodName) (head1 (Jvm.Cond.code (⟨"java/lang/Integer", "numberOfLeadingZeros", "(I)I"⟩ : MethodName) jdk_33_method_47_code 2 (some .int) :: ws) ({ frames := 0, cells := 0, slots := 0, locals := 0 } : Room)) (fun a U => a = #[(.int (((2 : Int32) * (1 : Int32)) - (1 : Int32)))] ∧ Z.Warmed39 U.vm ∧ U.heap = h0) (fun _ _ _ _ _ => True) (fun _ U o U' => ∃ v L, o = .returned v ∧ Q3c1 Z h0 n0 v U'.heap L ∧ FrameEnd U o U' L ({ frames := 0, cells := 0, slots := 0, locals := 0 } : Room).cells ({ frames := 0, cells := 0, slots := 0, locals := 0 } : Room).slots) := by
  refine MetFree.of_bodySF (plainFor_of_name own_pn1) hisR ?_
  intro p e s m args below meth c s₁ Bd hml0 hP hK
  obtain ⟨rfl, hZ, hh⟩ := hP
  have hx := Bd.exec
  have hby := Bd.bytes
  have hml : c.maxLocals = 2 := hml0
  have hlk : meth.locks = false := BodyLoose.notSynchronized Bd
  have hown : s.vm.findClass "java/lang/Integer" = some m.cls := findClass_of_methodNamed Bd.named
  have hnm := (name_of_methodNamed Bd.named Bd.method).1
  have X0 : Stand p l e ({ frames := 0, cells := 0, slots := 0, locals := 0 } : Room) s m #[(.int (((2 : Int32) * (1 : Int32)) - (1 : Int32)))] below meth c s₁ [] 0 0 := Stand.of_body Bd
  have e0 : s₁.heap = h0 := by rw [← hh, Bd.state]; rfl
  have N0 := Fr.nil n0
  show own_Go p e below s (Q3c1 Z h0 n0) ({ frames := 0, cells := 0, slots := 0, locals := 0 } : Room).cells ({ frames := 0, cells := 0, slots := 0, locals := 0 } : Room).slots _
  refine own_st (B := s₁.setTop (mkF m 0 #[.val (.int (((2 : Int32) * (1 : Int32)) - (1 : Int32))), .unset] [])) (fun t k => castTop (ef_3c1 m ((((2 : Int32) * (1 : Int32)) - (1 : Int32)))) k) ?_
  refine own_st (B := s₁.setTop (mkF m 1 #[.val (.int (((2 : Int32) * (1 : Int32)) - (1 : Int32))), .unset] [(.int (((2 : Int32) * (1 : Int32)) - (1 : Int32)))])) (fun t k => XS.iloadN X0.here hx rfl (hb hby d3_0) rfl k) ?_
  refine own_st (B := s₁.setTop (mkF m 15 #[.val (.int (((2 : Int32) * (1 : Int32)) - (1 : Int32))), .unset] [])) (fun t k => XS.ifYes X0.here hx rfl (pc0 := 1) (pc' := 15) rfl (hb hby d3_1) rfl (by decide) (by decide) (by decide) k) ?_
  refine own_st (B := s₁.setTop (mkF m 17 #[.val (.int (((2 : Int32) * (1 : Int32)) - (1 : Int32))), .unset] [(.int (31 : Int32))])) (fun t k => XS.bipush X0.here hx rfl (hb hby d3_15) k) ?_
  refine own_st (B := s₁.setTop (mkF m 18 #[.val (.int (((2 : Int32) * (1 : Int32)) - (1 : Int32))), .val (.int (31 : Int32))] [])) (fun t k => XS.istoreN X0.here hx rfl (hb hby d3_17) rfl (l' := #[.val (.int (((2 : Int32) * (1 : Int32)) - (1 : Int32))), .val (.int (31 : Int32))]) rfl k) ?_
  refine own_st (B := s₁.setTop (mkF m 19 #[.val (.int (((2 : Int32) * (1 : Int32)) - (1 : Int32))), .val (.int (31 : Int32))] [(.int (((2 : Int32) * (1 : Int32)) - (1 : Int32)))])) (fun t k => XS.iloadN X0.here hx rfl (hb hby d3_18) rfl k) ?_
  refine own_st (B := s₁.setTop (mkF m 22 #[.val (.int (((2 : Int32) * (1 : Int32)) - (1 : Int32))), .val (.int (31 : Int32))] [(.int (65536 : Int32)), (.int (((2 : Int32) * (1 : Int32)) - (1 : Int32)))])) (fun t k => X0.ldcWInt hx hown (mvT hZ (w_16 hw)) (g := (mkF m 19 #[.val (.int (((2 : Int32) * (1 : Int32)) - (1 : Int32))), .val (.int (31 : Int32))] [(.int (((2 : Int32) * (1 : Int32)) - (1 : Int32)))])) rfl (hb hby d3_19) _ k) ?_
  refine own_st (B := s₁.setTop (mkF m 33 #[.val (.int (((2 : Int32) * (1 : Int32)) - (1 : Int32))), .val (.int (31 : Int32))] [])) (fun t k => XS.icmpYes X0.here hx rfl (pc0 := 22) (pc' := 33) rfl (hb hby d3_22) rfl (by decide) (by decide) (by decide) k) ?_
  refine own_st (B := s₁.setTop (mkF m 34 #[.val (.int (((2 : Int32) * (1 : Int32)) - (1 : Int32))), .val (.int (31 : Int32))] [(.int (((2 : Int32) * (1 : Int32)) - (1 : Int32)))])) (fun t k => XS.iloadN X0.here hx rfl (hb hby d3_33) rfl k) ?_
  refine own_st (B := s₁.setTop (mkF m 37 #[.val (.int (((2 : Int32) * (1 : Int32)) - (1 : Int32))), .val (.int (31 : Int32))] [(.int (256 : Int32)), (.int (((2 : Int32) * (1 : Int32)) - (1 : Int32)))])) (fun t k => XS.sipush X0.here hx rfl (hb hby d3_34) k) ?_
  refine own_st (B := s₁.setTop (mkF m 48 #[.val (.int (((2 : Int32) * (1 : Int32)) - (1 : Int32))), .val (.int (31 : Int32))] [])) (fun t k => XS.icmpYes X0.here hx rfl (pc0 := 37) (pc' := 48) rfl (hb hby d3_37) rfl (by decide) (by decide) (by decide) k) ?_
  refine own_st (B := s₁.setTop (mkF m 49 #[.val (.int (((2 : Int32) * (1 : Int32)) - (1 : Int32))), .val (.int (31 : Int32))] [(.int (((2 : Int32) * (1 : Int32)) - (1 : Int32)))])) (fun t k => XS.iloadN X0.here hx rfl (hb hby d3_48) rfl k) ?_
  refine own_st (B := s₁.setTop (mkF m 51 #[.val (.int (((2 : Int32) * (1 : Int32)) - (1 : Int32))), .val (.int (31 : Int32))] [(.int (16 : Int32)), (.int (((2 : Int32) * (1 : Int32)) - (1 : Int32)))])) (fun t k => XS.bipush X0.here hx rfl (hb hby d3_49) k) ?_
  refine own_st (B := s₁.setTop (mkF m 61 #[.val (.int (((2 : Int32) * (1 : Int32)) - (1 : Int32))), .val (.int (31 : Int32))] [])) (fun t k => XS.icmpYes X0.here hx rfl (pc0 := 51) (pc' := 61) rfl (hb hby d3_51) rfl (by decide) (by decide) (by decide) k) ?_
  refine own_st (B := s₁.setTop (mkF m 62 #[.val (.int (((2 : Int32) * (1 : Int32)) - (1 : Int32))), .val (.int (31 : Int32))] [(.int (((2 : Int32) * (1 : Int32)) - (1 : Int32)))])) (fun t k => XS.iloadN X0.here hx rfl (hb hby d3_61) rfl k) ?_
  refine own_st (B := s₁.setTop (mkF m 63 #[.val (.int (((2 : Int32) * (1 : Int32)) - (1 : Int32))), .val (.int (31 : Int32))] [(.int (4 : Int32)), (.int (((2 : Int32) * (1 : Int32)) - (1 : Int32)))])) (fun t k => XS.iconst X0.here hx rfl (hb hby d3_62) k) ?_
  refine own_st (B := s₁.setTop (mkF m 73 #[.val (.int (((2 : Int32) * (1 : Int32)) - (1 : Int32))), .val (.int (31 : Int32))] [])) (fun t k => XS.icmpYes X0.here hx rfl (pc0 := 63) (pc' := 73) rfl (hb hby d3_63) rfl (by decide) (by decide) (by decide) k) ?_
  refine own_st (B := s₁.setTop (mkF m 74 #[.val (.int (((2 : Int32) * (1 : Int32)) - (1 : Int32))), .val (.int (31 : Int32))] [(.int (31 : Int32))])) (fun t k => XS.iloadN X0.here hx rfl (hb hby d3_73) rfl k) ?_
  refine own_st (B := s₁.setTop (mkF m 75 #[.val (.int (((2 : Int32) * (1 : Int32)) - (1 : Int32))), .val (.int (31 : Int32))] [(.int (((2 : Int32) * (1 : Int32)) - (1 : Int32))), (.int (31 : Int32))])) (fun t k => XS.iloadN X0.here hx rfl (hb hby d3_74) rfl k) ?_
  refine own_st (B := s₁.setTop (mkF m 76 #[.val (.int (((2 : Int32) * (1 : Int32)) - (1 : Int32))), .val (.int (31 : Int32))] [(.int (1 : Int32)), (.int (((2 : Int32) * (1 : Int32)) - (1 : Int32))), (.int (31 : Int32))])) (fun t k => XS.iconst X0.here hx rfl (hb hby d3_75) k) ?_
  refine own_st (B := s₁.setTop (mkF m 77 #[.val (.int (((2 : Int32) * (1 : Int32)) - (1 : Int32))), .val (.int (31 : Int32))] [(.int (((((2 : Int32) * (1 : Int32)) - (1 : Int32)).toUInt32 >>> ((1 : Int32) &&& 31).toUInt32).toInt32)), (.int (31 : Int32))])) (fun t k => XS.iushr X0.here hx rfl (hb hby d3_76) rfl k) ?_
  refine own_st (B := s₁.setTop (mkF m 78 #[.val (.int (((2 : Int32) * (1 : Int32)) - (1 : Int32))), .val (.int (31 : Int32))] [(.int ((31 : Int32) - (((((2 : Int32) * (1 : Int32)) - (1 : Int32)).toUInt32 >>> ((1 : Int32) &&& 31).toUInt32).toInt32)))])) (fun t k => XS.isub X0.here hx rfl (hb hby d3_77) rfl k) ?_
  refine own_retI X0 hx hlk Bd.returns (hb hby d3_78) (by decide) (by decide) ?_
  show Q3c1 Z h0 n0 _ s₁.heap _
  rw [e0]
  exact ⟨(congrArg (fun q => some (Value.int q)) (show ((31 : Int32) - (((((2 : Int32) * (1 : Int32)) - (1 : Int32)).toUInt32 >>> ((1 : Int32) &&& 31).toUInt32).toInt32)) = (31 : Int32) from by decide)), N0, rfl⟩
theorem ef_3c2 (m : MethodId) (x0 : Int32) : entryFrame m #[(.int x0)] 2 = mkF m 0 #[.val (.int x0), .unset] [] := by first | (simp [entryFrame, mkF, argsToLocals, Value.category]; done) | rfl
def Q3c2 (Z : State)  (h0 : Heap) (n0 : Nat) (v : Option Value) (h : Heap) (L : List Loc) : Prop := v = some (.int (30 : Int32)) ∧ Fr n0 L ∧ h = h0
set_option maxHeartbeats 40000000 in
theorem rm3c2 (l : Launch) (Z : State) (a0 : Array Value) (hw : ∀ d ∈ tables_1, d.before a0 Z = true) (ws : List Jvm.Cond)  (h0 : Heap) (n0 : Nat) (Z0 : n0 ≤ h0.size) :
    MetFree l (⟨"java/lang/Integer", "numberOfLeadingZeros", "(I)I"⟩ : MethodName) (head1 (Jvm.Cond.code (⟨"java/lang/Integer", "numberOfLeadingZeros", "(I)I"⟩ : MethodName) jdk_33_method_47_code 2 (some .int) :: ws) ({ frames := 0, cells := 0, slots := 0, locals := 0 } : Room)) (fun a U => a = #[(.int (((2 : Int32) * (2 : Int32)) - (1 : Int32)))] ∧ Z.Warmed39 U.vm ∧ U.heap = h0) (fun _ _ _ _ _ => True) (fun _ U o U' => ∃ v L, o = .returned v ∧ Q3c2 Z h0 n0 v U'.heap L ∧ FrameEnd U o U' L ({ frames := 0, cells := 0, slots := 0, locals := 0 } : Room).cells ({ frames := 0, cells := 0, slots := 0, locals := 0 } : Room).slots) := by
  refine MetFree.of_bodySF (plainFor_of_name own_pn1) hisR ?_
  intro p e s m args below meth c s₁ Bd hml0 hP hK
  obtain ⟨rfl, hZ, hh⟩ := hP
  have hx := Bd.exec
  have hby := Bd.bytes
  have hml : c.maxLocals = 2 := hml0
  have hlk : meth.locks = false := BodyLoose.notSynchronized Bd
  have hown : s.vm.findClass "java/lang/Integer" = some m.cls := findClass_of_methodNamed Bd.named
  have hnm := (name_of_methodNamed Bd.named Bd.method).1
  have X0 : Stand p l e ({ frames := 0, cells := 0, slots := 0, locals := 0 } : Room) s m #[(.int (((2 : Int32) * (2 : Int32)) - (1 : Int32)))] below meth c s₁ [] 0 0 := Stand.of_body Bd
  have e0 : s₁.heap = h0 := by rw [← hh, Bd.state]; rfl
  have N0 := Fr.nil n0
  show own_Go p e below s (Q3c2 Z h0 n0) ({ frames := 0, cells := 0, slots := 0, locals := 0 } : Room).cells ({ frames := 0, cells := 0, slots := 0, locals := 0 } : Room).slots _
  refine own_st (B := s₁.setTop (mkF m 0 #[.val (.int (((2 : Int32) * (2 : Int32)) - (1 : Int32))), .unset] [])) (fun t k => castTop (ef_3c2 m ((((2 : Int32) * (2 : Int32)) - (1 : Int32)))) k) ?_
  refine own_st (B := s₁.setTop (mkF m 1 #[.val (.int (((2 : Int32) * (2 : Int32)) - (1 : Int32))), .unset] [(.int (((2 : Int32) * (2 : Int32)) - (1 : Int32)))])) (fun t k => XS.iloadN X0.here hx rfl (hb hby d3_0) rfl k) ?_
  refine own_st (B := s₁.setTop (mkF m 15 #[.val (.int (((2 : Int32) * (2 : Int32)) - (1 : Int32))), .unset] [])) (fun t k => XS.ifYes X0.here hx rfl (pc0 := 1) (pc' := 15) rfl (hb hby d3_1) rfl (by decide) (by decide) (by decide) k) ?_
  refine own_st (B := s₁.setTop (mkF m 17 #[.val (.int (((2 : Int32) * (2 : Int32)) - (1 : Int32))), .unset] [(.int (31 : Int32))])) (fun t k => XS.bipush X0.here hx rfl (hb hby d3_15) k) ?_
  refine own_st (B := s₁.setTop (mkF m 18 #[.val (.int (((2 : Int32) * (2 : Int32)) - (1 : Int32))), .val (.int (31 : Int32))] [])) (fun t k => XS.istoreN X0.here hx rfl (hb hby d3_17) rfl (l' := #[.val (.int (((2 : Int32) * (2 : Int32)) - (1 : Int32))), .val (.int (31 : Int32))]) rfl k) ?_
  refine own_st (B := s₁.setTop (mkF m 19 #[.val (.int (((2 : Int32) * (2 : Int32)) - (1 : Int32))), .val (.int (31 : Int32))] [(.int (((2 : Int32) * (2 : Int32)) - (1 : Int32)))])) (fun t k => XS.iloadN X0.here hx rfl (hb hby d3_18) rfl k) ?_
  refine own_st (B := s₁.setTop (mkF m 22 #[.val (.int (((2 : Int32) * (2 : Int32)) - (1 : Int32))), .val (.int (31 : Int32))] [(.int (65536 : Int32)), (.int (((2 : Int32) * (2 : Int32)) - (1 : Int32)))])) (fun t k => X0.ldcWInt hx hown (mvT hZ (w_16 hw)) (g := (mkF m 19 #[.val (.int (((2 : Int32) * (2 : Int32)) - (1 : Int32))), .val (.int (31 : Int32))] [(.int (((2 : Int32) * (2 : Int32)) - (1 : Int32)))])) rfl (hb hby d3_19) _ k) ?_
  refine own_st (B := s₁.setTop (mkF m 33 #[.val (.int (((2 : Int32) * (2 : Int32)) - (1 : Int32))), .val (.int (31 : Int32))] [])) (fun t k => XS.icmpYes X0.here hx rfl (pc0 := 22) (pc' := 33) rfl (hb hby d3_22) rfl (by decide) (by decide) (by decide) k) ?_
  refine own_st (B := s₁.setTop (mkF m 34 #[.val (.int (((2 : Int32) * (2 : Int32)) - (1 : Int32))), .val (.int (31 : Int32))] [(.int (((2 : Int32) * (2 : Int32)) - (1 : Int32)))])) (fun t k => XS.iloadN X0.here hx rfl (hb hby d3_33) rfl k) ?_
  refine own_st (B := s₁.setTop (mkF m 37 #[.val (.int (((2 : Int32) * (2 : Int32)) - (1 : Int32))), .val (.int (31 : Int32))] [(.int (256 : Int32)), (.int (((2 : Int32) * (2 : Int32)) - (1 : Int32)))])) (fun t k => XS.sipush X0.here hx rfl (hb hby d3_34) k) ?_
  refine own_st (B := s₁.setTop (mkF m 48 #[.val (.int (((2 : Int32) * (2 : Int32)) - (1 : Int32))), .val (.int (31 : Int32))] [])) (fun t k => XS.icmpYes X0.here hx rfl (pc0 := 37) (pc' := 48) rfl (hb hby d3_37) rfl (by decide) (by decide) (by decide) k) ?_
  refine own_st (B := s₁.setTop (mkF m 49 #[.val (.int (((2 : Int32) * (2 : Int32)) - (1 : Int32))), .val (.int (31 : Int32))] [(.int (((2 : Int32) * (2 : Int32)) - (1 : Int32)))])) (fun t k => XS.iloadN X0.here hx rfl (hb hby d3_48) rfl k) ?_
  refine own_st (B := s₁.setTop (mkF m 51 #[.val (.int (((2 : Int32) * (2 : Int32)) - (1 : Int32))), .val (.int (31 : Int32))] [(.int (16 : Int32)), (.int (((2 : Int32) * (2 : Int32)) - (1 : Int32)))])) (fun t k => XS.bipush X0.here hx rfl (hb hby d3_49) k) ?_
  refine own_st (B := s₁.setTop (mkF m 61 #[.val (.int (((2 : Int32) * (2 : Int32)) - (1 : Int32))), .val (.int (31 : Int32))] [])) (fun t k => XS.icmpYes X0.here hx rfl (pc0 := 51) (pc' := 61) rfl (hb hby d3_51) rfl (by decide) (by decide) (by decide) k) ?_
  refine own_st (B := s₁.setTop (mkF m 62 #[.val (.int (((2 : Int32) * (2 : Int32)) - (1 : Int32))), .val (.int (31 : Int32))] [(.int (((2 : Int32) * (2 : Int32)) - (1 : Int32)))])) (fun t k => XS.iloadN X0.here hx rfl (hb hby d3_61) rfl k) ?_
  refine own_st (B := s₁.setTop (mkF m 63 #[.val (.int (((2 : Int32) * (2 : Int32)) - (1 : Int32))), .val (.int (31 : Int32))] [(.int (4 : Int32)), (.int (((2 : Int32) * (2 : Int32)) - (1 : Int32)))])) (fun t k => XS.iconst X0.here hx rfl (hb hby d3_62) k) ?_
  refine own_st (B := s₁.setTop (mkF m 73 #[.val (.int (((2 : Int32) * (2 : Int32)) - (1 : Int32))), .val (.int (31 : Int32))] [])) (fun t k => XS.icmpYes X0.here hx rfl (pc0 := 63) (pc' := 73) rfl (hb hby d3_63) rfl (by decide) (by decide) (by decide) k) ?_
  refine own_st (B := s₁.setTop (mkF m 74 #[.val (.int (((2 : Int32) * (2 : Int32)) - (1 : Int32))), .val (.int (31 : Int32))] [(.int (31 : Int32))])) (fun t k => XS.iloadN X0.here hx rfl (hb hby d3_73) rfl k) ?_
  refine own_st (B := s₁.setTop (mkF m 75 #[.val (.int (((2 : Int32) * (2 : Int32)) - (1 : Int32))), .val (.int (31 : Int32))] [(.int (((2 : Int32) * (2 : Int32)) - (1 : Int32))), (.int (31 : Int32))])) (fun t k => XS.iloadN X0.here hx rfl (hb hby d3_74) rfl k) ?_
  refine own_st (B := s₁.setTop (mkF m 76 #[.val (.int (((2 : Int32) * (2 : Int32)) - (1 : Int32))), .val (.int (31 : Int32))] [(.int (1 : Int32)), (.int (((2 : Int32) * (2 : Int32)) - (1 : Int32))), (.int (31 : Int32))])) (fun t k => XS.iconst X0.here hx rfl (hb hby d3_75) k) ?_
  refine own_st (B := s₁.setTop (mkF m 77 #[.val (.int (((2 : Int32) * (2 : Int32)) - (1 : Int32))), .val (.int (31 : Int32))] [(.int (((((2 : Int32) * (2 : Int32)) - (1 : Int32)).toUInt32 >>> ((1 : Int32) &&& 31).toUInt32).toInt32)), (.int (31 : Int32))])) (fun t k => XS.iushr X0.here hx rfl (hb hby d3_76) rfl k) ?_
  refine own_st (B := s₁.setTop (mkF m 78 #[.val (.int (((2 : Int32) * (2 : Int32)) - (1 : Int32))), .val (.int (31 : Int32))] [(.int ((31 : Int32) - (((((2 : Int32) * (2 : Int32)) - (1 : Int32)).toUInt32 >>> ((1 : Int32) &&& 31).toUInt32).toInt32)))])) (fun t k => XS.isub X0.here hx rfl (hb hby d3_77) rfl k) ?_
  refine own_retI X0 hx hlk Bd.returns (hb hby d3_78) (by decide) (by decide) ?_
  show Q3c2 Z h0 n0 _ s₁.heap _
  rw [e0]
  exact ⟨(congrArg (fun q => some (Value.int q)) (show ((31 : Int32) - (((((2 : Int32) * (2 : Int32)) - (1 : Int32)).toUInt32 >>> ((1 : Int32) &&& 31).toUInt32).toInt32)) = (30 : Int32) from by decide)), N0, rfl⟩
theorem d3_66 : decode jdk_33_method_47_code 66 = .ok (.iinc 1 (-2), 3) := by decide +kernel
theorem d3_69 : decode jdk_33_method_47_code 69 = .ok (.iload_n 0, 1) := by decide +kernel
theorem d3_70 : decode jdk_33_method_47_code 70 = .ok (.iconst 2, 1) := by decide +kernel
theorem d3_71 : decode jdk_33_method_47_code 71 = .ok (.iushr, 1) := by decide +kernel
theorem d3_72 : decode jdk_33_method_47_code 72 = .ok (.istore_n 0, 1) := by decide +kernel
theorem ef_3c3 (m : MethodId) (x0 : Int32) : entryFrame m #[(.int x0)] 2 = mkF m 0 #[.val (.int x0), .unset] [] := by first | (simp [entryFrame, mkF, argsToLocals, Value.category]; done) | rfl
def Q3c3 (Z : State)  (h0 : Heap) (n0 : Nat) (v : Option Value) (h : Heap) (L : List Loc) : Prop := v = some (.int (29 : Int32)) ∧ Fr n0 L ∧ h = h0
set_option maxHeartbeats 40000000 in
theorem rm3c3 (l : Launch) (Z : State) (a0 : Array Value) (hw : ∀ d ∈ tables_1, d.before a0 Z = true) (ws : List Jvm.Cond)  (h0 : Heap) (n0 : Nat) (Z0 : n0 ≤ h0.size) :
    MetFree l (⟨"java/lang/Integer", "numberOfLeadingZeros", "(I)I"⟩ : MethodName) (head1 (Jvm.Cond.code (⟨"java/lang/Integer", "numberOfLeadingZeros", "(I)I"⟩ : MethodName) jdk_33_method_47_code 2 (some .int) :: ws) ({ frames := 0, cells := 0, slots := 0, locals := 0 } : Room)) (fun a U => a = #[(.int (((2 : Int32) * (3 : Int32)) - (1 : Int32)))] ∧ Z.Warmed39 U.vm ∧ U.heap = h0) (fun _ _ _ _ _ => True) (fun _ U o U' => ∃ v L, o = .returned v ∧ Q3c3 Z h0 n0 v U'.heap L ∧ FrameEnd U o U' L ({ frames := 0, cells := 0, slots := 0, locals := 0 } : Room).cells ({ frames := 0, cells := 0, slots := 0, locals := 0 } : Room).slots) := by
  refine MetFree.of_bodySF (plainFor_of_name own_pn1) hisR ?_
  intro p e s m args below meth c s₁ Bd hml0 hP hK
  obtain ⟨rfl, hZ, hh⟩ := hP
  have hx := Bd.exec
  have hby := Bd.bytes
  have hml : c.maxLocals = 2 := hml0
  have hlk : meth.locks = false := BodyLoose.notSynchronized Bd
  have hown : s.vm.findClass "java/lang/Integer" = some m.cls := findClass_of_methodNamed Bd.named
  have hnm := (name_of_methodNamed Bd.named Bd.method).1
  have X0 : Stand p l e ({ frames := 0, cells := 0, slots := 0, locals := 0 } : Room) s m #[(.int (((2 : Int32) * (3 : Int32)) - (1 : Int32)))] below meth c s₁ [] 0 0 := Stand.of_body Bd
  have e0 : s₁.heap = h0 := by rw [← hh, Bd.state]; rfl
  have N0 := Fr.nil n0
  show own_Go p e below s (Q3c3 Z h0 n0) ({ frames := 0, cells := 0, slots := 0, locals := 0 } : Room).cells ({ frames := 0, cells := 0, slots := 0, locals := 0 } : Room).slots _
  refine own_st (B := s₁.setTop (mkF m 0 #[.val (.int (((2 : Int32) * (3 : Int32)) - (1 : Int32))), .unset] [])) (fun t k => castTop (ef_3c3 m ((((2 : Int32) * (3 : Int32)) - (1 : Int32)))) k) ?_
  refine own_st (B := s₁.setTop (mkF m 1 #[.val (.int (((2 : Int32) * (3 : Int32)) - (1 : Int32))), .unset] [(.int (((2 : Int32) * (3 : Int32)) - (1 : Int32)))])) (fun t k => XS.iloadN X0.here hx rfl (hb hby d3_0) rfl k) ?_
  refine own_st (B := s₁.setTop (mkF m 15 #[.val (.int (((2 : Int32) * (3 : Int32)) - (1 : Int32))), .unset] [])) (fun t k => XS.ifYes X0.here hx rfl (pc0 := 1) (pc' := 15) rfl (hb hby d3_1) rfl (by decide) (by decide) (by decide) k) ?_
  refine own_st (B := s₁.setTop (mkF m 17 #[.val (.int (((2 : Int32) * (3 : Int32)) - (1 : Int32))), .unset] [(.int (31 : Int32))])) (fun t k => XS.bipush X0.here hx rfl (hb hby d3_15) k) ?_
  refine own_st (B := s₁.setTop (mkF m 18 #[.val (.int (((2 : Int32) * (3 : Int32)) - (1 : Int32))), .val (.int (31 : Int32))] [])) (fun t k => XS.istoreN X0.here hx rfl (hb hby d3_17) rfl (l' := #[.val (.int (((2 : Int32) * (3 : Int32)) - (1 : Int32))), .val (.int (31 : Int32))]) rfl k) ?_
  refine own_st (B := s₁.setTop (mkF m 19 #[.val (.int (((2 : Int32) * (3 : Int32)) - (1 : Int32))), .val (.int (31 : Int32))] [(.int (((2 : Int32) * (3 : Int32)) - (1 : Int32)))])) (fun t k => XS.iloadN X0.here hx rfl (hb hby d3_18) rfl k) ?_
  refine own_st (B := s₁.setTop (mkF m 22 #[.val (.int (((2 : Int32) * (3 : Int32)) - (1 : Int32))), .val (.int (31 : Int32))] [(.int (65536 : Int32)), (.int (((2 : Int32) * (3 : Int32)) - (1 : Int32)))])) (fun t k => X0.ldcWInt hx hown (mvT hZ (w_16 hw)) (g := (mkF m 19 #[.val (.int (((2 : Int32) * (3 : Int32)) - (1 : Int32))), .val (.int (31 : Int32))] [(.int (((2 : Int32) * (3 : Int32)) - (1 : Int32)))])) rfl (hb hby d3_19) _ k) ?_
  refine own_st (B := s₁.setTop (mkF m 33 #[.val (.int (((2 : Int32) * (3 : Int32)) - (1 : Int32))), .val (.int (31 : Int32))] [])) (fun t k => XS.icmpYes X0.here hx rfl (pc0 := 22) (pc' := 33) rfl (hb hby d3_22) rfl (by decide) (by decide) (by decide) k) ?_
  refine own_st (B := s₁.setTop (mkF m 34 #[.val (.int (((2 : Int32) * (3 : Int32)) - (1 : Int32))), .val (.int (31 : Int32))] [(.int (((2 : Int32) * (3 : Int32)) - (1 : Int32)))])) (fun t k => XS.iloadN X0.here hx rfl (hb hby d3_33) rfl k) ?_
  refine own_st (B := s₁.setTop (mkF m 37 #[.val (.int (((2 : Int32) * (3 : Int32)) - (1 : Int32))), .val (.int (31 : Int32))] [(.int (256 : Int32)), (.int (((2 : Int32) * (3 : Int32)) - (1 : Int32)))])) (fun t k => XS.sipush X0.here hx rfl (hb hby d3_34) k) ?_
  refine own_st (B := s₁.setTop (mkF m 48 #[.val (.int (((2 : Int32) * (3 : Int32)) - (1 : Int32))), .val (.int (31 : Int32))] [])) (fun t k => XS.icmpYes X0.here hx rfl (pc0 := 37) (pc' := 48) rfl (hb hby d3_37) rfl (by decide) (by decide) (by decide) k) ?_
  refine own_st (B := s₁.setTop (mkF m 49 #[.val (.int (((2 : Int32) * (3 : Int32)) - (1 : Int32))), .val (.int (31 : Int32))] [(.int (((2 : Int32) * (3 : Int32)) - (1 : Int32)))])) (fun t k => XS.iloadN X0.here hx rfl (hb hby d3_48) rfl k) ?_
  refine own_st (B := s₁.setTop (mkF m 51 #[.val (.int (((2 : Int32) * (3 : Int32)) - (1 : Int32))), .val (.int (31 : Int32))] [(.int (16 : Int32)), (.int (((2 : Int32) * (3 : Int32)) - (1 : Int32)))])) (fun t k => XS.bipush X0.here hx rfl (hb hby d3_49) k) ?_
  refine own_st (B := s₁.setTop (mkF m 61 #[.val (.int (((2 : Int32) * (3 : Int32)) - (1 : Int32))), .val (.int (31 : Int32))] [])) (fun t k => XS.icmpYes X0.here hx rfl (pc0 := 51) (pc' := 61) rfl (hb hby d3_51) rfl (by decide) (by decide) (by decide) k) ?_
  refine own_st (B := s₁.setTop (mkF m 62 #[.val (.int (((2 : Int32) * (3 : Int32)) - (1 : Int32))), .val (.int (31 : Int32))] [(.int (((2 : Int32) * (3 : Int32)) - (1 : Int32)))])) (fun t k => XS.iloadN X0.here hx rfl (hb hby d3_61) rfl k) ?_
  refine own_st (B := s₁.setTop (mkF m 63 #[.val (.int (((2 : Int32) * (3 : Int32)) - (1 : Int32))), .val (.int (31 : Int32))] [(.int (4 : Int32)), (.int (((2 : Int32) * (3 : Int32)) - (1 : Int32)))])) (fun t k => XS.iconst X0.here hx rfl (hb hby d3_62) k) ?_
  refine own_st (B := s₁.setTop (mkF m 66 #[.val (.int (((2 : Int32) * (3 : Int32)) - (1 : Int32))), .val (.int (31 : Int32))] [])) (fun t k => XS.icmpNo X0.here hx rfl (hb hby d3_63) rfl (by decide) k) ?_
  refine own_st (B := s₁.setTop (mkF m 69 #[.val (.int (((2 : Int32) * (3 : Int32)) - (1 : Int32))), .val (.int ((31 : Int32) + (-2 : Int32)))] [])) (fun t k => XS.iinc X0.here hx rfl (hb hby d3_66) rfl (l' := #[.val (.int (((2 : Int32) * (3 : Int32)) - (1 : Int32))), .val (.int ((31 : Int32) + (-2 : Int32)))]) rfl k) ?_
  refine own_st (B := s₁.setTop (mkF m 70 #[.val (.int (((2 : Int32) * (3 : Int32)) - (1 : Int32))), .val (.int ((31 : Int32) + (-2 : Int32)))] [(.int (((2 : Int32) * (3 : Int32)) - (1 : Int32)))])) (fun t k => XS.iloadN X0.here hx rfl (hb hby d3_69) rfl k) ?_
  refine own_st (B := s₁.setTop (mkF m 71 #[.val (.int (((2 : Int32) * (3 : Int32)) - (1 : Int32))), .val (.int ((31 : Int32) + (-2 : Int32)))] [(.int (2 : Int32)), (.int (((2 : Int32) * (3 : Int32)) - (1 : Int32)))])) (fun t k => XS.iconst X0.here hx rfl (hb hby d3_70) k) ?_
  refine own_st (B := s₁.setTop (mkF m 72 #[.val (.int (((2 : Int32) * (3 : Int32)) - (1 : Int32))), .val (.int ((31 : Int32) + (-2 : Int32)))] [(.int (((((2 : Int32) * (3 : Int32)) - (1 : Int32)).toUInt32 >>> ((2 : Int32) &&& 31).toUInt32).toInt32))])) (fun t k => XS.iushr X0.here hx rfl (hb hby d3_71) rfl k) ?_
  refine own_st (B := s₁.setTop (mkF m 73 #[.val (.int (((((2 : Int32) * (3 : Int32)) - (1 : Int32)).toUInt32 >>> ((2 : Int32) &&& 31).toUInt32).toInt32)), .val (.int ((31 : Int32) + (-2 : Int32)))] [])) (fun t k => XS.istoreN X0.here hx rfl (hb hby d3_72) rfl (l' := #[.val (.int (((((2 : Int32) * (3 : Int32)) - (1 : Int32)).toUInt32 >>> ((2 : Int32) &&& 31).toUInt32).toInt32)), .val (.int ((31 : Int32) + (-2 : Int32)))]) rfl k) ?_
  refine own_st (B := s₁.setTop (mkF m 74 #[.val (.int (((((2 : Int32) * (3 : Int32)) - (1 : Int32)).toUInt32 >>> ((2 : Int32) &&& 31).toUInt32).toInt32)), .val (.int ((31 : Int32) + (-2 : Int32)))] [(.int ((31 : Int32) + (-2 : Int32)))])) (fun t k => XS.iloadN X0.here hx rfl (hb hby d3_73) rfl k) ?_
  refine own_st (B := s₁.setTop (mkF m 75 #[.val (.int (((((2 : Int32) * (3 : Int32)) - (1 : Int32)).toUInt32 >>> ((2 : Int32) &&& 31).toUInt32).toInt32)), .val (.int ((31 : Int32) + (-2 : Int32)))] [(.int (((((2 : Int32) * (3 : Int32)) - (1 : Int32)).toUInt32 >>> ((2 : Int32) &&& 31).toUInt32).toInt32)), (.int ((31 : Int32) + (-2 : Int32)))])) (fun t k => XS.iloadN X0.here hx rfl (hb hby d3_74) rfl k) ?_
  refine own_st (B := s₁.setTop (mkF m 76 #[.val (.int (((((2 : Int32) * (3 : Int32)) - (1 : Int32)).toUInt32 >>> ((2 : Int32) &&& 31).toUInt32).toInt32)), .val (.int ((31 : Int32) + (-2 : Int32)))] [(.int (1 : Int32)), (.int (((((2 : Int32) * (3 : Int32)) - (1 : Int32)).toUInt32 >>> ((2 : Int32) &&& 31).toUInt32).toInt32)), (.int ((31 : Int32) + (-2 : Int32)))])) (fun t k => XS.iconst X0.here hx rfl (hb hby d3_75) k) ?_
  refine own_st (B := s₁.setTop (mkF m 77 #[.val (.int (((((2 : Int32) * (3 : Int32)) - (1 : Int32)).toUInt32 >>> ((2 : Int32) &&& 31).toUInt32).toInt32)), .val (.int ((31 : Int32) + (-2 : Int32)))] [(.int (((((((2 : Int32) * (3 : Int32)) - (1 : Int32)).toUInt32 >>> ((2 : Int32) &&& 31).toUInt32).toInt32).toUInt32 >>> ((1 : Int32) &&& 31).toUInt32).toInt32)), (.int ((31 : Int32) + (-2 : Int32)))])) (fun t k => XS.iushr X0.here hx rfl (hb hby d3_76) rfl k) ?_
  refine own_st (B := s₁.setTop (mkF m 78 #[.val (.int (((((2 : Int32) * (3 : Int32)) - (1 : Int32)).toUInt32 >>> ((2 : Int32) &&& 31).toUInt32).toInt32)), .val (.int ((31 : Int32) + (-2 : Int32)))] [(.int (((31 : Int32) + (-2 : Int32)) - (((((((2 : Int32) * (3 : Int32)) - (1 : Int32)).toUInt32 >>> ((2 : Int32) &&& 31).toUInt32).toInt32).toUInt32 >>> ((1 : Int32) &&& 31).toUInt32).toInt32)))])) (fun t k => XS.isub X0.here hx rfl (hb hby d3_77) rfl k) ?_
  refine own_retI X0 hx hlk Bd.returns (hb hby d3_78) (by decide) (by decide) ?_
  show Q3c3 Z h0 n0 _ s₁.heap _
  rw [e0]
  exact ⟨(congrArg (fun q => some (Value.int q)) (show (((31 : Int32) + (-2 : Int32)) - (((((((2 : Int32) * (3 : Int32)) - (1 : Int32)).toUInt32 >>> ((2 : Int32) &&& 31).toUInt32).toInt32).toUInt32 >>> ((1 : Int32) &&& 31).toUInt32).toInt32)) = (29 : Int32) from by decide)), N0, rfl⟩
theorem ef_3c4 (m : MethodId) (x0 : Int32) : entryFrame m #[(.int x0)] 2 = mkF m 0 #[.val (.int x0), .unset] [] := by first | (simp [entryFrame, mkF, argsToLocals, Value.category]; done) | rfl
def Q3c4 (Z : State)  (h0 : Heap) (n0 : Nat) (v : Option Value) (h : Heap) (L : List Loc) : Prop := v = some (.int (29 : Int32)) ∧ Fr n0 L ∧ h = h0
set_option maxHeartbeats 40000000 in
theorem rm3c4 (l : Launch) (Z : State) (a0 : Array Value) (hw : ∀ d ∈ tables_1, d.before a0 Z = true) (ws : List Jvm.Cond)  (h0 : Heap) (n0 : Nat) (Z0 : n0 ≤ h0.size) :
    MetFree l (⟨"java/lang/Integer", "numberOfLeadingZeros", "(I)I"⟩ : MethodName) (head1 (Jvm.Cond.code (⟨"java/lang/Integer", "numberOfLeadingZeros", "(I)I"⟩ : MethodName) jdk_33_method_47_code 2 (some .int) :: ws) ({ frames := 0, cells := 0, slots := 0, locals := 0 } : Room)) (fun a U => a = #[(.int (((2 : Int32) * (4 : Int32)) - (1 : Int32)))] ∧ Z.Warmed39 U.vm ∧ U.heap = h0) (fun _ _ _ _ _ => True) (fun _ U o U' => ∃ v L, o = .returned v ∧ Q3c4 Z h0 n0 v U'.heap L ∧ FrameEnd U o U' L ({ frames := 0, cells := 0, slots := 0, locals := 0 } : Room).cells ({ frames := 0, cells := 0, slots := 0, locals := 0 } : Room).slots) := by
  refine MetFree.of_bodySF (plainFor_of_name own_pn1) hisR ?_
  intro p e s m args below meth c s₁ Bd hml0 hP hK
  obtain ⟨rfl, hZ, hh⟩ := hP
  have hx := Bd.exec
  have hby := Bd.bytes
  have hml : c.maxLocals = 2 := hml0
  have hlk : meth.locks = false := BodyLoose.notSynchronized Bd
  have hown : s.vm.findClass "java/lang/Integer" = some m.cls := findClass_of_methodNamed Bd.named
  have hnm := (name_of_methodNamed Bd.named Bd.method).1
  have X0 : Stand p l e ({ frames := 0, cells := 0, slots := 0, locals := 0 } : Room) s m #[(.int (((2 : Int32) * (4 : Int32)) - (1 : Int32)))] below meth c s₁ [] 0 0 := Stand.of_body Bd
  have e0 : s₁.heap = h0 := by rw [← hh, Bd.state]; rfl
  have N0 := Fr.nil n0
  show own_Go p e below s (Q3c4 Z h0 n0) ({ frames := 0, cells := 0, slots := 0, locals := 0 } : Room).cells ({ frames := 0, cells := 0, slots := 0, locals := 0 } : Room).slots _
  refine own_st (B := s₁.setTop (mkF m 0 #[.val (.int (((2 : Int32) * (4 : Int32)) - (1 : Int32))), .unset] [])) (fun t k => castTop (ef_3c4 m ((((2 : Int32) * (4 : Int32)) - (1 : Int32)))) k) ?_
  refine own_st (B := s₁.setTop (mkF m 1 #[.val (.int (((2 : Int32) * (4 : Int32)) - (1 : Int32))), .unset] [(.int (((2 : Int32) * (4 : Int32)) - (1 : Int32)))])) (fun t k => XS.iloadN X0.here hx rfl (hb hby d3_0) rfl k) ?_
  refine own_st (B := s₁.setTop (mkF m 15 #[.val (.int (((2 : Int32) * (4 : Int32)) - (1 : Int32))), .unset] [])) (fun t k => XS.ifYes X0.here hx rfl (pc0 := 1) (pc' := 15) rfl (hb hby d3_1) rfl (by decide) (by decide) (by decide) k) ?_
  refine own_st (B := s₁.setTop (mkF m 17 #[.val (.int (((2 : Int32) * (4 : Int32)) - (1 : Int32))), .unset] [(.int (31 : Int32))])) (fun t k => XS.bipush X0.here hx rfl (hb hby d3_15) k) ?_
  refine own_st (B := s₁.setTop (mkF m 18 #[.val (.int (((2 : Int32) * (4 : Int32)) - (1 : Int32))), .val (.int (31 : Int32))] [])) (fun t k => XS.istoreN X0.here hx rfl (hb hby d3_17) rfl (l' := #[.val (.int (((2 : Int32) * (4 : Int32)) - (1 : Int32))), .val (.int (31 : Int32))]) rfl k) ?_
  refine own_st (B := s₁.setTop (mkF m 19 #[.val (.int (((2 : Int32) * (4 : Int32)) - (1 : Int32))), .val (.int (31 : Int32))] [(.int (((2 : Int32) * (4 : Int32)) - (1 : Int32)))])) (fun t k => XS.iloadN X0.here hx rfl (hb hby d3_18) rfl k) ?_
  refine own_st (B := s₁.setTop (mkF m 22 #[.val (.int (((2 : Int32) * (4 : Int32)) - (1 : Int32))), .val (.int (31 : Int32))] [(.int (65536 : Int32)), (.int (((2 : Int32) * (4 : Int32)) - (1 : Int32)))])) (fun t k => X0.ldcWInt hx hown (mvT hZ (w_16 hw)) (g := (mkF m 19 #[.val (.int (((2 : Int32) * (4 : Int32)) - (1 : Int32))), .val (.int (31 : Int32))] [(.int (((2 : Int32) * (4 : Int32)) - (1 : Int32)))])) rfl (hb hby d3_19) _ k) ?_
  refine own_st (B := s₁.setTop (mkF m 33 #[.val (.int (((2 : Int32) * (4 : Int32)) - (1 : Int32))), .val (.int (31 : Int32))] [])) (fun t k => XS.icmpYes X0.here hx rfl (pc0 := 22) (pc' := 33) rfl (hb hby d3_22) rfl (by decide) (by decide) (by decide) k) ?_
  refine own_st (B := s₁.setTop (mkF m 34 #[.val (.int (((2 : Int32) * (4 : Int32)) - (1 : Int32))), .val (.int (31 : Int32))] [(.int (((2 : Int32) * (4 : Int32)) - (1 : Int32)))])) (fun t k => XS.iloadN X0.here hx rfl (hb hby d3_33) rfl k) ?_
  refine own_st (B := s₁.setTop (mkF m 37 #[.val (.int (((2 : Int32) * (4 : Int32)) - (1 : Int32))), .val (.int (31 : Int32))] [(.int (256 : Int32)), (.int (((2 : Int32) * (4 : Int32)) - (1 : Int32)))])) (fun t k => XS.sipush X0.here hx rfl (hb hby d3_34) k) ?_
  refine own_st (B := s₁.setTop (mkF m 48 #[.val (.int (((2 : Int32) * (4 : Int32)) - (1 : Int32))), .val (.int (31 : Int32))] [])) (fun t k => XS.icmpYes X0.here hx rfl (pc0 := 37) (pc' := 48) rfl (hb hby d3_37) rfl (by decide) (by decide) (by decide) k) ?_
  refine own_st (B := s₁.setTop (mkF m 49 #[.val (.int (((2 : Int32) * (4 : Int32)) - (1 : Int32))), .val (.int (31 : Int32))] [(.int (((2 : Int32) * (4 : Int32)) - (1 : Int32)))])) (fun t k => XS.iloadN X0.here hx rfl (hb hby d3_48) rfl k) ?_
  refine own_st (B := s₁.setTop (mkF m 51 #[.val (.int (((2 : Int32) * (4 : Int32)) - (1 : Int32))), .val (.int (31 : Int32))] [(.int (16 : Int32)), (.int (((2 : Int32) * (4 : Int32)) - (1 : Int32)))])) (fun t k => XS.bipush X0.here hx rfl (hb hby d3_49) k) ?_
  refine own_st (B := s₁.setTop (mkF m 61 #[.val (.int (((2 : Int32) * (4 : Int32)) - (1 : Int32))), .val (.int (31 : Int32))] [])) (fun t k => XS.icmpYes X0.here hx rfl (pc0 := 51) (pc' := 61) rfl (hb hby d3_51) rfl (by decide) (by decide) (by decide) k) ?_
  refine own_st (B := s₁.setTop (mkF m 62 #[.val (.int (((2 : Int32) * (4 : Int32)) - (1 : Int32))), .val (.int (31 : Int32))] [(.int (((2 : Int32) * (4 : Int32)) - (1 : Int32)))])) (fun t k => XS.iloadN X0.here hx rfl (hb hby d3_61) rfl k) ?_
  refine own_st (B := s₁.setTop (mkF m 63 #[.val (.int (((2 : Int32) * (4 : Int32)) - (1 : Int32))), .val (.int (31 : Int32))] [(.int (4 : Int32)), (.int (((2 : Int32) * (4 : Int32)) - (1 : Int32)))])) (fun t k => XS.iconst X0.here hx rfl (hb hby d3_62) k) ?_
  refine own_st (B := s₁.setTop (mkF m 66 #[.val (.int (((2 : Int32) * (4 : Int32)) - (1 : Int32))), .val (.int (31 : Int32))] [])) (fun t k => XS.icmpNo X0.here hx rfl (hb hby d3_63) rfl (by decide) k) ?_
  refine own_st (B := s₁.setTop (mkF m 69 #[.val (.int (((2 : Int32) * (4 : Int32)) - (1 : Int32))), .val (.int ((31 : Int32) + (-2 : Int32)))] [])) (fun t k => XS.iinc X0.here hx rfl (hb hby d3_66) rfl (l' := #[.val (.int (((2 : Int32) * (4 : Int32)) - (1 : Int32))), .val (.int ((31 : Int32) + (-2 : Int32)))]) rfl k) ?_
  refine own_st (B := s₁.setTop (mkF m 70 #[.val (.int (((2 : Int32) * (4 : Int32)) - (1 : Int32))), .val (.int ((31 : Int32) + (-2 : Int32)))] [(.int (((2 : Int32) * (4 : Int32)) - (1 : Int32)))])) (fun t k => XS.iloadN X0.here hx rfl (hb hby d3_69) rfl k) ?_
  refine own_st (B := s₁.setTop (mkF m 71 #[.val (.int (((2 : Int32) * (4 : Int32)) - (1 : Int32))), .val (.int ((31 : Int32) + (-2 : Int32)))] [(.int (2 : Int32)), (.int (((2 : Int32) * (4 : Int32)) - (1 : Int32)))])) (fun t k => XS.iconst X0.here hx rfl (hb hby d3_70) k) ?_
  refine own_st (B := s₁.setTop (mkF m 72 #[.val (.int (((2 : Int32) * (4 : Int32)) - (1 : Int32))), .val (.int ((31 : Int32) + (-2 : Int32)))] [(.int (((((2 : Int32) * (4 : Int32)) - (1 : Int32)).toUInt32 >>> ((2 : Int32) &&& 31).toUInt32).toInt32))])) (fun t k => XS.iushr X0.here hx rfl (hb hby d3_71) rfl k) ?_
  refine own_st (B := s₁.setTop (mkF m 73 #[.val (.int (((((2 : Int32) * (4 : Int32)) - (1 : Int32)).toUInt32 >>> ((2 : Int32) &&& 31).toUInt32).toInt32)), .val (.int ((31 : Int32) + (-2 : Int32)))] [])) (fun t k => XS.istoreN X0.here hx rfl (hb hby d3_72) rfl (l' := #[.val (.int (((((2 : Int32) * (4 : Int32)) - (1 : Int32)).toUInt32 >>> ((2 : Int32) &&& 31).toUInt32).toInt32)), .val (.int ((31 : Int32) + (-2 : Int32)))]) rfl k) ?_
  refine own_st (B := s₁.setTop (mkF m 74 #[.val (.int (((((2 : Int32) * (4 : Int32)) - (1 : Int32)).toUInt32 >>> ((2 : Int32) &&& 31).toUInt32).toInt32)), .val (.int ((31 : Int32) + (-2 : Int32)))] [(.int ((31 : Int32) + (-2 : Int32)))])) (fun t k => XS.iloadN X0.here hx rfl (hb hby d3_73) rfl k) ?_
  refine own_st (B := s₁.setTop (mkF m 75 #[.val (.int (((((2 : Int32) * (4 : Int32)) - (1 : Int32)).toUInt32 >>> ((2 : Int32) &&& 31).toUInt32).toInt32)), .val (.int ((31 : Int32) + (-2 : Int32)))] [(.int (((((2 : Int32) * (4 : Int32)) - (1 : Int32)).toUInt32 >>> ((2 : Int32) &&& 31).toUInt32).toInt32)), (.int ((31 : Int32) + (-2 : Int32)))])) (fun t k => XS.iloadN X0.here hx rfl (hb hby d3_74) rfl k) ?_
  refine own_st (B := s₁.setTop (mkF m 76 #[.val (.int (((((2 : Int32) * (4 : Int32)) - (1 : Int32)).toUInt32 >>> ((2 : Int32) &&& 31).toUInt32).toInt32)), .val (.int ((31 : Int32) + (-2 : Int32)))] [(.int (1 : Int32)), (.int (((((2 : Int32) * (4 : Int32)) - (1 : Int32)).toUInt32 >>> ((2 : Int32) &&& 31).toUInt32).toInt32)), (.int ((31 : Int32) + (-2 : Int32)))])) (fun t k => XS.iconst X0.here hx rfl (hb hby d3_75) k) ?_
  refine own_st (B := s₁.setTop (mkF m 77 #[.val (.int (((((2 : Int32) * (4 : Int32)) - (1 : Int32)).toUInt32 >>> ((2 : Int32) &&& 31).toUInt32).toInt32)), .val (.int ((31 : Int32) + (-2 : Int32)))] [(.int (((((((2 : Int32) * (4 : Int32)) - (1 : Int32)).toUInt32 >>> ((2 : Int32) &&& 31).toUInt32).toInt32).toUInt32 >>> ((1 : Int32) &&& 31).toUInt32).toInt32)), (.int ((31 : Int32) + (-2 : Int32)))])) (fun t k => XS.iushr X0.here hx rfl (hb hby d3_76) rfl k) ?_
  refine own_st (B := s₁.setTop (mkF m 78 #[.val (.int (((((2 : Int32) * (4 : Int32)) - (1 : Int32)).toUInt32 >>> ((2 : Int32) &&& 31).toUInt32).toInt32)), .val (.int ((31 : Int32) + (-2 : Int32)))] [(.int (((31 : Int32) + (-2 : Int32)) - (((((((2 : Int32) * (4 : Int32)) - (1 : Int32)).toUInt32 >>> ((2 : Int32) &&& 31).toUInt32).toInt32).toUInt32 >>> ((1 : Int32) &&& 31).toUInt32).toInt32)))])) (fun t k => XS.isub X0.here hx rfl (hb hby d3_77) rfl k) ?_
  refine own_retI X0 hx hlk Bd.returns (hb hby d3_78) (by decide) (by decide) ?_
  show Q3c4 Z h0 n0 _ s₁.heap _
  rw [e0]
  exact ⟨(congrArg (fun q => some (Value.int q)) (show (((31 : Int32) + (-2 : Int32)) - (((((((2 : Int32) * (4 : Int32)) - (1 : Int32)).toUInt32 >>> ((2 : Int32) &&& 31).toUInt32).toInt32).toUInt32 >>> ((1 : Int32) &&& 31).toUInt32).toInt32)) = (29 : Int32) from by decide)), N0, rfl⟩
theorem own_pn2 : plainName "java/util/Arrays" = true := by first | (simp [plainName, overriddenIn]; done) | decide +kernel
theorem d5_0 : decode jdk_65_method_105_code 0 = .ok (.iconst 0, 1) := by decide +kernel
theorem d5_1 : decode jdk_65_method_105_code 1 = .ok (.istore_n 2, 1) := by decide +kernel
theorem d5_2 : decode jdk_65_method_105_code 2 = .ok (.aload_n 0, 1) := by decide +kernel
theorem d5_3 : decode jdk_65_method_105_code 3 = .ok (.arraylength, 1) := by decide +kernel
theorem d5_4 : decode jdk_65_method_105_code 4 = .ok (.istore_n 3, 1) := by decide +kernel
theorem d5_5 : decode jdk_65_method_105_code 5 = .ok (.iload_n 2, 1) := by decide +kernel
theorem d5_6 : decode jdk_65_method_105_code 6 = .ok (.iload_n 3, 1) := by decide +kernel
theorem d5_7 : decode jdk_65_method_105_code 7 = .ok (.if_icmp .ge 13, 3) := by decide +kernel
theorem d5_10 : decode jdk_65_method_105_code 10 = .ok (.aload_n 0, 1) := by decide +kernel
theorem d5_11 : decode jdk_65_method_105_code 11 = .ok (.iload_n 2, 1) := by decide +kernel
theorem d5_12 : decode jdk_65_method_105_code 12 = .ok (.iload_n 1, 1) := by decide +kernel
theorem d5_13 : decode jdk_65_method_105_code 13 = .ok (.sastore, 1) := by decide +kernel
theorem d5_14 : decode jdk_65_method_105_code 14 = .ok (.iinc 2 1, 3) := by decide +kernel
theorem d5_17 : decode jdk_65_method_105_code 17 = .ok (.goto (-12), 3) := by decide +kernel
theorem d5_20 : decode jdk_65_method_105_code 20 = .ok (.return_, 1) := by decide +kernel
theorem ef_5n2 (m : MethodId) (x0 : Addr) (x1 : Int32) : entryFrame m #[(.ref x0), (.int x1)] 4 = mkF m 0 #[.val (.ref x0), .val (.int x1), .unset, .unset] [] := by first | (simp [entryFrame, mkF, argsToLocals, Value.category]; done) | rfl
def Q5n2 (Z : State) (a1 : Addr) (h0 : Heap) (n0 : Nat) (v : Option Value) (h : Heap) (L : List Loc) : Prop := v = none ∧ Fr n0 L ∧ Keep h0 h [a1] ∧ own_A Z h a1 .short [(.int ((-1 : Int32).toInt16.toInt32)), (.int ((-1 : Int32).toInt16.toInt32))]
set_option maxHeartbeats 40000000 in
theorem rm5n2 (l : Launch) (Z : State) (a0 : Array Value) (hw : ∀ d ∈ tables_1, d.before a0 Z = true) (ws : List Jvm.Cond) (a1 : Addr) (h0 : Heap) (n0 : Nat) (Z0 : n0 ≤ h0.size) (F0 : own_A Z h0 a1 .short [(.int (0 : Int32)), (.int (0 : Int32))]) (ga : n0 ≤ a1) :
    MetFree l (⟨"java/util/Arrays", "fill", "([SS)V"⟩ : MethodName) (head1 (Jvm.Cond.code (⟨"java/util/Arrays", "fill", "([SS)V"⟩ : MethodName) jdk_65_method_105_code 4 none :: ws) ({ frames := 0, cells := 0, slots := 0, locals := 0 } : Room)) (fun a U => a = #[(.ref a1), (.int (-1 : Int32))] ∧ Z.Warmed39 U.vm ∧ U.heap = h0) (fun _ _ _ _ _ => True) (fun _ U o U' => ∃ v L, o = .returned v ∧ Q5n2 Z a1 h0 n0 v U'.heap L ∧ FrameEnd U o U' L ({ frames := 0, cells := 0, slots := 0, locals := 0 } : Room).cells ({ frames := 0, cells := 0, slots := 0, locals := 0 } : Room).slots) := by
  refine MetFree.of_bodySF (plainFor_of_name own_pn2) hisR ?_
  intro p e s m args below meth c s₁ Bd hml0 hP hK
  obtain ⟨rfl, hZ, hh⟩ := hP
  have hx := Bd.exec
  have hby := Bd.bytes
  have hml : c.maxLocals = 4 := hml0
  have hlk : meth.locks = false := BodyLoose.notSynchronized Bd
  have hown : s.vm.findClass "java/util/Arrays" = some m.cls := findClass_of_methodNamed Bd.named
  have hnm := (name_of_methodNamed Bd.named Bd.method).1
  have X0 : Stand p l e ({ frames := 0, cells := 0, slots := 0, locals := 0 } : Room) s m #[(.ref a1), (.int (-1 : Int32))] below meth c s₁ [] 0 0 := Stand.of_body Bd
  have e0 : s₁.heap = h0 := by rw [← hh, Bd.state]; rfl
  have N0 := Fr.nil n0
  show own_Go p e below s (Q5n2 Z a1 h0 n0) ({ frames := 0, cells := 0, slots := 0, locals := 0 } : Room).cells ({ frames := 0, cells := 0, slots := 0, locals := 0 } : Room).slots _
  refine own_st (B := s₁.setTop (mkF m 0 #[.val (.ref a1), .val (.int (-1 : Int32)), .unset, .unset] [])) (fun t k => castTop (ef_5n2 m (a1) ((-1 : Int32))) k) ?_
  refine own_st (B := s₁.setTop (mkF m 1 #[.val (.ref a1), .val (.int (-1 : Int32)), .unset, .unset] [(.int (0 : Int32))])) (fun t k => XS.iconst X0.here hx rfl (hb hby d5_0) k) ?_
  refine own_st (B := s₁.setTop (mkF m 2 #[.val (.ref a1), .val (.int (-1 : Int32)), .val (.int (0 : Int32)), .unset] [])) (fun t k => XS.istoreN X0.here hx rfl (hb hby d5_1) rfl (l' := #[.val (.ref a1), .val (.int (-1 : Int32)), .val (.int (0 : Int32)), .unset]) rfl k) ?_
  refine own_st (B := s₁.setTop (mkF m 3 #[.val (.ref a1), .val (.int (-1 : Int32)), .val (.int (0 : Int32)), .unset] [(.ref a1)])) (fun t k => XS.aloadN X0.here hx rfl (hb hby d5_2) rfl rfl k) ?_
  refine own_st (B := s₁.setTop (mkF m 4 #[.val (.ref a1), .val (.int (-1 : Int32)), .val (.int (0 : Int32)), .unset] [(.int (2 : Int32))])) (fun t k => own_len X0 hx hZ e0 F0 (g := (mkF m 3 #[.val (.ref a1), .val (.int (-1 : Int32)), .val (.int (0 : Int32)), .unset] [(.ref a1)])) (n := (2 : Int32)) (show (2 : Int32).toInt = ((2 : Nat) : Int) from by decide) rfl rfl (hb hby d5_3) k) ?_
  refine own_st (B := s₁.setTop (mkF m 5 #[.val (.ref a1), .val (.int (-1 : Int32)), .val (.int (0 : Int32)), .val (.int (2 : Int32))] [])) (fun t k => XS.istoreN X0.here hx rfl (hb hby d5_4) rfl (l' := #[.val (.ref a1), .val (.int (-1 : Int32)), .val (.int (0 : Int32)), .val (.int (2 : Int32))]) rfl k) ?_
  refine own_st (B := s₁.setTop (mkF m 6 #[.val (.ref a1), .val (.int (-1 : Int32)), .val (.int (0 : Int32)), .val (.int (2 : Int32))] [(.int (0 : Int32))])) (fun t k => XS.iloadN X0.here hx rfl (hb hby d5_5) rfl k) ?_
  refine own_st (B := s₁.setTop (mkF m 7 #[.val (.ref a1), .val (.int (-1 : Int32)), .val (.int (0 : Int32)), .val (.int (2 : Int32))] [(.int (2 : Int32)), (.int (0 : Int32))])) (fun t k => XS.iloadN X0.here hx rfl (hb hby d5_6) rfl k) ?_
  refine own_st (B := s₁.setTop (mkF m 10 #[.val (.ref a1), .val (.int (-1 : Int32)), .val (.int (0 : Int32)), .val (.int (2 : Int32))] [])) (fun t k => XS.icmpNo X0.here hx rfl (hb hby d5_7) rfl (by decide) k) ?_
  refine own_st (B := s₁.setTop (mkF m 11 #[.val (.ref a1), .val (.int (-1 : Int32)), .val (.int (0 : Int32)), .val (.int (2 : Int32))] [(.ref a1)])) (fun t k => XS.aloadN X0.here hx rfl (hb hby d5_10) rfl rfl k) ?_
  refine own_st (B := s₁.setTop (mkF m 12 #[.val (.ref a1), .val (.int (-1 : Int32)), .val (.int (0 : Int32)), .val (.int (2 : Int32))] [(.int (0 : Int32)), (.ref a1)])) (fun t k => XS.iloadN X0.here hx rfl (hb hby d5_11) rfl k) ?_
  refine own_st (B := s₁.setTop (mkF m 13 #[.val (.ref a1), .val (.int (-1 : Int32)), .val (.int (0 : Int32)), .val (.int (2 : Int32))] [(.int (-1 : Int32)), (.int (0 : Int32)), (.ref a1)])) (fun t k => XS.iloadN X0.here hx rfl (hb hby d5_12) rfl k) ?_
  obtain ⟨T1, h1, X1, e1, W1, A1, st1⟩ := own_stS X0 hx hZ e0 F0 (j := (0 : Int32)) (x := (-1 : Int32)) (i := 0) (by decide) (show 0 < 2 from by decide) (g := (mkF m 13 #[.val (.ref a1), .val (.int (-1 : Int32)), .val (.int (0 : Int32)), .val (.int (2 : Int32))] [(.int (-1 : Int32)), (.int (0 : Int32)), (.ref a1)])) rfl rfl (hb hby d5_13)
  have f1_ : own_A Z h1 a1 .short [(.int ((-1 : Int32).toInt16.toInt32)), (.int (0 : Int32))] := A1
  have z2 : n0 ≤ h1.size := Nat.le_trans Z0 (Keep.of_wr W1).1
  have kp2 : Keep h0 h1 [a1] := (Keep.refl h0 [a1]).wr W1 (Or.inl (List.mem_of_getElem? (i := 0) rfl))
  have n3 := Fr.snoc X1 N0 ga
  refine own_st (B := T1.setTop (mkF m 14 #[.val (.ref a1), .val (.int (-1 : Int32)), .val (.int (0 : Int32)), .val (.int (2 : Int32))] [])) (fun t k => st1 t k) ?_
  refine own_st (B := T1.setTop (mkF m 17 #[.val (.ref a1), .val (.int (-1 : Int32)), .val (.int ((0 : Int32) + (1 : Int32))), .val (.int (2 : Int32))] [])) (fun t k => XS.iinc X1.here hx rfl (hb hby d5_14) rfl (l' := #[.val (.ref a1), .val (.int (-1 : Int32)), .val (.int ((0 : Int32) + (1 : Int32))), .val (.int (2 : Int32))]) rfl k) ?_
  refine own_st (B := T1.setTop (mkF m 5 #[.val (.ref a1), .val (.int (-1 : Int32)), .val (.int ((0 : Int32) + (1 : Int32))), .val (.int (2 : Int32))] [])) (fun t k => XS.goto X1.here hx rfl (pc0 := 17) (pc' := 5) rfl (hb hby d5_17) (by decide) (by decide) k) ?_
  refine own_st (B := T1.setTop (mkF m 6 #[.val (.ref a1), .val (.int (-1 : Int32)), .val (.int ((0 : Int32) + (1 : Int32))), .val (.int (2 : Int32))] [(.int ((0 : Int32) + (1 : Int32)))])) (fun t k => XS.iloadN X1.here hx rfl (hb hby d5_5) rfl k) ?_
  refine own_st (B := T1.setTop (mkF m 7 #[.val (.ref a1), .val (.int (-1 : Int32)), .val (.int ((0 : Int32) + (1 : Int32))), .val (.int (2 : Int32))] [(.int (2 : Int32)), (.int ((0 : Int32) + (1 : Int32)))])) (fun t k => XS.iloadN X1.here hx rfl (hb hby d5_6) rfl k) ?_
  refine own_st (B := T1.setTop (mkF m 10 #[.val (.ref a1), .val (.int (-1 : Int32)), .val (.int ((0 : Int32) + (1 : Int32))), .val (.int (2 : Int32))] [])) (fun t k => XS.icmpNo X1.here hx rfl (hb hby d5_7) rfl (by decide) k) ?_
  refine own_st (B := T1.setTop (mkF m 11 #[.val (.ref a1), .val (.int (-1 : Int32)), .val (.int ((0 : Int32) + (1 : Int32))), .val (.int (2 : Int32))] [(.ref a1)])) (fun t k => XS.aloadN X1.here hx rfl (hb hby d5_10) rfl rfl k) ?_
  refine own_st (B := T1.setTop (mkF m 12 #[.val (.ref a1), .val (.int (-1 : Int32)), .val (.int ((0 : Int32) + (1 : Int32))), .val (.int (2 : Int32))] [(.int ((0 : Int32) + (1 : Int32))), (.ref a1)])) (fun t k => XS.iloadN X1.here hx rfl (hb hby d5_11) rfl k) ?_
  refine own_st (B := T1.setTop (mkF m 13 #[.val (.ref a1), .val (.int (-1 : Int32)), .val (.int ((0 : Int32) + (1 : Int32))), .val (.int (2 : Int32))] [(.int (-1 : Int32)), (.int ((0 : Int32) + (1 : Int32))), (.ref a1)])) (fun t k => XS.iloadN X1.here hx rfl (hb hby d5_12) rfl k) ?_
  obtain ⟨T4, h4, X4, e4, W4, A4, st4⟩ := own_stS X1 hx hZ e1 f1_ (j := ((0 : Int32) + (1 : Int32))) (x := (-1 : Int32)) (i := 1) (by decide) (show 1 < 2 from by decide) (g := (mkF m 13 #[.val (.ref a1), .val (.int (-1 : Int32)), .val (.int ((0 : Int32) + (1 : Int32))), .val (.int (2 : Int32))] [(.int (-1 : Int32)), (.int ((0 : Int32) + (1 : Int32))), (.ref a1)])) rfl rfl (hb hby d5_13)
  have f4_ : own_A Z h4 a1 .short [(.int ((-1 : Int32).toInt16.toInt32)), (.int ((-1 : Int32).toInt16.toInt32))] := A4
  have z5 : n0 ≤ h4.size := Nat.le_trans z2 (Keep.of_wr W4).1
  have kp5 : Keep h0 h4 [a1] := kp2.wr W4 (Or.inl (List.mem_of_getElem? (i := 0) rfl))
  have n6 := Fr.snoc X4 n3 ga
  refine own_st (B := T4.setTop (mkF m 14 #[.val (.ref a1), .val (.int (-1 : Int32)), .val (.int ((0 : Int32) + (1 : Int32))), .val (.int (2 : Int32))] [])) (fun t k => st4 t k) ?_
  refine own_st (B := T4.setTop (mkF m 17 #[.val (.ref a1), .val (.int (-1 : Int32)), .val (.int (((0 : Int32) + (1 : Int32)) + (1 : Int32))), .val (.int (2 : Int32))] [])) (fun t k => XS.iinc X4.here hx rfl (hb hby d5_14) rfl (l' := #[.val (.ref a1), .val (.int (-1 : Int32)), .val (.int (((0 : Int32) + (1 : Int32)) + (1 : Int32))), .val (.int (2 : Int32))]) rfl k) ?_
  refine own_st (B := T4.setTop (mkF m 5 #[.val (.ref a1), .val (.int (-1 : Int32)), .val (.int (((0 : Int32) + (1 : Int32)) + (1 : Int32))), .val (.int (2 : Int32))] [])) (fun t k => XS.goto X4.here hx rfl (pc0 := 17) (pc' := 5) rfl (hb hby d5_17) (by decide) (by decide) k) ?_
  refine own_st (B := T4.setTop (mkF m 6 #[.val (.ref a1), .val (.int (-1 : Int32)), .val (.int (((0 : Int32) + (1 : Int32)) + (1 : Int32))), .val (.int (2 : Int32))] [(.int (((0 : Int32) + (1 : Int32)) + (1 : Int32)))])) (fun t k => XS.iloadN X4.here hx rfl (hb hby d5_5) rfl k) ?_
  refine own_st (B := T4.setTop (mkF m 7 #[.val (.ref a1), .val (.int (-1 : Int32)), .val (.int (((0 : Int32) + (1 : Int32)) + (1 : Int32))), .val (.int (2 : Int32))] [(.int (2 : Int32)), (.int (((0 : Int32) + (1 : Int32)) + (1 : Int32)))])) (fun t k => XS.iloadN X4.here hx rfl (hb hby d5_6) rfl k) ?_
  refine own_st (B := T4.setTop (mkF m 20 #[.val (.ref a1), .val (.int (-1 : Int32)), .val (.int (((0 : Int32) + (1 : Int32)) + (1 : Int32))), .val (.int (2 : Int32))] [])) (fun t k => XS.icmpYes X4.here hx rfl (pc0 := 7) (pc' := 20) rfl (hb hby d5_7) rfl (by decide) (by decide) (by decide) k) ?_
  refine own_retV X4 hx hlk Bd.returns (hb hby d5_20) (by decide) (by decide) ?_
  show Q5n2 Z a1 h0 n0 _ T4.heap _
  rw [e4]
  exact ⟨rfl, n6, kp5, f4_⟩
theorem own_pd2 : parseMethodDescriptor "([SS)V" = some ⟨[(.array .short), .short], none⟩ := by decide +kernel
theorem own_pn3 : plainName "com/example/relayframe/relayframe/Palette" = true := by first | (simp [plainName, overriddenIn]; done) | decide +kernel
theorem d4_0 : decode prog_3_method_2_code 0 = .ok (.aload_n 0, 1) := by decide +kernel
theorem d4_1 : decode prog_3_method_2_code 1 = .ok (.getfield 26, 3) := by decide +kernel
theorem d4_4 : decode prog_3_method_2_code 4 = .ok (.iconst (-1), 1) := by decide +kernel
theorem d4_5 : decode prog_3_method_2_code 5 = .ok (.invokestatic 33, 3) := by decide +kernel
theorem d4_8 : decode prog_3_method_2_code 8 = .ok (.aload_n 0, 1) := by decide +kernel
theorem d4_9 : decode prog_3_method_2_code 9 = .ok (.iconst 0, 1) := by decide +kernel
theorem d4_10 : decode prog_3_method_2_code 10 = .ok (.putfield 39, 3) := by decide +kernel
theorem d4_13 : decode prog_3_method_2_code 13 = .ok (.return_, 1) := by decide +kernel
theorem ef_4n2 (m : MethodId) (x0 : Addr) : entryFrame m #[(.ref x0)] 1 = mkF m 0 #[.val (.ref x0)] [] := by first | (simp [entryFrame, mkF, argsToLocals, Value.category]; done) | rfl
def Q4n2 (Z : State) (a1 : Addr) (ac : Addr) (asl : Addr) (ai : Addr) (B : Int32) (h0 : Heap) (n0 : Nat) (v : Option Value) (h : Heap) (L : List Loc) : Prop := v = none ∧ Fr n0 L ∧ Keep h0 h [a1, ai] ∧ Fld Z h a1 "com/example/relayframe/relayframe/Palette" "colours" "[I" (.ref ac) ∧ Fld Z h a1 "com/example/relayframe/relayframe/Palette" "slotBits" "I" (.int B) ∧ Fld Z h a1 "com/example/relayframe/relayframe/Palette" "slotColours" "[I" (.ref asl) ∧ Fld Z h a1 "com/example/relayframe/relayframe/Palette" "slotIndices" "[S" (.ref ai) ∧ Fld Z h a1 "com/example/relayframe/relayframe/Palette" "size" "I" (.int (0 : Int32)) ∧ own_A Z h ai .short [(.int ((-1 : Int32).toInt16.toInt32)), (.int ((-1 : Int32).toInt16.toInt32))]
set_option maxHeartbeats 40000000 in
theorem rm4n2 (l : Launch) (Z : State) (a0 : Array Value) (hw : ∀ d ∈ tables_1, d.before a0 Z = true) (ws : List Jvm.Cond) (a1 : Addr) (ac : Addr) (asl : Addr) (ai : Addr) (B : Int32) (h0 : Heap) (n0 : Nat) (Z0 : n0 ≤ h0.size) (F0 : Exa Z h0 a1 "com/example/relayframe/relayframe/Palette") (F1 : Fld Z h0 a1 "com/example/relayframe/relayframe/Palette" "colours" "[I" (.ref ac)) (F2 : Fld Z h0 a1 "com/example/relayframe/relayframe/Palette" "slotBits" "I" (.int B)) (F3 : Fld Z h0 a1 "com/example/relayframe/relayframe/Palette" "slotColours" "[I" (.ref asl)) (F4 : Fld Z h0 a1 "com/example/relayframe/relayframe/Palette" "slotIndices" "[S" (.ref ai)) (F5 : Fld Z h0 a1 "com/example/relayframe/relayframe/Palette" "size" "I" (.int (0 : Int32))) (F6 : own_A Z h0 ai .short [(.int (0 : Int32)), (.int (0 : Int32))]) (F7 : Exa Z h0 ai "[S") (ga : n0 ≤ a1) (gi : n0 ≤ ai) :
    MetFree l (⟨"com/example/relayframe/relayframe/Palette", "clear", "()V"⟩ : MethodName) (head1 (Jvm.Cond.code (⟨"com/example/relayframe/relayframe/Palette", "clear", "()V"⟩ : MethodName) prog_3_method_2_code 1 none :: ws) ({ frames := 1, cells := 0, slots := 0, locals := 15 } : Room)) (fun a U => a = #[(.ref a1)] ∧ Z.Warmed39 U.vm ∧ U.heap = h0) (fun _ _ _ _ _ => True) (fun _ U o U' => ∃ v L, o = .returned v ∧ Q4n2 Z a1 ac asl ai B h0 n0 v U'.heap L ∧ FrameEnd U o U' L ({ frames := 1, cells := 0, slots := 0, locals := 15 } : Room).cells ({ frames := 1, cells := 0, slots := 0, locals := 15 } : Room).slots) := by
  refine MetFree.of_bodySF (plainFor_of_name own_pn3) hisR ?_
  intro p e s m args below meth c s₁ Bd hml0 hP hK
  obtain ⟨rfl, hZ, hh⟩ := hP
  have hx := Bd.exec
  have hby := Bd.bytes
  have hml : c.maxLocals = 1 := hml0
  have hlk : meth.locks = false := BodyLoose.notSynchronized Bd
  have hown : s.vm.findClass "com/example/relayframe/relayframe/Palette" = some m.cls := findClass_of_methodNamed Bd.named
  have hnm := (name_of_methodNamed Bd.named Bd.method).1
  have X0 : Stand p l e ({ frames := 1, cells := 0, slots := 0, locals := 15 } : Room) s m #[(.ref a1)] below meth c s₁ [] 0 0 := Stand.of_body Bd
  have e0 : s₁.heap = h0 := by rw [← hh, Bd.state]; rfl
  have N0 := Fr.nil n0
  show own_Go p e below s (Q4n2 Z a1 ac asl ai B h0 n0) ({ frames := 1, cells := 0, slots := 0, locals := 15 } : Room).cells ({ frames := 1, cells := 0, slots := 0, locals := 15 } : Room).slots _
  refine own_st (B := s₁.setTop (mkF m 0 #[.val (.ref a1)] [])) (fun t k => castTop (ef_4n2 m (a1)) k) ?_
  refine own_st (B := s₁.setTop (mkF m 1 #[.val (.ref a1)] [(.ref a1)])) (fun t k => XS.aloadN X0.here hx rfl (hb hby d4_0) rfl rfl k) ?_
  obtain ⟨T1, X1, e1, st1⟩ := getF X0 hx hZ hown (host := "") (Or.inl (w_22 hw)) Via.refl e0 F4 (g := (mkF m 1 #[.val (.ref a1)] [(.ref a1)])) rfl rfl (hb hby d4_1)
  refine own_st (B := T1.setTop (mkF m 4 #[.val (.ref a1)] [(.ref ai)])) (fun t k => st1 t k) ?_
  refine own_st (B := T1.setTop (mkF m 5 #[.val (.ref a1)] [(.int (-1 : Int32)), (.ref ai)])) (fun t k => XS.iconst X1.here hx rfl (hb hby d4_4) k) ?_
  obtain ⟨_, _, ⟨T2, L2, k2, j2⟩, -, X2, ⟨Lc2, hQ2, l2, y2_, z2_⟩, st2⟩ := Jvm.LawKit.callS X1 hx (y := (⟨"java/util/Arrays", "fill", "([SS)V"⟩ : MethodName)) hown (mvT hZ (w_29 hw)) (mvT hZ (w_30 hw)) (mvT hZ (w_31 hw)) (mvT hZ (w_32 hw)) (by decide) (backOf (W := 0) (rm5n2 l Z a0 hw [] ai h0 n0 Z0 F6 gi) hZ (w_32 hw) (w_31 hw) (by decide) (by decide)) (g := (mkF m 5 #[.val (.ref a1)] [(.int (-1 : Int32)), (.ref ai)])) rfl (by rw [hml]; rfl) (argsL := [(.ref ai), (.int (-1 : Int32))]) (rest := []) (lenOf own_pd2 rfl) rfl (by show 2 * 0 + _ ≤ _; exact Nat.le_of_eq rfl) (hb hby d4_5) (fun _ _ => ⟨rfl, e1, (by decide : 0 + 0 ≤ _), (by decide : 0 + 0 ≤ _)⟩)
  dsimp only [Pt.U, Pt.locs, Pt.cells, Pt.slots] at X2 l2 y2_ z2_ st2 hQ2
  subst l2 y2_ z2_
  obtain ⟨rfl, N2q, K2, p2_0⟩ := hQ2
  have N2 := Fr.app N0 N2q
  have z3 : n0 ≤ T2.heap.size := Nat.le_trans Z0 K2.1
  have kp3 : Keep h0 T2.heap [a1, ai] := (Keep.refl h0 [a1, ai]).trans K2 (allS (Or.inl (List.mem_of_getElem? (i := 1) rfl)) all0)
  refine own_st (B := T2.setTop (mkF m 8 #[.val (.ref a1)] [])) (fun t k => st2 t k) ?_
  refine own_st (B := T2.setTop (mkF m 9 #[.val (.ref a1)] [(.ref a1)])) (fun t k => XS.aloadN X2.here hx rfl (hb hby d4_8) rfl rfl k) ?_
  refine own_st (B := T2.setTop (mkF m 10 #[.val (.ref a1)] [(.int (0 : Int32)), (.ref a1)])) (fun t k => XS.iconst X2.here hx rfl (hb hby d4_9) k) ?_
  have f4 : Exa Z T2.heap a1 "com/example/relayframe/relayframe/Palette" := (F0.keep K2)
  have f5 : Exa Z T2.heap ai "[S" := (F7.keep K2)
  have f6 : Fld Z T2.heap a1 "com/example/relayframe/relayframe/Palette" "size" "I" (.int (0 : Int32)) := (F5.keep K2 (ninS (ne_exa f4 f5 (by decide)) nin0))
  obtain ⟨T7, h7, X7, e7, W7, st7⟩ := putF X2 hx hZ hown (host := "") (Or.inl (w_33 hw)) Via.refl rfl f6 f4 (Or.inl (w_34 hw)) (w_2 hw) (ty := .int) (by decide) rfl rfl (g := (mkF m 10 #[.val (.ref a1)] [(.int (0 : Int32)), (.ref a1)])) rfl rfl (hb hby d4_10)
  have f7_ : Fld Z h7 a1 "com/example/relayframe/relayframe/Palette" "size" "I" (.int (0 : Int32)) := f6.same W7
  have z8 : n0 ≤ h7.size := Nat.le_trans z3 (Keep.of_wr W7).1
  have kp8 : Keep h0 h7 [a1, ai] := kp3.wr W7 (Or.inl (List.mem_of_getElem? (i := 0) rfl))
  have n9 := Fr.snoc X7 N2 ga
  refine own_st (B := T7.setTop (mkF m 13 #[.val (.ref a1)] [])) (fun t k => st7 t k) ?_
  refine own_retV X7 hx hlk Bd.returns (hb hby d4_13) (by decide) (by decide) ?_
  show Q4n2 Z a1 ac asl ai B h0 n0 _ T7.heap _
  rw [e7]
  have f10 : Exa Z h7 a1 "com/example/relayframe/relayframe/Palette" := (f4.wr W7)
  have f11 : Exa Z h7 ai "[S" := (f5.wr W7)
  have f12 : Fld Z h7 a1 "com/example/relayframe/relayframe/Palette" "colours" "[I" (.ref ac) := ((F1.keep K2 (ninS (ne_exa f10 f11 (by decide)) nin0)).other W7 (Or.inr (slot_ne (Or.inr (w_11 hw)) (Or.inl (w_34 hw)) (by decide) (t := (.array .int)) (t' := .int) (by decide) (by decide))))
  have f13 : Fld Z h7 a1 "com/example/relayframe/relayframe/Palette" "slotBits" "I" (.int B) := ((F2.keep K2 (ninS (ne_exa f10 f11 (by decide)) nin0)).other W7 (Or.inr (slot_ne (Or.inr (w_18 hw)) (Or.inl (w_34 hw)) (by decide) (t := .int) (t' := .int) (by decide) (by decide))))
  have f14 : Fld Z h7 a1 "com/example/relayframe/relayframe/Palette" "slotColours" "[I" (.ref asl) := ((F3.keep K2 (ninS (ne_exa f10 f11 (by decide)) nin0)).other W7 (Or.inr (slot_ne (Or.inr (w_20 hw)) (Or.inl (w_34 hw)) (by decide) (t := (.array .int)) (t' := .int) (by decide) (by decide))))
  have f15 : Fld Z h7 a1 "com/example/relayframe/relayframe/Palette" "slotIndices" "[S" (.ref ai) := ((F4.keep K2 (ninS (ne_exa f10 f11 (by decide)) nin0)).other W7 (Or.inr (slot_ne (Or.inr (w_23 hw)) (Or.inl (w_34 hw)) (by decide) (t := (.array .short)) (t' := .int) (by decide) (by decide))))
  have f16 : own_A Z h7 ai .short [(.int ((-1 : Int32).toInt16.toInt32)), (.int ((-1 : Int32).toInt16.toInt32))] := (p2_0.other W7 (ne_exa f11 f10 (by decide)))
  exact ⟨rfl, n9, kp8, f12, f13, f14, f15, f7_, f16⟩
theorem ef_5n4 (m : MethodId) (x0 : Addr) (x1 : Int32) : entryFrame m #[(.ref x0), (.int x1)] 4 = mkF m 0 #[.val (.ref x0), .val (.int x1), .unset, .unset] [] := by first | (simp [entryFrame, mkF, argsToLocals, Value.category]; done) | rfl
def Q5n4 (Z : State) (a1 : Addr) (h0 : Heap) (n0 : Nat) (v : Option Value) (h : Heap) (L : List Loc) : Prop := v = none ∧ Fr n0 L ∧ Keep h0 h [a1] ∧ own_A Z h a1 .short [(.int ((-1 : Int32).toInt16.toInt32)), (.int ((-1 : Int32).toInt16.toInt32)), (.int ((-1 : Int32).toInt16.toInt32)), (.int ((-1 : Int32).toInt16.toInt32))]
set_option maxHeartbeats 40000000 in
theorem rm5n4 (l : Launch) (Z : State) (a0 : Array Value) (hw : ∀ d ∈ tables_1, d.before a0 Z = true) (ws : List Jvm.Cond) (a1 : Addr) (h0 : Heap) (n0 : Nat) (Z0 : n0 ≤ h0.size) (F0 : own_A Z h0 a1 .short [(.int (0 : Int32)), (.int (0 : Int32)), (.int (0 : Int32)), (.int (0 : Int32))]) (ga : n0 ≤ a1) :
    MetFree l (⟨"java/util/Arrays", "fill", "([SS)V"⟩ : MethodName) (head1 (Jvm.Cond.code (⟨"java/util/Arrays", "fill", "([SS)V"⟩ : MethodName) jdk_65_method_105_code 4 none :: ws) ({ frames := 0, cells := 0, slots := 0, locals := 0 } : Room)) (fun a U => a = #[(.ref a1), (.int (-1 : Int32))] ∧ Z.Warmed39 U.vm ∧ U.heap = h0) (fun _ _ _ _ _ => True) (fun _ U o U' => ∃ v L, o = .returned v ∧ Q5n4 Z a1 h0 n0 v U'.heap L ∧ FrameEnd U o U' L ({ frames := 0, cells := 0, slots := 0, locals := 0 } : Room).cells ({ frames := 0, cells := 0, slots := 0, locals := 0 } : Room).slots) := by
  refine MetFree.of_bodySF (plainFor_of_name own_pn2) hisR ?_
  intro p e s m args below meth c s₁ Bd hml0 hP hK
  obtain ⟨rfl, hZ, hh⟩ := hP
  have hx := Bd.exec
  have hby := Bd.bytes
  have hml : c.maxLocals = 4 := hml0
  have hlk : meth.locks = false := BodyLoose.notSynchronized Bd
  have hown : s.vm.findClass "java/util/Arrays" = some m.cls := findClass_of_methodNamed Bd.named
  have hnm := (name_of_methodNamed Bd.named Bd.method).1
  have X0 : Stand p l e ({ frames := 0, cells := 0, slots := 0, locals := 0 } : Room) s m #[(.ref a1), (.int (-1 : Int32))] below meth c s₁ [] 0 0 := Stand.of_body Bd
  have e0 : s₁.heap = h0 := by rw [← hh, Bd.state]; rfl
  have N0 := Fr.nil n0
  show own_Go p e below s (Q5n4 Z a1 h0 n0) ({ frames := 0, cells := 0, slots := 0, locals := 0 } : Room).cells ({ frames := 0, cells := 0, slots := 0, locals := 0 } : Room).slots _
  refine own_st (B := s₁.setTop (mkF m 0 #[.val (.ref a1), .val (.int (-1 : Int32)), .unset, .unset] [])) (fun t k => castTop (ef_5n4 m (a1) ((-1 : Int32))) k) ?_
  refine own_st (B := s₁.setTop (mkF m 1 #[.val (.ref a1), .val (.int (-1 : Int32)), .unset, .unset] [(.int (0 : Int32))])) (fun t k => XS.iconst X0.here hx rfl (hb hby d5_0) k) ?_
  refine own_st (B := s₁.setTop (mkF m 2 #[.val (.ref a1), .val (.int (-1 : Int32)), .val (.int (0 : Int32)), .unset] [])) (fun t k => XS.istoreN X0.here hx rfl (hb hby d5_1) rfl (l' := #[.val (.ref a1), .val (.int (-1 : Int32)), .val (.int (0 : Int32)), .unset]) rfl k) ?_
  refine own_st (B := s₁.setTop (mkF m 3 #[.val (.ref a1), .val (.int (-1 : Int32)), .val (.int (0 : Int32)), .unset] [(.ref a1)])) (fun t k => XS.aloadN X0.here hx rfl (hb hby d5_2) rfl rfl k) ?_
  refine own_st (B := s₁.setTop (mkF m 4 #[.val (.ref a1), .val (.int (-1 : Int32)), .val (.int (0 : Int32)), .unset] [(.int (4 : Int32))])) (fun t k => own_len X0 hx hZ e0 F0 (g := (mkF m 3 #[.val (.ref a1), .val (.int (-1 : Int32)), .val (.int (0 : Int32)), .unset] [(.ref a1)])) (n := (4 : Int32)) (show (4 : Int32).toInt = ((4 : Nat) : Int) from by decide) rfl rfl (hb hby d5_3) k) ?_
  refine own_st (B := s₁.setTop (mkF m 5 #[.val (.ref a1), .val (.int (-1 : Int32)), .val (.int (0 : Int32)), .val (.int (4 : Int32))] [])) (fun t k => XS.istoreN X0.here hx rfl (hb hby d5_4) rfl (l' := #[.val (.ref a1), .val (.int (-1 : Int32)), .val (.int (0 : Int32)), .val (.int (4 : Int32))]) rfl k) ?_
  refine own_st (B := s₁.setTop (mkF m 6 #[.val (.ref a1), .val (.int (-1 : Int32)), .val (.int (0 : Int32)), .val (.int (4 : Int32))] [(.int (0 : Int32))])) (fun t k => XS.iloadN X0.here hx rfl (hb hby d5_5) rfl k) ?_
  refine own_st (B := s₁.setTop (mkF m 7 #[.val (.ref a1), .val (.int (-1 : Int32)), .val (.int (0 : Int32)), .val (.int (4 : Int32))] [(.int (4 : Int32)), (.int (0 : Int32))])) (fun t k => XS.iloadN X0.here hx rfl (hb hby d5_6) rfl k) ?_
  refine own_st (B := s₁.setTop (mkF m 10 #[.val (.ref a1), .val (.int (-1 : Int32)), .val (.int (0 : Int32)), .val (.int (4 : Int32))] [])) (fun t k => XS.icmpNo X0.here hx rfl (hb hby d5_7) rfl (by decide) k) ?_
  refine own_st (B := s₁.setTop (mkF m 11 #[.val (.ref a1), .val (.int (-1 : Int32)), .val (.int (0 : Int32)), .val (.int (4 : Int32))] [(.ref a1)])) (fun t k => XS.aloadN X0.here hx rfl (hb hby d5_10) rfl rfl k) ?_
  refine own_st (B := s₁.setTop (mkF m 12 #[.val (.ref a1), .val (.int (-1 : Int32)), .val (.int (0 : Int32)), .val (.int (4 : Int32))] [(.int (0 : Int32)), (.ref a1)])) (fun t k => XS.iloadN X0.here hx rfl (hb hby d5_11) rfl k) ?_
  refine own_st (B := s₁.setTop (mkF m 13 #[.val (.ref a1), .val (.int (-1 : Int32)), .val (.int (0 : Int32)), .val (.int (4 : Int32))] [(.int (-1 : Int32)), (.int (0 : Int32)), (.ref a1)])) (fun t k => XS.iloadN X0.here hx rfl (hb hby d5_12) rfl k) ?_
  obtain ⟨T1, h1, X1, e1, W1, A1, st1⟩ := own_stS X0 hx hZ e0 F0 (j := (0 : Int32)) (x := (-1 : Int32)) (i := 0) (by decide) (show 0 < 4 from by decide) (g := (mkF m 13 #[.val (.ref a1), .val (.int (-1 : Int32)), .val (.int (0 : Int32)), .val (.int (4 : Int32))] [(.int (-1 : Int32)), (.int (0 : Int32)), (.ref a1)])) rfl rfl (hb hby d5_13)
  have f1_ : own_A Z h1 a1 .short [(.int ((-1 : Int32).toInt16.toInt32)), (.int (0 : Int32)), (.int (0 : Int32)), (.int (0 : Int32))] := A1
  have z2 : n0 ≤ h1.size := Nat.le_trans Z0 (Keep.of_wr W1).1
  have kp2 : Keep h0 h1 [a1] := (Keep.refl h0 [a1]).wr W1 (Or.inl (List.mem_of_getElem? (i := 0) rfl))
  have n3 := Fr.snoc X1 N0 ga
  refine own_st (B := T1.setTop (mkF m 14 #[.val (.ref a1), .val (.int (-1 : Int32)), .val (.int (0 : Int32)), .val (.int (4 : Int32))] [])) (fun t k => st1 t k) ?_
  refine own_st (B := T1.setTop (mkF m 17 #[.val (.ref a1), .val (.int (-1 : Int32)), .val (.int ((0 : Int32) + (1 : Int32))), .val (.int (4 : Int32))] [])) (fun t k => XS.iinc X1.here hx rfl (hb hby d5_14) rfl (l' := #[.val (.ref a1), .val (.int (-1 : Int32)), .val (.int ((0 : Int32) + (1 : Int32))), .val (.int (4 : Int32))]) rfl k) ?_
  refine own_st (B := T1.setTop (mkF m 5 #[.val (.ref a1), .val (.int (-1 : Int32)), .val (.int ((0 : Int32) + (1 : Int32))), .val (.int (4 : Int32))] [])) (fun t k => XS.goto X1.here hx rfl (pc0 := 17) (pc' := 5) rfl (hb hby d5_17) (by decide) (by decide) k) ?_
  refine own_st (B := T1.setTop (mkF m 6 #[.val (.ref a1), .val (.int (-1 : Int32)), .val (.int ((0 : Int32) + (1 : Int32))), .val (.int (4 : Int32))] [(.int ((0 : Int32) + (1 : Int32)))])) (fun t k => XS.iloadN X1.here hx rfl (hb hby d5_5) rfl k) ?_
  refine own_st (B := T1.setTop (mkF m 7 #[.val (.ref a1), .val (.int (-1 : Int32)), .val (.int ((0 : Int32) + (1 : Int32))), .val (.int (4 : Int32))] [(.int (4 : Int32)), (.int ((0 : Int32) + (1 : Int32)))])) (fun t k => XS.iloadN X1.here hx rfl (hb hby d5_6) rfl k) ?_
  refine own_st (B := T1.setTop (mkF m 10 #[.val (.ref a1), .val (.int (-1 : Int32)), .val (.int ((0 : Int32) + (1 : Int32))), .val (.int (4 : Int32))] [])) (fun t k => XS.icmpNo X1.here hx rfl (hb hby d5_7) rfl (by decide) k) ?_
  refine own_st (B := T1.setTop (mkF m 11 #[.val (.ref a1), .val (.int (-1 : Int32)), .val (.int ((0 : Int32) + (1 : Int32))), .val (.int (4 : Int32))] [(.ref a1)])) (fun t k => XS.aloadN X1.here hx rfl (hb hby d5_10) rfl rfl k) ?_
  refine own_st (B := T1.setTop (mkF m 12 #[.val (.ref a1), .val (.int (-1 : Int32)), .val (.int ((0 : Int32) + (1 : Int32))), .val (.int (4 : Int32))] [(.int ((0 : Int32) + (1 : Int32))), (.ref a1)])) (fun t k => XS.iloadN X1.here hx rfl (hb hby d5_11) rfl k) ?_
  refine own_st (B := T1.setTop (mkF m 13 #[.val (.ref a1), .val (.int (-1 : Int32)), .val (.int ((0 : Int32) + (1 : Int32))), .val (.int (4 : Int32))] [(.int (-1 : Int32)), (.int ((0 : Int32) + (1 : Int32))), (.ref a1)])) (fun t k => XS.iloadN X1.here hx rfl (hb hby d5_12) rfl k) ?_
  obtain ⟨T4, h4, X4, e4, W4, A4, st4⟩ := own_stS X1 hx hZ e1 f1_ (j := ((0 : Int32) + (1 : Int32))) (x := (-1 : Int32)) (i := 1) (by decide) (show 1 < 4 from by decide) (g := (mkF m 13 #[.val (.ref a1), .val (.int (-1 : Int32)), .val (.int ((0 : Int32) + (1 : Int32))), .val (.int (4 : Int32))] [(.int (-1 : Int32)), (.int ((0 : Int32) + (1 : Int32))), (.ref a1)])) rfl rfl (hb hby d5_13)
  have f4_ : own_A Z h4 a1 .short [(.int ((-1 : Int32).toInt16.toInt32)), (.int ((-1 : Int32).toInt16.toInt32)), (.int (0 : Int32)), (.int (0 : Int32))] := A4
  have z5 : n0 ≤ h4.size := Nat.le_trans z2 (Keep.of_wr W4).1
  have kp5 : Keep h0 h4 [a1] := kp2.wr W4 (Or.inl (List.mem_of_getElem? (i := 0) rfl))
  have n6 := Fr.snoc X4 n3 ga
  refine own_st (B := T4.setTop (mkF m 14 #[.val (.ref a1), .val (.int (-1 : Int32)), .val (.int ((0 : Int32) + (1 : Int32))), .val (.int (4 : Int32))] [])) (fun t k => st4 t k) ?_
  refine own_st (B := T4.setTop (mkF m 17 #[.val (.ref a1), .val (.int (-1 : Int32)), .val (.int (((0 : Int32) + (1 : Int32)) + (1 : Int32))), .val (.int (4 : Int32))] [])) (fun t k => XS.iinc X4.here hx rfl (hb hby d5_14) rfl (l' := #[.val (.ref a1), .val (.int (-1 : Int32)), .val (.int (((0 : Int32) + (1 : Int32)) + (1 : Int32))), .val (.int (4 : Int32))]) rfl k) ?_
  refine own_st (B := T4.setTop (mkF m 5 #[.val (.ref a1), .val (.int (-1 : Int32)), .val (.int (((0 : Int32) + (1 : Int32)) + (1 : Int32))), .val (.int (4 : Int32))] [])) (fun t k => XS.goto X4.here hx rfl (pc0 := 17) (pc' := 5) rfl (hb hby d5_17) (by decide) (by decide) k) ?_
  refine own_st (B := T4.setTop (mkF m 6 #[.val (.ref a1), .val (.int (-1 : Int32)), .val (.int (((0 : Int32) + (1 : Int32)) + (1 : Int32))), .val (.int (4 : Int32))] [(.int (((0 : Int32) + (1 : Int32)) + (1 : Int32)))])) (fun t k => XS.iloadN X4.here hx rfl (hb hby d5_5) rfl k) ?_
  refine own_st (B := T4.setTop (mkF m 7 #[.val (.ref a1), .val (.int (-1 : Int32)), .val (.int (((0 : Int32) + (1 : Int32)) + (1 : Int32))), .val (.int (4 : Int32))] [(.int (4 : Int32)), (.int (((0 : Int32) + (1 : Int32)) + (1 : Int32)))])) (fun t k => XS.iloadN X4.here hx rfl (hb hby d5_6) rfl k) ?_
  refine own_st (B := T4.setTop (mkF m 10 #[.val (.ref a1), .val (.int (-1 : Int32)), .val (.int (((0 : Int32) + (1 : Int32)) + (1 : Int32))), .val (.int (4 : Int32))] [])) (fun t k => XS.icmpNo X4.here hx rfl (hb hby d5_7) rfl (by decide) k) ?_
  refine own_st (B := T4.setTop (mkF m 11 #[.val (.ref a1), .val (.int (-1 : Int32)), .val (.int (((0 : Int32) + (1 : Int32)) + (1 : Int32))), .val (.int (4 : Int32))] [(.ref a1)])) (fun t k => XS.aloadN X4.here hx rfl (hb hby d5_10) rfl rfl k) ?_
  refine own_st (B := T4.setTop (mkF m 12 #[.val (.ref a1), .val (.int (-1 : Int32)), .val (.int (((0 : Int32) + (1 : Int32)) + (1 : Int32))), .val (.int (4 : Int32))] [(.int (((0 : Int32) + (1 : Int32)) + (1 : Int32))), (.ref a1)])) (fun t k => XS.iloadN X4.here hx rfl (hb hby d5_11) rfl k) ?_
  refine own_st (B := T4.setTop (mkF m 13 #[.val (.ref a1), .val (.int (-1 : Int32)), .val (.int (((0 : Int32) + (1 : Int32)) + (1 : Int32))), .val (.int (4 : Int32))] [(.int (-1 : Int32)), (.int (((0 : Int32) + (1 : Int32)) + (1 : Int32))), (.ref a1)])) (fun t k => XS.iloadN X4.here hx rfl (hb hby d5_12) rfl k) ?_
  obtain ⟨T7, h7, X7, e7, W7, A7, st7⟩ := own_stS X4 hx hZ e4 f4_ (j := (((0 : Int32) + (1 : Int32)) + (1 : Int32))) (x := (-1 : Int32)) (i := 2) (by decide) (show 2 < 4 from by decide) (g := (mkF m 13 #[.val (.ref a1), .val (.int (-1 : Int32)), .val (.int (((0 : Int32) + (1 : Int32)) + (1 : Int32))), .val (.int (4 : Int32))] [(.int (-1 : Int32)), (.int (((0 : Int32) + (1 : Int32)) + (1 : Int32))), (.ref a1)])) rfl rfl (hb hby d5_13)
  have f7_ : own_A Z h7 a1 .short [(.int ((-1 : Int32).toInt16.toInt32)), (.int ((-1 : Int32).toInt16.toInt32)), (.int ((-1 : Int32).toInt16.toInt32)), (.int (0 : Int32))] := A7
  have z8 : n0 ≤ h7.size := Nat.le_trans z5 (Keep.of_wr W7).1
  have kp8 : Keep h0 h7 [a1] := kp5.wr W7 (Or.inl (List.mem_of_getElem? (i := 0) rfl))
  have n9 := Fr.snoc X7 n6 ga
  refine own_st (B := T7.setTop (mkF m 14 #[.val (.ref a1), .val (.int (-1 : Int32)), .val (.int (((0 : Int32) + (1 : Int32)) + (1 : Int32))), .val (.int (4 : Int32))] [])) (fun t k => st7 t k) ?_
  refine own_st (B := T7.setTop (mkF m 17 #[.val (.ref a1), .val (.int (-1 : Int32)), .val (.int ((((0 : Int32) + (1 : Int32)) + (1 : Int32)) + (1 : Int32))), .val (.int (4 : Int32))] [])) (fun t k => XS.iinc X7.here hx rfl (hb hby d5_14) rfl (l' := #[.val (.ref a1), .val (.int (-1 : Int32)), .val (.int ((((0 : Int32) + (1 : Int32)) + (1 : Int32)) + (1 : Int32))), .val (.int (4 : Int32))]) rfl k) ?_
  refine own_st (B := T7.setTop (mkF m 5 #[.val (.ref a1), .val (.int (-1 : Int32)), .val (.int ((((0 : Int32) + (1 : Int32)) + (1 : Int32)) + (1 : Int32))), .val (.int (4 : Int32))] [])) (fun t k => XS.goto X7.here hx rfl (pc0 := 17) (pc' := 5) rfl (hb hby d5_17) (by decide) (by decide) k) ?_
  refine own_st (B := T7.setTop (mkF m 6 #[.val (.ref a1), .val (.int (-1 : Int32)), .val (.int ((((0 : Int32) + (1 : Int32)) + (1 : Int32)) + (1 : Int32))), .val (.int (4 : Int32))] [(.int ((((0 : Int32) + (1 : Int32)) + (1 : Int32)) + (1 : Int32)))])) (fun t k => XS.iloadN X7.here hx rfl (hb hby d5_5) rfl k) ?_
  refine own_st (B := T7.setTop (mkF m 7 #[.val (.ref a1), .val (.int (-1 : Int32)), .val (.int ((((0 : Int32) + (1 : Int32)) + (1 : Int32)) + (1 : Int32))), .val (.int (4 : Int32))] [(.int (4 : Int32)), (.int ((((0 : Int32) + (1 : Int32)) + (1 : Int32)) + (1 : Int32)))])) (fun t k => XS.iloadN X7.here hx rfl (hb hby d5_6) rfl k) ?_
  refine own_st (B := T7.setTop (mkF m 10 #[.val (.ref a1), .val (.int (-1 : Int32)), .val (.int ((((0 : Int32) + (1 : Int32)) + (1 : Int32)) + (1 : Int32))), .val (.int (4 : Int32))] [])) (fun t k => XS.icmpNo X7.here hx rfl (hb hby d5_7) rfl (by decide) k) ?_
  refine own_st (B := T7.setTop (mkF m 11 #[.val (.ref a1), .val (.int (-1 : Int32)), .val (.int ((((0 : Int32) + (1 : Int32)) + (1 : Int32)) + (1 : Int32))), .val (.int (4 : Int32))] [(.ref a1)])) (fun t k => XS.aloadN X7.here hx rfl (hb hby d5_10) rfl rfl k) ?_
  refine own_st (B := T7.setTop (mkF m 12 #[.val (.ref a1), .val (.int (-1 : Int32)), .val (.int ((((0 : Int32) + (1 : Int32)) + (1 : Int32)) + (1 : Int32))), .val (.int (4 : Int32))] [(.int ((((0 : Int32) + (1 : Int32)) + (1 : Int32)) + (1 : Int32))), (.ref a1)])) (fun t k => XS.iloadN X7.here hx rfl (hb hby d5_11) rfl k) ?_
  refine own_st (B := T7.setTop (mkF m 13 #[.val (.ref a1), .val (.int (-1 : Int32)), .val (.int ((((0 : Int32) + (1 : Int32)) + (1 : Int32)) + (1 : Int32))), .val (.int (4 : Int32))] [(.int (-1 : Int32)), (.int ((((0 : Int32) + (1 : Int32)) + (1 : Int32)) + (1 : Int32))), (.ref a1)])) (fun t k => XS.iloadN X7.here hx rfl (hb hby d5_12) rfl k) ?_
  obtain ⟨T10, h10, X10, e10, W10, A10, st10⟩ := own_stS X7 hx hZ e7 f7_ (j := ((((0 : Int32) + (1 : Int32)) + (1 : Int32)) + (1 : Int32))) (x := (-1 : Int32)) (i := 3) (by decide) (show 3 < 4 from by decide) (g := (mkF m 13 #[.val (.ref a1), .val (.int (-1 : Int32)), .val (.int ((((0 : Int32) + (1 : Int32)) + (1 : Int32)) + (1 : Int32))), .val (.int (4 : Int32))] [(.int (-1 : Int32)), (.int ((((0 : Int32) + (1 : Int32)) + (1 : Int32)) + (1 : Int32))), (.ref a1)])) rfl rfl (hb hby d5_13)
  have f10_ : own_A Z h10 a1 .short [(.int ((-1 : Int32).toInt16.toInt32)), (.int ((-1 : Int32).toInt16.toInt32)), (.int ((-1 : Int32).toInt16.toInt32)), (.int ((-1 : Int32).toInt16.toInt32))] := A10
  have z11 : n0 ≤ h10.size := Nat.le_trans z8 (Keep.of_wr W10).1
  have kp11 : Keep h0 h10 [a1] := kp8.wr W10 (Or.inl (List.mem_of_getElem? (i := 0) rfl))
  have n12 := Fr.snoc X10 n9 ga
  refine own_st (B := T10.setTop (mkF m 14 #[.val (.ref a1), .val (.int (-1 : Int32)), .val (.int ((((0 : Int32) + (1 : Int32)) + (1 : Int32)) + (1 : Int32))), .val (.int (4 : Int32))] [])) (fun t k => st10 t k) ?_
  refine own_st (B := T10.setTop (mkF m 17 #[.val (.ref a1), .val (.int (-1 : Int32)), .val (.int (((((0 : Int32) + (1 : Int32)) + (1 : Int32)) + (1 : Int32)) + (1 : Int32))), .val (.int (4 : Int32))] [])) (fun t k => XS.iinc X10.here hx rfl (hb hby d5_14) rfl (l' := #[.val (.ref a1), .val (.int (-1 : Int32)), .val (.int (((((0 : Int32) + (1 : Int32)) + (1 : Int32)) + (1 : Int32)) + (1 : Int32))), .val (.int (4 : Int32))]) rfl k) ?_
  refine own_st (B := T10.setTop (mkF m 5 #[.val (.ref a1), .val (.int (-1 : Int32)), .val (.int (((((0 : Int32) + (1 : Int32)) + (1 : Int32)) + (1 : Int32)) + (1 : Int32))), .val (.int (4 : Int32))] [])) (fun t k => XS.goto X10.here hx rfl (pc0 := 17) (pc' := 5) rfl (hb hby d5_17) (by decide) (by decide) k) ?_
  refine own_st (B := T10.setTop (mkF m 6 #[.val (.ref a1), .val (.int (-1 : Int32)), .val (.int (((((0 : Int32) + (1 : Int32)) + (1 : Int32)) + (1 : Int32)) + (1 : Int32))), .val (.int (4 : Int32))] [(.int (((((0 : Int32) + (1 : Int32)) + (1 : Int32)) + (1 : Int32)) + (1 : Int32)))])) (fun t k => XS.iloadN X10.here hx rfl (hb hby d5_5) rfl k) ?_
  refine own_st (B := T10.setTop (mkF m 7 #[.val (.ref a1), .val (.int (-1 : Int32)), .val (.int (((((0 : Int32) + (1 : Int32)) + (1 : Int32)) + (1 : Int32)) + (1 : Int32))), .val (.int (4 : Int32))] [(.int (4 : Int32)), (.int (((((0 : Int32) + (1 : Int32)) + (1 : Int32)) + (1 : Int32)) + (1 : Int32)))])) (fun t k => XS.iloadN X10.here hx rfl (hb hby d5_6) rfl k) ?_
  refine own_st (B := T10.setTop (mkF m 20 #[.val (.ref a1), .val (.int (-1 : Int32)), .val (.int (((((0 : Int32) + (1 : Int32)) + (1 : Int32)) + (1 : Int32)) + (1 : Int32))), .val (.int (4 : Int32))] [])) (fun t k => XS.icmpYes X10.here hx rfl (pc0 := 7) (pc' := 20) rfl (hb hby d5_7) rfl (by decide) (by decide) (by decide) k) ?_
  refine own_retV X10 hx hlk Bd.returns (hb hby d5_20) (by decide) (by decide) ?_
  show Q5n4 Z a1 h0 n0 _ T10.heap _
  rw [e10]
  exact ⟨rfl, n12, kp11, f10_⟩
theorem ef_4n4 (m : MethodId) (x0 : Addr) : entryFrame m #[(.ref x0)] 1 = mkF m 0 #[.val (.ref x0)] [] := by first | (simp [entryFrame, mkF, argsToLocals, Value.category]; done) | rfl
def Q4n4 (Z : State) (a1 : Addr) (ac : Addr) (asl : Addr) (ai : Addr) (B : Int32) (h0 : Heap) (n0 : Nat) (v : Option Value) (h : Heap) (L : List Loc) : Prop := v = none ∧ Fr n0 L ∧ Keep h0 h [a1, ai] ∧ Fld Z h a1 "com/example/relayframe/relayframe/Palette" "colours" "[I" (.ref ac) ∧ Fld Z h a1 "com/example/relayframe/relayframe/Palette" "slotBits" "I" (.int B) ∧ Fld Z h a1 "com/example/relayframe/relayframe/Palette" "slotColours" "[I" (.ref asl) ∧ Fld Z h a1 "com/example/relayframe/relayframe/Palette" "slotIndices" "[S" (.ref ai) ∧ Fld Z h a1 "com/example/relayframe/relayframe/Palette" "size" "I" (.int (0 : Int32)) ∧ own_A Z h ai .short [(.int ((-1 : Int32).toInt16.toInt32)), (.int ((-1 : Int32).toInt16.toInt32)), (.int ((-1 : Int32).toInt16.toInt32)), (.int ((-1 : Int32).toInt16.toInt32))]
set_option maxHeartbeats 40000000 in
theorem rm4n4 (l : Launch) (Z : State) (a0 : Array Value) (hw : ∀ d ∈ tables_1, d.before a0 Z = true) (ws : List Jvm.Cond) (a1 : Addr) (ac : Addr) (asl : Addr) (ai : Addr) (B : Int32) (h0 : Heap) (n0 : Nat) (Z0 : n0 ≤ h0.size) (F0 : Exa Z h0 a1 "com/example/relayframe/relayframe/Palette") (F1 : Fld Z h0 a1 "com/example/relayframe/relayframe/Palette" "colours" "[I" (.ref ac)) (F2 : Fld Z h0 a1 "com/example/relayframe/relayframe/Palette" "slotBits" "I" (.int B)) (F3 : Fld Z h0 a1 "com/example/relayframe/relayframe/Palette" "slotColours" "[I" (.ref asl)) (F4 : Fld Z h0 a1 "com/example/relayframe/relayframe/Palette" "slotIndices" "[S" (.ref ai)) (F5 : Fld Z h0 a1 "com/example/relayframe/relayframe/Palette" "size" "I" (.int (0 : Int32))) (F6 : own_A Z h0 ai .short [(.int (0 : Int32)), (.int (0 : Int32)), (.int (0 : Int32)), (.int (0 : Int32))]) (F7 : Exa Z h0 ai "[S") (ga : n0 ≤ a1) (gi : n0 ≤ ai) :
    MetFree l (⟨"com/example/relayframe/relayframe/Palette", "clear", "()V"⟩ : MethodName) (head1 (Jvm.Cond.code (⟨"com/example/relayframe/relayframe/Palette", "clear", "()V"⟩ : MethodName) prog_3_method_2_code 1 none :: ws) ({ frames := 1, cells := 0, slots := 0, locals := 15 } : Room)) (fun a U => a = #[(.ref a1)] ∧ Z.Warmed39 U.vm ∧ U.heap = h0) (fun _ _ _ _ _ => True) (fun _ U o U' => ∃ v L, o = .returned v ∧ Q4n4 Z a1 ac asl ai B h0 n0 v U'.heap L ∧ FrameEnd U o U' L ({ frames := 1, cells := 0, slots := 0, locals := 15 } : Room).cells ({ frames := 1, cells := 0, slots := 0, locals := 15 } : Room).slots) := by
  refine MetFree.of_bodySF (plainFor_of_name own_pn3) hisR ?_
  intro p e s m args below meth c s₁ Bd hml0 hP hK
  obtain ⟨rfl, hZ, hh⟩ := hP
  have hx := Bd.exec
  have hby := Bd.bytes
  have hml : c.maxLocals = 1 := hml0
  have hlk : meth.locks = false := BodyLoose.notSynchronized Bd
  have hown : s.vm.findClass "com/example/relayframe/relayframe/Palette" = some m.cls := findClass_of_methodNamed Bd.named
  have hnm := (name_of_methodNamed Bd.named Bd.method).1
  have X0 : Stand p l e ({ frames := 1, cells := 0, slots := 0, locals := 15 } : Room) s m #[(.ref a1)] below meth c s₁ [] 0 0 := Stand.of_body Bd
  have e0 : s₁.heap = h0 := by rw [← hh, Bd.state]; rfl
  have N0 := Fr.nil n0
  show own_Go p e below s (Q4n4 Z a1 ac asl ai B h0 n0) ({ frames := 1, cells := 0, slots := 0, locals := 15 } : Room).cells ({ frames := 1, cells := 0, slots := 0, locals := 15 } : Room).slots _
  refine own_st (B := s₁.setTop (mkF m 0 #[.val (.ref a1)] [])) (fun t k => castTop (ef_4n4 m (a1)) k) ?_
  refine own_st (B := s₁.setTop (mkF m 1 #[.val (.ref a1)] [(.ref a1)])) (fun t k => XS.aloadN X0.here hx rfl (hb hby d4_0) rfl rfl k) ?_
  obtain ⟨T1, X1, e1, st1⟩ := getF X0 hx hZ hown (host := "") (Or.inl (w_22 hw)) Via.refl e0 F4 (g := (mkF m 1 #[.val (.ref a1)] [(.ref a1)])) rfl rfl (hb hby d4_1)
  refine own_st (B := T1.setTop (mkF m 4 #[.val (.ref a1)] [(.ref ai)])) (fun t k => st1 t k) ?_
  refine own_st (B := T1.setTop (mkF m 5 #[.val (.ref a1)] [(.int (-1 : Int32)), (.ref ai)])) (fun t k => XS.iconst X1.here hx rfl (hb hby d4_4) k) ?_
  obtain ⟨_, _, ⟨T2, L2, k2, j2⟩, -, X2, ⟨Lc2, hQ2, l2, y2_, z2_⟩, st2⟩ := Jvm.LawKit.callS X1 hx (y := (⟨"java/util/Arrays", "fill", "([SS)V"⟩ : MethodName)) hown (mvT hZ (w_29 hw)) (mvT hZ (w_30 hw)) (mvT hZ (w_31 hw)) (mvT hZ (w_32 hw)) (by decide) (backOf (W := 0) (rm5n4 l Z a0 hw [] ai h0 n0 Z0 F6 gi) hZ (w_32 hw) (w_31 hw) (by decide) (by decide)) (g := (mkF m 5 #[.val (.ref a1)] [(.int (-1 : Int32)), (.ref ai)])) rfl (by rw [hml]; rfl) (argsL := [(.ref ai), (.int (-1 : Int32))]) (rest := []) (lenOf own_pd2 rfl) rfl (by show 2 * 0 + _ ≤ _; exact Nat.le_of_eq rfl) (hb hby d4_5) (fun _ _ => ⟨rfl, e1, (by decide : 0 + 0 ≤ _), (by decide : 0 + 0 ≤ _)⟩)
  dsimp only [Pt.U, Pt.locs, Pt.cells, Pt.slots] at X2 l2 y2_ z2_ st2 hQ2
  subst l2 y2_ z2_
  obtain ⟨rfl, N2q, K2, p2_0⟩ := hQ2
  have N2 := Fr.app N0 N2q
  have z3 : n0 ≤ T2.heap.size := Nat.le_trans Z0 K2.1
  have kp3 : Keep h0 T2.heap [a1, ai] := (Keep.refl h0 [a1, ai]).trans K2 (allS (Or.inl (List.mem_of_getElem? (i := 1) rfl)) all0)
  refine own_st (B := T2.setTop (mkF m 8 #[.val (.ref a1)] [])) (fun t k => st2 t k) ?_
  refine own_st (B := T2.setTop (mkF m 9 #[.val (.ref a1)] [(.ref a1)])) (fun t k => XS.aloadN X2.here hx rfl (hb hby d4_8) rfl rfl k) ?_
  refine own_st (B := T2.setTop (mkF m 10 #[.val (.ref a1)] [(.int (0 : Int32)), (.ref a1)])) (fun t k => XS.iconst X2.here hx rfl (hb hby d4_9) k) ?_
  have f4 : Exa Z T2.heap a1 "com/example/relayframe/relayframe/Palette" := (F0.keep K2)
  have f5 : Exa Z T2.heap ai "[S" := (F7.keep K2)
  have f6 : Fld Z T2.heap a1 "com/example/relayframe/relayframe/Palette" "size" "I" (.int (0 : Int32)) := (F5.keep K2 (ninS (ne_exa f4 f5 (by decide)) nin0))
  obtain ⟨T7, h7, X7, e7, W7, st7⟩ := putF X2 hx hZ hown (host := "") (Or.inl (w_33 hw)) Via.refl rfl f6 f4 (Or.inl (w_34 hw)) (w_2 hw) (ty := .int) (by decide) rfl rfl (g := (mkF m 10 #[.val (.ref a1)] [(.int (0 : Int32)), (.ref a1)])) rfl rfl (hb hby d4_10)
  have f7_ : Fld Z h7 a1 "com/example/relayframe/relayframe/Palette" "size" "I" (.int (0 : Int32)) := f6.same W7
  have z8 : n0 ≤ h7.size := Nat.le_trans z3 (Keep.of_wr W7).1
  have kp8 : Keep h0 h7 [a1, ai] := kp3.wr W7 (Or.inl (List.mem_of_getElem? (i := 0) rfl))
  have n9 := Fr.snoc X7 N2 ga
  refine own_st (B := T7.setTop (mkF m 13 #[.val (.ref a1)] [])) (fun t k => st7 t k) ?_
  refine own_retV X7 hx hlk Bd.returns (hb hby d4_13) (by decide) (by decide) ?_
  show Q4n4 Z a1 ac asl ai B h0 n0 _ T7.heap _
  rw [e7]
  have f10 : Exa Z h7 a1 "com/example/relayframe/relayframe/Palette" := (f4.wr W7)
  have f11 : Exa Z h7 ai "[S" := (f5.wr W7)
  have f12 : Fld Z h7 a1 "com/example/relayframe/relayframe/Palette" "colours" "[I" (.ref ac) := ((F1.keep K2 (ninS (ne_exa f10 f11 (by decide)) nin0)).other W7 (Or.inr (slot_ne (Or.inr (w_11 hw)) (Or.inl (w_34 hw)) (by decide) (t := (.array .int)) (t' := .int) (by decide) (by decide))))
  have f13 : Fld Z h7 a1 "com/example/relayframe/relayframe/Palette" "slotBits" "I" (.int B) := ((F2.keep K2 (ninS (ne_exa f10 f11 (by decide)) nin0)).other W7 (Or.inr (slot_ne (Or.inr (w_18 hw)) (Or.inl (w_34 hw)) (by decide) (t := .int) (t' := .int) (by decide) (by decide))))
  have f14 : Fld Z h7 a1 "com/example/relayframe/relayframe/Palette" "slotColours" "[I" (.ref asl) := ((F3.keep K2 (ninS (ne_exa f10 f11 (by decide)) nin0)).other W7 (Or.inr (slot_ne (Or.inr (w_20 hw)) (Or.inl (w_34 hw)) (by decide) (t := (.array .int)) (t' := .int) (by decide) (by decide))))
  have f15 : Fld Z h7 a1 "com/example/relayframe/relayframe/Palette" "slotIndices" "[S" (.ref ai) := ((F4.keep K2 (ninS (ne_exa f10 f11 (by decide)) nin0)).other W7 (Or.inr (slot_ne (Or.inr (w_23 hw)) (Or.inl (w_34 hw)) (by decide) (t := (.array .short)) (t' := .int) (by decide) (by decide))))
  have f16 : own_A Z h7 ai .short [(.int ((-1 : Int32).toInt16.toInt32)), (.int ((-1 : Int32).toInt16.toInt32)), (.int ((-1 : Int32).toInt16.toInt32)), (.int ((-1 : Int32).toInt16.toInt32))] := (p2_0.other W7 (ne_exa f11 f10 (by decide)))
  exact ⟨rfl, n9, kp8, f12, f13, f14, f15, f7_, f16⟩
theorem ef_5n8 (m : MethodId) (x0 : Addr) (x1 : Int32) : entryFrame m #[(.ref x0), (.int x1)] 4 = mkF m 0 #[.val (.ref x0), .val (.int x1), .unset, .unset] [] := by first | (simp [entryFrame, mkF, argsToLocals, Value.category]; done) | rfl
def Q5n8 (Z : State) (a1 : Addr) (h0 : Heap) (n0 : Nat) (v : Option Value) (h : Heap) (L : List Loc) : Prop := v = none ∧ Fr n0 L ∧ Keep h0 h [a1] ∧ own_A Z h a1 .short [(.int ((-1 : Int32).toInt16.toInt32)), (.int ((-1 : Int32).toInt16.toInt32)), (.int ((-1 : Int32).toInt16.toInt32)), (.int ((-1 : Int32).toInt16.toInt32)), (.int ((-1 : Int32).toInt16.toInt32)), (.int ((-1 : Int32).toInt16.toInt32)), (.int ((-1 : Int32).toInt16.toInt32)), (.int ((-1 : Int32).toInt16.toInt32))]
set_option maxHeartbeats 40000000 in
theorem rm5n8 (l : Launch) (Z : State) (a0 : Array Value) (hw : ∀ d ∈ tables_1, d.before a0 Z = true) (ws : List Jvm.Cond) (a1 : Addr) (h0 : Heap) (n0 : Nat) (Z0 : n0 ≤ h0.size) (F0 : own_A Z h0 a1 .short [(.int (0 : Int32)), (.int (0 : Int32)), (.int (0 : Int32)), (.int (0 : Int32)), (.int (0 : Int32)), (.int (0 : Int32)), (.int (0 : Int32)), (.int (0 : Int32))]) (ga : n0 ≤ a1) :
    MetFree l (⟨"java/util/Arrays", "fill", "([SS)V"⟩ : MethodName) (head1 (Jvm.Cond.code (⟨"java/util/Arrays", "fill", "([SS)V"⟩ : MethodName) jdk_65_method_105_code 4 none :: ws) ({ frames := 0, cells := 0, slots := 0, locals := 0 } : Room)) (fun a U => a = #[(.ref a1), (.int (-1 : Int32))] ∧ Z.Warmed39 U.vm ∧ U.heap = h0) (fun _ _ _ _ _ => True) (fun _ U o U' => ∃ v L, o = .returned v ∧ Q5n8 Z a1 h0 n0 v U'.heap L ∧ FrameEnd U o U' L ({ frames := 0, cells := 0, slots := 0, locals := 0 } : Room).cells ({ frames := 0, cells := 0, slots := 0, locals := 0 } : Room).slots) := by
  refine MetFree.of_bodySF (plainFor_of_name own_pn2) hisR ?_
  intro p e s m args below meth c s₁ Bd hml0 hP hK
  obtain ⟨rfl, hZ, hh⟩ := hP
  have hx := Bd.exec
  have hby := Bd.bytes
  have hml : c.maxLocals = 4 := hml0
  have hlk : meth.locks = false := BodyLoose.notSynchronized Bd
  have hown : s.vm.findClass "java/util/Arrays" = some m.cls := findClass_of_methodNamed Bd.named
  have hnm := (name_of_methodNamed Bd.named Bd.method).1
  have X0 : Stand p l e ({ frames := 0, cells := 0, slots := 0, locals := 0 } : Room) s m #[(.ref a1), (.int (-1 : Int32))] below meth c s₁ [] 0 0 := Stand.of_body Bd
  have e0 : s₁.heap = h0 := by rw [← hh, Bd.state]; rfl
  have N0 := Fr.nil n0
  show own_Go p e below s (Q5n8 Z a1 h0 n0) ({ frames := 0, cells := 0, slots := 0, locals := 0 } : Room).cells ({ frames := 0, cells := 0, slots := 0, locals := 0 } : Room).slots _
  refine own_st (B := s₁.setTop (mkF m 0 #[.val (.ref a1), .val (.int (-1 : Int32)), .unset, .unset] [])) (fun t k => castTop (ef_5n8 m (a1) ((-1 : Int32))) k) ?_
  refine own_st (B := s₁.setTop (mkF m 1 #[.val (.ref a1), .val (.int (-1 : Int32)), .unset, .unset] [(.int (0 : Int32))])) (fun t k => XS.iconst X0.here hx rfl (hb hby d5_0) k) ?_
  refine own_st (B := s₁.setTop (mkF m 2 #[.val (.ref a1), .val (.int (-1 : Int32)), .val (.int (0 : Int32)), .unset] [])) (fun t k => XS.istoreN X0.here hx rfl (hb hby d5_1) rfl (l' := #[.val (.ref a1), .val (.int (-1 : Int32)), .val (.int (0 : Int32)), .unset]) rfl k) ?_
  refine own_st (B := s₁.setTop (mkF m 3 #[.val (.ref a1), .val (.int (-1 : Int32)), .val (.int (0 : Int32)), .unset] [(.ref a1)])) (fun t k => XS.aloadN X0.here hx rfl (hb hby d5_2) rfl rfl k) ?_
  refine own_st (B := s₁.setTop (mkF m 4 #[.val (.ref a1), .val (.int (-1 : Int32)), .val (.int (0 : Int32)), .unset] [(.int (8 : Int32))])) (fun t k => own_len X0 hx hZ e0 F0 (g := (mkF m 3 #[.val (.ref a1), .val (.int (-1 : Int32)), .val (.int (0 : Int32)), .unset] [(.ref a1)])) (n := (8 : Int32)) (show (8 : Int32).toInt = ((8 : Nat) : Int) from by decide) rfl rfl (hb hby d5_3) k) ?_
  refine own_st (B := s₁.setTop (mkF m 5 #[.val (.ref a1), .val (.int (-1 : Int32)), .val (.int (0 : Int32)), .val (.int (8 : Int32))] [])) (fun t k => XS.istoreN X0.here hx rfl (hb hby d5_4) rfl (l' := #[.val (.ref a1), .val (.int (-1 : Int32)), .val (.int (0 : Int32)), .val (.int (8 : Int32))]) rfl k) ?_
  refine own_st (B := s₁.setTop (mkF m 6 #[.val (.ref a1), .val (.int (-1 : Int32)), .val (.int (0 : Int32)), .val (.int (8 : Int32))] [(.int (0 : Int32))])) (fun t k => XS.iloadN X0.here hx rfl (hb hby d5_5) rfl k) ?_
  refine own_st (B := s₁.setTop (mkF m 7 #[.val (.ref a1), .val (.int (-1 : Int32)), .val (.int (0 : Int32)), .val (.int (8 : Int32))] [(.int (8 : Int32)), (.int (0 : Int32))])) (fun t k => XS.iloadN X0.here hx rfl (hb hby d5_6) rfl k) ?_
  refine own_st (B := s₁.setTop (mkF m 10 #[.val (.ref a1), .val (.int (-1 : Int32)), .val (.int (0 : Int32)), .val (.int (8 : Int32))] [])) (fun t k => XS.icmpNo X0.here hx rfl (hb hby d5_7) rfl (by decide) k) ?_
  refine own_st (B := s₁.setTop (mkF m 11 #[.val (.ref a1), .val (.int (-1 : Int32)), .val (.int (0 : Int32)), .val (.int (8 : Int32))] [(.ref a1)])) (fun t k => XS.aloadN X0.here hx rfl (hb hby d5_10) rfl rfl k) ?_
  refine own_st (B := s₁.setTop (mkF m 12 #[.val (.ref a1), .val (.int (-1 : Int32)), .val (.int (0 : Int32)), .val (.int (8 : Int32))] [(.int (0 : Int32)), (.ref a1)])) (fun t k => XS.iloadN X0.here hx rfl (hb hby d5_11) rfl k) ?_
  refine own_st (B := s₁.setTop (mkF m 13 #[.val (.ref a1), .val (.int (-1 : Int32)), .val (.int (0 : Int32)), .val (.int (8 : Int32))] [(.int (-1 : Int32)), (.int (0 : Int32)), (.ref a1)])) (fun t k => XS.iloadN X0.here hx rfl (hb hby d5_12) rfl k) ?_
  obtain ⟨T1, h1, X1, e1, W1, A1, st1⟩ := own_stS X0 hx hZ e0 F0 (j := (0 : Int32)) (x := (-1 : Int32)) (i := 0) (by decide) (show 0 < 8 from by decide) (g := (mkF m 13 #[.val (.ref a1), .val (.int (-1 : Int32)), .val (.int (0 : Int32)), .val (.int (8 : Int32))] [(.int (-1 : Int32)), (.int (0 : Int32)), (.ref a1)])) rfl rfl (hb hby d5_13)
  have f1_ : own_A Z h1 a1 .short [(.int ((-1 : Int32).toInt16.toInt32)), (.int (0 : Int32)), (.int (0 : Int32)), (.int (0 : Int32)), (.int (0 : Int32)), (.int (0 : Int32)), (.int (0 : Int32)), (.int (0 : Int32))] := A1
  have z2 : n0 ≤ h1.size := Nat.le_trans Z0 (Keep.of_wr W1).1
  have kp2 : Keep h0 h1 [a1] := (Keep.refl h0 [a1]).wr W1 (Or.inl (List.mem_of_getElem? (i := 0) rfl))
  have n3 := Fr.snoc X1 N0 ga
  refine own_st (B := T1.setTop (mkF m 14 #[.val (.ref a1), .val (.int (-1 : Int32)), .val (.int (0 : Int32)), .val (.int (8 : Int32))] [])) (fun t k => st1 t k) ?_
  refine own_st (B := T1.setTop (mkF m 17 #[.val (.ref a1), .val (.int (-1 : Int32)), .val (.int ((0 : Int32) + (1 : Int32))), .val (.int (8 : Int32))] [])) (fun t k => XS.iinc X1.here hx rfl (hb hby d5_14) rfl (l' := #[.val (.ref a1), .val (.int (-1 : Int32)), .val (.int ((0 : Int32) + (1 : Int32))), .val (.int (8 : Int32))]) rfl k) ?_
  refine own_st (B := T1.setTop (mkF m 5 #[.val (.ref a1), .val (.int (-1 : Int32)), .val (.int ((0 : Int32) + (1 : Int32))), .val (.int (8 : Int32))] [])) (fun t k => XS.goto X1.here hx rfl (pc0 := 17) (pc' := 5) rfl (hb hby d5_17) (by decide) (by decide) k) ?_
  refine own_st (B := T1.setTop (mkF m 6 #[.val (.ref a1), .val (.int (-1 : Int32)), .val (.int ((0 : Int32) + (1 : Int32))), .val (.int (8 : Int32))] [(.int ((0 : Int32) + (1 : Int32)))])) (fun t k => XS.iloadN X1.here hx rfl (hb hby d5_5) rfl k) ?_
  refine own_st (B := T1.setTop (mkF m 7 #[.val (.ref a1), .val (.int (-1 : Int32)), .val (.int ((0 : Int32) + (1 : Int32))), .val (.int (8 : Int32))] [(.int (8 : Int32)), (.int ((0 : Int32) + (1 : Int32)))])) (fun t k => XS.iloadN X1.here hx rfl (hb hby d5_6) rfl k) ?_
  refine own_st (B := T1.setTop (mkF m 10 #[.val (.ref a1), .val (.int (-1 : Int32)), .val (.int ((0 : Int32) + (1 : Int32))), .val (.int (8 : Int32))] [])) (fun t k => XS.icmpNo X1.here hx rfl (hb hby d5_7) rfl (by decide) k) ?_
  refine own_st (B := T1.setTop (mkF m 11 #[.val (.ref a1), .val (.int (-1 : Int32)), .val (.int ((0 : Int32) + (1 : Int32))), .val (.int (8 : Int32))] [(.ref a1)])) (fun t k => XS.aloadN X1.here hx rfl (hb hby d5_10) rfl rfl k) ?_
  refine own_st (B := T1.setTop (mkF m 12 #[.val (.ref a1), .val (.int (-1 : Int32)), .val (.int ((0 : Int32) + (1 : Int32))), .val (.int (8 : Int32))] [(.int ((0 : Int32) + (1 : Int32))), (.ref a1)])) (fun t k => XS.iloadN X1.here hx rfl (hb hby d5_11) rfl k) ?_
  refine own_st (B := T1.setTop (mkF m 13 #[.val (.ref a1), .val (.int (-1 : Int32)), .val (.int ((0 : Int32) + (1 : Int32))), .val (.int (8 : Int32))] [(.int (-1 : Int32)), (.int ((0 : Int32) + (1 : Int32))), (.ref a1)])) (fun t k => XS.iloadN X1.here hx rfl (hb hby d5_12) rfl k) ?_
  obtain ⟨T4, h4, X4, e4, W4, A4, st4⟩ := own_stS X1 hx hZ e1 f1_ (j := ((0 : Int32) + (1 : Int32))) (x := (-1 : Int32)) (i := 1) (by decide) (show 1 < 8 from by decide) (g := (mkF m 13 #[.val (.ref a1), .val (.int (-1 : Int32)), .val (.int ((0 : Int32) + (1 : Int32))), .val (.int (8 : Int32))] [(.int (-1 : Int32)), (.int ((0 : Int32) + (1 : Int32))), (.ref a1)])) rfl rfl (hb hby d5_13)
  have f4_ : own_A Z h4 a1 .short [(.int ((-1 : Int32).toInt16.toInt32)), (.int ((-1 : Int32).toInt16.toInt32)), (.int (0 : Int32)), (.int (0 : Int32)), (.int (0 : Int32)), (.int (0 : Int32)), (.int (0 : Int32)), (.int (0 : Int32))] := A4
  have z5 : n0 ≤ h4.size := Nat.le_trans z2 (Keep.of_wr W4).1
  have kp5 : Keep h0 h4 [a1] := kp2.wr W4 (Or.inl (List.mem_of_getElem? (i := 0) rfl))
  have n6 := Fr.snoc X4 n3 ga
  refine own_st (B := T4.setTop (mkF m 14 #[.val (.ref a1), .val (.int (-1 : Int32)), .val (.int ((0 : Int32) + (1 : Int32))), .val (.int (8 : Int32))] [])) (fun t k => st4 t k) ?_
  refine own_st (B := T4.setTop (mkF m 17 #[.val (.ref a1), .val (.int (-1 : Int32)), .val (.int (((0 : Int32) + (1 : Int32)) + (1 : Int32))), .val (.int (8 : Int32))] [])) (fun t k => XS.iinc X4.here hx rfl (hb hby d5_14) rfl (l' := #[.val (.ref a1), .val (.int (-1 : Int32)), .val (.int (((0 : Int32) + (1 : Int32)) + (1 : Int32))), .val (.int (8 : Int32))]) rfl k) ?_
  refine own_st (B := T4.setTop (mkF m 5 #[.val (.ref a1), .val (.int (-1 : Int32)), .val (.int (((0 : Int32) + (1 : Int32)) + (1 : Int32))), .val (.int (8 : Int32))] [])) (fun t k => XS.goto X4.here hx rfl (pc0 := 17) (pc' := 5) rfl (hb hby d5_17) (by decide) (by decide) k) ?_
  refine own_st (B := T4.setTop (mkF m 6 #[.val (.ref a1), .val (.int (-1 : Int32)), .val (.int (((0 : Int32) + (1 : Int32)) + (1 : Int32))), .val (.int (8 : Int32))] [(.int (((0 : Int32) + (1 : Int32)) + (1 : Int32)))])) (fun t k => XS.iloadN X4.here hx rfl (hb hby d5_5) rfl k) ?_
  refine own_st (B := T4.setTop (mkF m 7 #[.val (.ref a1), .val (.int (-1 : Int32)), .val (.int (((0 : Int32) + (1 : Int32)) + (1 : Int32))), .val (.int (8 : Int32))] [(.int (8 : Int32)), (.int (((0 : Int32) + (1 : Int32)) + (1 : Int32)))])) (fun t k => XS.iloadN X4.here hx rfl (hb hby d5_6) rfl k) ?_
  refine own_st (B := T4.setTop (mkF m 10 #[.val (.ref a1), .val (.int (-1 : Int32)), .val (.int (((0 : Int32) + (1 : Int32)) + (1 : Int32))), .val (.int (8 : Int32))] [])) (fun t k => XS.icmpNo X4.here hx rfl (hb hby d5_7) rfl (by decide) k) ?_
  refine own_st (B := T4.setTop (mkF m 11 #[.val (.ref a1), .val (.int (-1 : Int32)), .val (.int (((0 : Int32) + (1 : Int32)) + (1 : Int32))), .val (.int (8 : Int32))] [(.ref a1)])) (fun t k => XS.aloadN X4.here hx rfl (hb hby d5_10) rfl rfl k) ?_
  refine own_st (B := T4.setTop (mkF m 12 #[.val (.ref a1), .val (.int (-1 : Int32)), .val (.int (((0 : Int32) + (1 : Int32)) + (1 : Int32))), .val (.int (8 : Int32))] [(.int (((0 : Int32) + (1 : Int32)) + (1 : Int32))), (.ref a1)])) (fun t k => XS.iloadN X4.here hx rfl (hb hby d5_11) rfl k) ?_
  refine own_st (B := T4.setTop (mkF m 13 #[.val (.ref a1), .val (.int (-1 : Int32)), .val (.int (((0 : Int32) + (1 : Int32)) + (1 : Int32))), .val (.int (8 : Int32))] [(.int (-1 : Int32)), (.int (((0 : Int32) + (1 : Int32)) + (1 : Int32))), (.ref a1)])) (fun t k => XS.iloadN X4.here hx rfl (hb hby d5_12) rfl k) ?_
  obtain ⟨T7, h7, X7, e7, W7, A7, st7⟩ := own_stS X4 hx hZ e4 f4_ (j := (((0 : Int32) + (1 : Int32)) + (1 : Int32))) (x := (-1 : Int32)) (i := 2) (by decide) (show 2 < 8 from by decide) (g := (mkF m 13 #[.val (.ref a1), .val (.int (-1 : Int32)), .val (.int (((0 : Int32) + (1 : Int32)) + (1 : Int32))), .val (.int (8 : Int32))] [(.int (-1 : Int32)), (.int (((0 : Int32) + (1 : Int32)) + (1 : Int32))), (.ref a1)])) rfl rfl (hb hby d5_13)
  have f7_ : own_A Z h7 a1 .short [(.int ((-1 : Int32).toInt16.toInt32)), (.int ((-1 : Int32).toInt16.toInt32)), (.int ((-1 : Int32).toInt16.toInt32)), (.int (0 : Int32)), (.int (0 : Int32)), (.int (0 : Int32)), (.int (0 : Int32)), (.int (0 : Int32))] := A7
  have z8 : n0 ≤ h7.size := Nat.le_trans z5 (Keep.of_wr W7).1
  have kp8 : Keep h0 h7 [a1] := kp5.wr W7 (Or.inl (List.mem_of_getElem? (i := 0) rfl))
  have n9 := Fr.snoc X7 n6 ga
  refine own_st (B := T7.setTop (mkF m 14 #[.val (.ref a1), .val (.int (-1 : Int32)), .val (.int (((0 : Int32) + (1 : Int32)) + (1 : Int32))), .val (.int (8 : Int32))] [])) (fun t k => st7 t k) ?_
  refine own_st (B := T7.setTop (mkF m 17 #[.val (.ref a1), .val (.int (-1 : Int32)), .val (.int ((((0 : Int32) + (1 : Int32)) + (1 : Int32)) + (1 : Int32))), .val (.int (8 : Int32))] [])) (fun t k => XS.iinc X7.here hx rfl (hb hby d5_14) rfl (l' := #[.val (.ref a1), .val (.int (-1 : Int32)), .val (.int ((((0 : Int32) + (1 : Int32)) + (1 : Int32)) + (1 : Int32))), .val (.int (8 : Int32))]) rfl k) ?_
  refine own_st (B := T7.setTop (mkF m 5 #[.val (.ref a1), .val (.int (-1 : Int32)), .val (.int ((((0 : Int32) + (1 : Int32)) + (1 : Int32)) + (1 : Int32))), .val (.int (8 : Int32))] [])) (fun t k => XS.goto X7.here hx rfl (pc0 := 17) (pc' := 5) rfl (hb hby d5_17) (by decide) (by decide) k) ?_
  refine own_st (B := T7.setTop (mkF m 6 #[.val (.ref a1), .val (.int (-1 : Int32)), .val (.int ((((0 : Int32) + (1 : Int32)) + (1 : Int32)) + (1 : Int32))), .val (.int (8 : Int32))] [(.int ((((0 : Int32) + (1 : Int32)) + (1 : Int32)) + (1 : Int32)))])) (fun t k => XS.iloadN X7.here hx rfl (hb hby d5_5) rfl k) ?_
  refine own_st (B := T7.setTop (mkF m 7 #[.val (.ref a1), .val (.int (-1 : Int32)), .val (.int ((((0 : Int32) + (1 : Int32)) + (1 : Int32)) + (1 : Int32))), .val (.int (8 : Int32))] [(.int (8 : Int32)), (.int ((((0 : Int32) + (1 : Int32)) + (1 : Int32)) + (1 : Int32)))])) (fun t k => XS.iloadN X7.here hx rfl (hb hby d5_6) rfl k) ?_
  refine own_st (B := T7.setTop (mkF m 10 #[.val (.ref a1), .val (.int (-1 : Int32)), .val (.int ((((0 : Int32) + (1 : Int32)) + (1 : Int32)) + (1 : Int32))), .val (.int (8 : Int32))] [])) (fun t k => XS.icmpNo X7.here hx rfl (hb hby d5_7) rfl (by decide) k) ?_
  refine own_st (B := T7.setTop (mkF m 11 #[.val (.ref a1), .val (.int (-1 : Int32)), .val (.int ((((0 : Int32) + (1 : Int32)) + (1 : Int32)) + (1 : Int32))), .val (.int (8 : Int32))] [(.ref a1)])) (fun t k => XS.aloadN X7.here hx rfl (hb hby d5_10) rfl rfl k) ?_
  refine own_st (B := T7.setTop (mkF m 12 #[.val (.ref a1), .val (.int (-1 : Int32)), .val (.int ((((0 : Int32) + (1 : Int32)) + (1 : Int32)) + (1 : Int32))), .val (.int (8 : Int32))] [(.int ((((0 : Int32) + (1 : Int32)) + (1 : Int32)) + (1 : Int32))), (.ref a1)])) (fun t k => XS.iloadN X7.here hx rfl (hb hby d5_11) rfl k) ?_
  refine own_st (B := T7.setTop (mkF m 13 #[.val (.ref a1), .val (.int (-1 : Int32)), .val (.int ((((0 : Int32) + (1 : Int32)) + (1 : Int32)) + (1 : Int32))), .val (.int (8 : Int32))] [(.int (-1 : Int32)), (.int ((((0 : Int32) + (1 : Int32)) + (1 : Int32)) + (1 : Int32))), (.ref a1)])) (fun t k => XS.iloadN X7.here hx rfl (hb hby d5_12) rfl k) ?_
  obtain ⟨T10, h10, X10, e10, W10, A10, st10⟩ := own_stS X7 hx hZ e7 f7_ (j := ((((0 : Int32) + (1 : Int32)) + (1 : Int32)) + (1 : Int32))) (x := (-1 : Int32)) (i := 3) (by decide) (show 3 < 8 from by decide) (g := (mkF m 13 #[.val (.ref a1), .val (.int (-1 : Int32)), .val (.int ((((0 : Int32) + (1 : Int32)) + (1 : Int32)) + (1 : Int32))), .val (.int (8 : Int32))] [(.int (-1 : Int32)), (.int ((((0 : Int32) + (1 : Int32)) + (1 : Int32)) + (1 : Int32))), (.ref a1)])) rfl rfl (hb hby d5_13)
  have f10_ : own_A Z h10 a1 .short [(.int ((-1 : Int32).toInt16.toInt32)), (.int ((-1 : Int32).toInt16.toInt32)), (.int ((-1 : Int32).toInt16.toInt32)), (.int ((-1 : Int32).toInt16.toInt32)), (.int (0 : Int32)), (.int (0 : Int32)), (.int (0 : Int32)), (.int (0 : Int32))] := A10
  have z11 : n0 ≤ h10.size := Nat.le_trans z8 (Keep.of_wr W10).1
  have kp11 : Keep h0 h10 [a1] := kp8.wr W10 (Or.inl (List.mem_of_getElem? (i := 0) rfl))
  have n12 := Fr.snoc X10 n9 ga
  refine own_st (B := T10.setTop (mkF m 14 #[.val (.ref a1), .val (.int (-1 : Int32)), .val (.int ((((0 : Int32) + (1 : Int32)) + (1 : Int32)) + (1 : Int32))), .val (.int (8 : Int32))] [])) (fun t k => st10 t k) ?_
  refine own_st (B := T10.setTop (mkF m 17 #[.val (.ref a1), .val (.int (-1 : Int32)), .val (.int (((((0 : Int32) + (1 : Int32)) + (1 : Int32)) + (1 : Int32)) + (1 : Int32))), .val (.int (8 : Int32))] [])) (fun t k => XS.iinc X10.here hx rfl (hb hby d5_14) rfl (l' := #[.val (.ref a1), .val (.int (-1 : Int32)), .val (.int (((((0 : Int32) + (1 : Int32)) + (1 : Int32)) + (1 : Int32)) + (1 : Int32))), .val (.int (8 : Int32))]) rfl k) ?_
  refine own_st (B := T10.setTop (mkF m 5 #[.val (.ref a1), .val (.int (-1 : Int32)), .val (.int (((((0 : Int32) + (1 : Int32)) + (1 : Int32)) + (1 : Int32)) + (1 : Int32))), .val (.int (8 : Int32))] [])) (fun t k => XS.goto X10.here hx rfl (pc0 := 17) (pc' := 5) rfl (hb hby d5_17) (by decide) (by decide) k) ?_
  refine own_st (B := T10.setTop (mkF m 6 #[.val (.ref a1), .val (.int (-1 : Int32)), .val (.int (((((0 : Int32) + (1 : Int32)) + (1 : Int32)) + (1 : Int32)) + (1 : Int32))), .val (.int (8 : Int32))] [(.int (((((0 : Int32) + (1 : Int32)) + (1 : Int32)) + (1 : Int32)) + (1 : Int32)))])) (fun t k => XS.iloadN X10.here hx rfl (hb hby d5_5) rfl k) ?_
  refine own_st (B := T10.setTop (mkF m 7 #[.val (.ref a1), .val (.int (-1 : Int32)), .val (.int (((((0 : Int32) + (1 : Int32)) + (1 : Int32)) + (1 : Int32)) + (1 : Int32))), .val (.int (8 : Int32))] [(.int (8 : Int32)), (.int (((((0 : Int32) + (1 : Int32)) + (1 : Int32)) + (1 : Int32)) + (1 : Int32)))])) (fun t k => XS.iloadN X10.here hx rfl (hb hby d5_6) rfl k) ?_
  refine own_st (B := T10.setTop (mkF m 10 #[.val (.ref a1), .val (.int (-1 : Int32)), .val (.int (((((0 : Int32) + (1 : Int32)) + (1 : Int32)) + (1 : Int32)) + (1 : Int32))), .val (.int (8 : Int32))] [])) (fun t k => XS.icmpNo X10.here hx rfl (hb hby d5_7) rfl (by decide) k) ?_
  refine own_st (B := T10.setTop (mkF m 11 #[.val (.ref a1), .val (.int (-1 : Int32)), .val (.int (((((0 : Int32) + (1 : Int32)) + (1 : Int32)) + (1 : Int32)) + (1 : Int32))), .val (.int (8 : Int32))] [(.ref a1)])) (fun t k => XS.aloadN X10.here hx rfl (hb hby d5_10) rfl rfl k) ?_
  refine own_st (B := T10.setTop (mkF m 12 #[.val (.ref a1), .val (.int (-1 : Int32)), .val (.int (((((0 : Int32) + (1 : Int32)) + (1 : Int32)) + (1 : Int32)) + (1 : Int32))), .val (.int (8 : Int32))] [(.int (((((0 : Int32) + (1 : Int32)) + (1 : Int32)) + (1 : Int32)) + (1 : Int32))), (.ref a1)])) (fun t k => XS.iloadN X10.here hx rfl (hb hby d5_11) rfl k) ?_
  refine own_st (B := T10.setTop (mkF m 13 #[.val (.ref a1), .val (.int (-1 : Int32)), .val (.int (((((0 : Int32) + (1 : Int32)) + (1 : Int32)) + (1 : Int32)) + (1 : Int32))), .val (.int (8 : Int32))] [(.int (-1 : Int32)), (.int (((((0 : Int32) + (1 : Int32)) + (1 : Int32)) + (1 : Int32)) + (1 : Int32))), (.ref a1)])) (fun t k => XS.iloadN X10.here hx rfl (hb hby d5_12) rfl k) ?_
  obtain ⟨T13, h13, X13, e13, W13, A13, st13⟩ := own_stS X10 hx hZ e10 f10_ (j := (((((0 : Int32) + (1 : Int32)) + (1 : Int32)) + (1 : Int32)) + (1 : Int32))) (x := (-1 : Int32)) (i := 4) (by decide) (show 4 < 8 from by decide) (g := (mkF m 13 #[.val (.ref a1), .val (.int (-1 : Int32)), .val (.int (((((0 : Int32) + (1 : Int32)) + (1 : Int32)) + (1 : Int32)) + (1 : Int32))), .val (.int (8 : Int32))] [(.int (-1 : Int32)), (.int (((((0 : Int32) + (1 : Int32)) + (1 : Int32)) + (1 : Int32)) + (1 : Int32))), (.ref a1)])) rfl rfl (hb hby d5_13)
  have f13_ : own_A Z h13 a1 .short [(.int ((-1 : Int32).toInt16.toInt32)), (.int ((-1 : Int32).toInt16.toInt32)), (.int ((-1 : Int32).toInt16.toInt32)), (.int ((-1 : Int32).toInt16.toInt32)), (.int ((-1 : Int32).toInt16.toInt32)), (.int (0 : Int32)), (.int (0 : Int32)), (.int (0 : Int32))] := A13
  have z14 : n0 ≤ h13.size := Nat.le_trans z11 (Keep.of_wr W13).1
  have kp14 : Keep h0 h13 [a1] := kp11.wr W13 (Or.inl (List.mem_of_getElem? (i := 0) rfl))
  have n15 := Fr.snoc X13 n12 ga
  refine own_st (B := T13.setTop (mkF m 14 #[.val (.ref a1), .val (.int (-1 : Int32)), .val (.int (((((0 : Int32) + (1 : Int32)) + (1 : Int32)) + (1 : Int32)) + (1 : Int32))), .val (.int (8 : Int32))] [])) (fun t k => st13 t k) ?_
  refine own_st (B := T13.setTop (mkF m 17 #[.val (.ref a1), .val (.int (-1 : Int32)), .val (.int ((((((0 : Int32) + (1 : Int32)) + (1 : Int32)) + (1 : Int32)) + (1 : Int32)) + (1 : Int32))), .val (.int (8 : Int32))] [])) (fun t k => XS.iinc X13.here hx rfl (hb hby d5_14) rfl (l' := #[.val (.ref a1), .val (.int (-1 : Int32)), .val (.int ((((((0 : Int32) + (1 : Int32)) + (1 : Int32)) + (1 : Int32)) + (1 : Int32)) + (1 : Int32))), .val (.int (8 : Int32))]) rfl k) ?_
  refine own_st (B := T13.setTop (mkF m 5 #[.val (.ref a1), .val (.int (-1 : Int32)), .val (.int ((((((0 : Int32) + (1 : Int32)) + (1 : Int32)) + (1 : Int32)) + (1 : Int32)) + (1 : Int32))), .val (.int (8 : Int32))] [])) (fun t k => XS.goto X13.here hx rfl (pc0 := 17) (pc' := 5) rfl (hb hby d5_17) (by decide) (by decide) k) ?_
  refine own_st (B := T13.setTop (mkF m 6 #[.val (.ref a1), .val (.int (-1 : Int32)), .val (.int ((((((0 : Int32) + (1 : Int32)) + (1 : Int32)) + (1 : Int32)) + (1 : Int32)) + (1 : Int32))), .val (.int (8 : Int32))] [(.int ((((((0 : Int32) + (1 : Int32)) + (1 : Int32)) + (1 : Int32)) + (1 : Int32)) + (1 : Int32)))])) (fun t k => XS.iloadN X13.here hx rfl (hb hby d5_5) rfl k) ?_
  refine own_st (B := T13.setTop (mkF m 7 #[.val (.ref a1), .val (.int (-1 : Int32)), .val (.int ((((((0 : Int32) + (1 : Int32)) + (1 : Int32)) + (1 : Int32)) + (1 : Int32)) + (1 : Int32))), .val (.int (8 : Int32))] [(.int (8 : Int32)), (.int ((((((0 : Int32) + (1 : Int32)) + (1 : Int32)) + (1 : Int32)) + (1 : Int32)) + (1 : Int32)))])) (fun t k => XS.iloadN X13.here hx rfl (hb hby d5_6) rfl k) ?_
  refine own_st (B := T13.setTop (mkF m 10 #[.val (.ref a1), .val (.int (-1 : Int32)), .val (.int ((((((0 : Int32) + (1 : Int32)) + (1 : Int32)) + (1 : Int32)) + (1 : Int32)) + (1 : Int32))), .val (.int (8 : Int32))] [])) (fun t k => XS.icmpNo X13.here hx rfl (hb hby d5_7) rfl (by decide) k) ?_
  refine own_st (B := T13.setTop (mkF m 11 #[.val (.ref a1), .val (.int (-1 : Int32)), .val (.int ((((((0 : Int32) + (1 : Int32)) + (1 : Int32)) + (1 : Int32)) + (1 : Int32)) + (1 : Int32))), .val (.int (8 : Int32))] [(.ref a1)])) (fun t k => XS.aloadN X13.here hx rfl (hb hby d5_10) rfl rfl k) ?_
  refine own_st (B := T13.setTop (mkF m 12 #[.val (.ref a1), .val (.int (-1 : Int32)), .val (.int ((((((0 : Int32) + (1 : Int32)) + (1 : Int32)) + (1 : Int32)) + (1 : Int32)) + (1 : Int32))), .val (.int (8 : Int32))] [(.int ((((((0 : Int32) + (1 : Int32)) + (1 : Int32)) + (1 : Int32)) + (1 : Int32)) + (1 : Int32))), (.ref a1)])) (fun t k => XS.iloadN X13.here hx rfl (hb hby d5_11) rfl k) ?_
  refine own_st (B := T13.setTop (mkF m 13 #[.val (.ref a1), .val (.int (-1 : Int32)), .val (.int ((((((0 : Int32) + (1 : Int32)) + (1 : Int32)) + (1 : Int32)) + (1 : Int32)) + (1 : Int32))), .val (.int (8 : Int32))] [(.int (-1 : Int32)), (.int ((((((0 : Int32) + (1 : Int32)) + (1 : Int32)) + (1 : Int32)) + (1 : Int32)) + (1 : Int32))), (.ref a1)])) (fun t k => XS.iloadN X13.here hx rfl (hb hby d5_12) rfl k) ?_
  obtain ⟨T16, h16, X16, e16, W16, A16, st16⟩ := own_stS X13 hx hZ e13 f13_ (j := ((((((0 : Int32) + (1 : Int32)) + (1 : Int32)) + (1 : Int32)) + (1 : Int32)) + (1 : Int32))) (x := (-1 : Int32)) (i := 5) (by decide) (show 5 < 8 from by decide) (g := (mkF m 13 #[.val (.ref a1), .val (.int (-1 : Int32)), .val (.int ((((((0 : Int32) + (1 : Int32)) + (1 : Int32)) + (1 : Int32)) + (1 : Int32)) + (1 : Int32))), .val (.int (8 : Int32))] [(.int (-1 : Int32)), (.int ((((((0 : Int32) + (1 : Int32)) + (1 : Int32)) + (1 : Int32)) + (1 : Int32)) + (1 : Int32))), (.ref a1)])) rfl rfl (hb hby d5_13)
  have f16_ : own_A Z h16 a1 .short [(.int ((-1 : Int32).toInt16.toInt32)), (.int ((-1 : Int32).toInt16.toInt32)), (.int ((-1 : Int32).toInt16.toInt32)), (.int ((-1 : Int32).toInt16.toInt32)), (.int ((-1 : Int32).toInt16.toInt32)), (.int ((-1 : Int32).toInt16.toInt32)), (.int (0 : Int32)), (.int (0 : Int32))] := A16
  have z17 : n0 ≤ h16.size := Nat.le_trans z14 (Keep.of_wr W16).1
  have kp17 : Keep h0 h16 [a1] := kp14.wr W16 (Or.inl (List.mem_of_getElem? (i := 0) rfl))
  have n18 := Fr.snoc X16 n15 ga
  refine own_st (B := T16.setTop (mkF m 14 #[.val (.ref a1), .val (.int (-1 : Int32)), .val (.int ((((((0 : Int32) + (1 : Int32)) + (1 : Int32)) + (1 : Int32)) + (1 : Int32)) + (1 : Int32))), .val (.int (8 : Int32))] [])) (fun t k => st16 t k) ?_
  refine own_st (B := T16.setTop (mkF m 17 #[.val (.ref a1), .val (.int (-1 : Int32)), .val (.int (((((((0 : Int32) + (1 : Int32)) + (1 : Int32)) + (1 : Int32)) + (1 : Int32)) + (1 : Int32)) + (1 : Int32))), .val (.int (8 : Int32))] [])) (fun t k => XS.iinc X16.here hx rfl (hb hby d5_14) rfl (l' := #[.val (.ref a1), .val (.int (-1 : Int32)), .val (.int (((((((0 : Int32) + (1 : Int32)) + (1 : Int32)) + (1 : Int32)) + (1 : Int32)) + (1 : Int32)) + (1 : Int32))), .val (.int (8 : Int32))]) rfl k) ?_
  refine own_st (B := T16.setTop (mkF m 5 #[.val (.ref a1), .val (.int (-1 : Int32)), .val (.int (((((((0 : Int32) + (1 : Int32)) + (1 : Int32)) + (1 : Int32)) + (1 : Int32)) + (1 : Int32)) + (1 : Int32))), .val (.int (8 : Int32))] [])) (fun t k => XS.goto X16.here hx rfl (pc0 := 17) (pc' := 5) rfl (hb hby d5_17) (by decide) (by decide) k) ?_
  refine own_st (B := T16.setTop (mkF m 6 #[.val (.ref a1), .val (.int (-1 : Int32)), .val (.int (((((((0 : Int32) + (1 : Int32)) + (1 : Int32)) + (1 : Int32)) + (1 : Int32)) + (1 : Int32)) + (1 : Int32))), .val (.int (8 : Int32))] [(.int (((((((0 : Int32) + (1 : Int32)) + (1 : Int32)) + (1 : Int32)) + (1 : Int32)) + (1 : Int32)) + (1 : Int32)))])) (fun t k => XS.iloadN X16.here hx rfl (hb hby d5_5) rfl k) ?_
  refine own_st (B := T16.setTop (mkF m 7 #[.val (.ref a1), .val (.int (-1 : Int32)), .val (.int (((((((0 : Int32) + (1 : Int32)) + (1 : Int32)) + (1 : Int32)) + (1 : Int32)) + (1 : Int32)) + (1 : Int32))), .val (.int (8 : Int32))] [(.int (8 : Int32)), (.int (((((((0 : Int32) + (1 : Int32)) + (1 : Int32)) + (1 : Int32)) + (1 : Int32)) + (1 : Int32)) + (1 : Int32)))])) (fun t k => XS.iloadN X16.here hx rfl (hb hby d5_6) rfl k) ?_
  refine own_st (B := T16.setTop (mkF m 10 #[.val (.ref a1), .val (.int (-1 : Int32)), .val (.int (((((((0 : Int32) + (1 : Int32)) + (1 : Int32)) + (1 : Int32)) + (1 : Int32)) + (1 : Int32)) + (1 : Int32))), .val (.int (8 : Int32))] [])) (fun t k => XS.icmpNo X16.here hx rfl (hb hby d5_7) rfl (by decide) k) ?_
  refine own_st (B := T16.setTop (mkF m 11 #[.val (.ref a1), .val (.int (-1 : Int32)), .val (.int (((((((0 : Int32) + (1 : Int32)) + (1 : Int32)) + (1 : Int32)) + (1 : Int32)) + (1 : Int32)) + (1 : Int32))), .val (.int (8 : Int32))] [(.ref a1)])) (fun t k => XS.aloadN X16.here hx rfl (hb hby d5_10) rfl rfl k) ?_
  refine own_st (B := T16.setTop (mkF m 12 #[.val (.ref a1), .val (.int (-1 : Int32)), .val (.int (((((((0 : Int32) + (1 : Int32)) + (1 : Int32)) + (1 : Int32)) + (1 : Int32)) + (1 : Int32)) + (1 : Int32))), .val (.int (8 : Int32))] [(.int (((((((0 : Int32) + (1 : Int32)) + (1 : Int32)) + (1 : Int32)) + (1 : Int32)) + (1 : Int32)) + (1 : Int32))), (.ref a1)])) (fun t k => XS.iloadN X16.here hx rfl (hb hby d5_11) rfl k) ?_
  refine own_st (B := T16.setTop (mkF m 13 #[.val (.ref a1), .val (.int (-1 : Int32)), .val (.int (((((((0 : Int32) + (1 : Int32)) + (1 : Int32)) + (1 : Int32)) + (1 : Int32)) + (1 : Int32)) + (1 : Int32))), .val (.int (8 : Int32))] [(.int (-1 : Int32)), (.int (((((((0 : Int32) + (1 : Int32)) + (1 : Int32)) + (1 : Int32)) + (1 : Int32)) + (1 : Int32)) + (1 : Int32))), (.ref a1)])) (fun t k => XS.iloadN X16.here hx rfl (hb hby d5_12) rfl k) ?_
  obtain ⟨T19, h19, X19, e19, W19, A19, st19⟩ := own_stS X16 hx hZ e16 f16_ (j := (((((((0 : Int32) + (1 : Int32)) + (1 : Int32)) + (1 : Int32)) + (1 : Int32)) + (1 : Int32)) + (1 : Int32))) (x := (-1 : Int32)) (i := 6) (by decide) (show 6 < 8 from by decide) (g := (mkF m 13 #[.val (.ref a1), .val (.int (-1 : Int32)), .val (.int (((((((0 : Int32) + (1 : Int32)) + (1 : Int32)) + (1 : Int32)) + (1 : Int32)) + (1 : Int32)) + (1 : Int32))), .val (.int (8 : Int32))] [(.int (-1 : Int32)), (.int (((((((0 : Int32) + (1 : Int32)) + (1 : Int32)) + (1 : Int32)) + (1 : Int32)) + (1 : Int32)) + (1 : Int32))), (.ref a1)])) rfl rfl (hb hby d5_13)
  have f19_ : own_A Z h19 a1 .short [(.int ((-1 : Int32).toInt16.toInt32)), (.int ((-1 : Int32).toInt16.toInt32)), (.int ((-1 : Int32).toInt16.toInt32)), (.int ((-1 : Int32).toInt16.toInt32)), (.int ((-1 : Int32).toInt16.toInt32)), (.int ((-1 : Int32).toInt16.toInt32)), (.int ((-1 : Int32).toInt16.toInt32)), (.int (0 : Int32))] := A19
  have z20 : n0 ≤ h19.size := Nat.le_trans z17 (Keep.of_wr W19).1
  have kp20 : Keep h0 h19 [a1] := kp17.wr W19 (Or.inl (List.mem_of_getElem? (i := 0) rfl))
  have n21 := Fr.snoc X19 n18 ga
  refine own_st (B := T19.setTop (mkF m 14 #[.val (.ref a1), .val (.int (-1 : Int32)), .val (.int (((((((0 : Int32) + (1 : Int32)) + (1 : Int32)) + (1 : Int32)) + (1 : Int32)) + (1 : Int32)) + (1 : Int32))), .val (.int (8 : Int32))] [])) (fun t k => st19 t k) ?_
  refine own_st (B := T19.setTop (mkF m 17 #[.val (.ref a1), .val (.int (-1 : Int32)), .val (.int ((((((((0 : Int32) + (1 : Int32)) + (1 : Int32)) + (1 : Int32)) + (1 : Int32)) + (1 : Int32)) + (1 : Int32)) + (1 : Int32))), .val (.int (8 : Int32))] [])) (fun t k => XS.iinc X19.here hx rfl (hb hby d5_14) rfl (l' := #[.val (.ref a1), .val (.int (-1 : Int32)), .val (.int ((((((((0 : Int32) + (1 : Int32)) + (1 : Int32)) + (1 : Int32)) + (1 : Int32)) + (1 : Int32)) + (1 : Int32)) + (1 : Int32))), .val (.int (8 : Int32))]) rfl k) ?_
  refine own_st (B := T19.setTop (mkF m 5 #[.val (.ref a1), .val (.int (-1 : Int32)), .val (.int ((((((((0 : Int32) + (1 : Int32)) + (1 : Int32)) + (1 : Int32)) + (1 : Int32)) + (1 : Int32)) + (1 : Int32)) + (1 : Int32))), .val (.int (8 : Int32))] [])) (fun t k => XS.goto X19.here hx rfl (pc0 := 17) (pc' := 5) rfl (hb hby d5_17) (by decide) (by decide) k) ?_
  refine own_st (B := T19.setTop (mkF m 6 #[.val (.ref a1), .val (.int (-1 : Int32)), .val (.int ((((((((0 : Int32) + (1 : Int32)) + (1 : Int32)) + (1 : Int32)) + (1 : Int32)) + (1 : Int32)) + (1 : Int32)) + (1 : Int32))), .val (.int (8 : Int32))] [(.int ((((((((0 : Int32) + (1 : Int32)) + (1 : Int32)) + (1 : Int32)) + (1 : Int32)) + (1 : Int32)) + (1 : Int32)) + (1 : Int32)))])) (fun t k => XS.iloadN X19.here hx rfl (hb hby d5_5) rfl k) ?_
  refine own_st (B := T19.setTop (mkF m 7 #[.val (.ref a1), .val (.int (-1 : Int32)), .val (.int ((((((((0 : Int32) + (1 : Int32)) + (1 : Int32)) + (1 : Int32)) + (1 : Int32)) + (1 : Int32)) + (1 : Int32)) + (1 : Int32))), .val (.int (8 : Int32))] [(.int (8 : Int32)), (.int ((((((((0 : Int32) + (1 : Int32)) + (1 : Int32)) + (1 : Int32)) + (1 : Int32)) + (1 : Int32)) + (1 : Int32)) + (1 : Int32)))])) (fun t k => XS.iloadN X19.here hx rfl (hb hby d5_6) rfl k) ?_
  refine own_st (B := T19.setTop (mkF m 10 #[.val (.ref a1), .val (.int (-1 : Int32)), .val (.int ((((((((0 : Int32) + (1 : Int32)) + (1 : Int32)) + (1 : Int32)) + (1 : Int32)) + (1 : Int32)) + (1 : Int32)) + (1 : Int32))), .val (.int (8 : Int32))] [])) (fun t k => XS.icmpNo X19.here hx rfl (hb hby d5_7) rfl (by decide) k) ?_
  refine own_st (B := T19.setTop (mkF m 11 #[.val (.ref a1), .val (.int (-1 : Int32)), .val (.int ((((((((0 : Int32) + (1 : Int32)) + (1 : Int32)) + (1 : Int32)) + (1 : Int32)) + (1 : Int32)) + (1 : Int32)) + (1 : Int32))), .val (.int (8 : Int32))] [(.ref a1)])) (fun t k => XS.aloadN X19.here hx rfl (hb hby d5_10) rfl rfl k) ?_
  refine own_st (B := T19.setTop (mkF m 12 #[.val (.ref a1), .val (.int (-1 : Int32)), .val (.int ((((((((0 : Int32) + (1 : Int32)) + (1 : Int32)) + (1 : Int32)) + (1 : Int32)) + (1 : Int32)) + (1 : Int32)) + (1 : Int32))), .val (.int (8 : Int32))] [(.int ((((((((0 : Int32) + (1 : Int32)) + (1 : Int32)) + (1 : Int32)) + (1 : Int32)) + (1 : Int32)) + (1 : Int32)) + (1 : Int32))), (.ref a1)])) (fun t k => XS.iloadN X19.here hx rfl (hb hby d5_11) rfl k) ?_
  refine own_st (B := T19.setTop (mkF m 13 #[.val (.ref a1), .val (.int (-1 : Int32)), .val (.int ((((((((0 : Int32) + (1 : Int32)) + (1 : Int32)) + (1 : Int32)) + (1 : Int32)) + (1 : Int32)) + (1 : Int32)) + (1 : Int32))), .val (.int (8 : Int32))] [(.int (-1 : Int32)), (.int ((((((((0 : Int32) + (1 : Int32)) + (1 : Int32)) + (1 : Int32)) + (1 : Int32)) + (1 : Int32)) + (1 : Int32)) + (1 : Int32))), (.ref a1)])) (fun t k => XS.iloadN X19.here hx rfl (hb hby d5_12) rfl k) ?_
  obtain ⟨T22, h22, X22, e22, W22, A22, st22⟩ := own_stS X19 hx hZ e19 f19_ (j := ((((((((0 : Int32) + (1 : Int32)) + (1 : Int32)) + (1 : Int32)) + (1 : Int32)) + (1 : Int32)) + (1 : Int32)) + (1 : Int32))) (x := (-1 : Int32)) (i := 7) (by decide) (show 7 < 8 from by decide) (g := (mkF m 13 #[.val (.ref a1), .val (.int (-1 : Int32)), .val (.int ((((((((0 : Int32) + (1 : Int32)) + (1 : Int32)) + (1 : Int32)) + (1 : Int32)) + (1 : Int32)) + (1 : Int32)) + (1 : Int32))), .val (.int (8 : Int32))] [(.int (-1 : Int32)), (.int ((((((((0 : Int32) + (1 : Int32)) + (1 : Int32)) + (1 : Int32)) + (1 : Int32)) + (1 : Int32)) + (1 : Int32)) + (1 : Int32))), (.ref a1)])) rfl rfl (hb hby d5_13)
  have f22_ : own_A Z h22 a1 .short [(.int ((-1 : Int32).toInt16.toInt32)), (.int ((-1 : Int32).toInt16.toInt32)), (.int ((-1 : Int32).toInt16.toInt32)), (.int ((-1 : Int32).toInt16.toInt32)), (.int ((-1 : Int32).toInt16.toInt32)), (.int ((-1 : Int32).toInt16.toInt32)), (.int ((-1 : Int32).toInt16.toInt32)), (.int ((-1 : Int32).toInt16.toInt32))] := A22
  have z23 : n0 ≤ h22.size := Nat.le_trans z20 (Keep.of_wr W22).1
  have kp23 : Keep h0 h22 [a1] := kp20.wr W22 (Or.inl (List.mem_of_getElem? (i := 0) rfl))
  have n24 := Fr.snoc X22 n21 ga
  refine own_st (B := T22.setTop (mkF m 14 #[.val (.ref a1), .val (.int (-1 : Int32)), .val (.int ((((((((0 : Int32) + (1 : Int32)) + (1 : Int32)) + (1 : Int32)) + (1 : Int32)) + (1 : Int32)) + (1 : Int32)) + (1 : Int32))), .val (.int (8 : Int32))] [])) (fun t k => st22 t k) ?_
  refine own_st (B := T22.setTop (mkF m 17 #[.val (.ref a1), .val (.int (-1 : Int32)), .val (.int (((((((((0 : Int32) + (1 : Int32)) + (1 : Int32)) + (1 : Int32)) + (1 : Int32)) + (1 : Int32)) + (1 : Int32)) + (1 : Int32)) + (1 : Int32))), .val (.int (8 : Int32))] [])) (fun t k => XS.iinc X22.here hx rfl (hb hby d5_14) rfl (l' := #[.val (.ref a1), .val (.int (-1 : Int32)), .val (.int (((((((((0 : Int32) + (1 : Int32)) + (1 : Int32)) + (1 : Int32)) + (1 : Int32)) + (1 : Int32)) + (1 : Int32)) + (1 : Int32)) + (1 : Int32))), .val (.int (8 : Int32))]) rfl k) ?_
  refine own_st (B := T22.setTop (mkF m 5 #[.val (.ref a1), .val (.int (-1 : Int32)), .val (.int (((((((((0 : Int32) + (1 : Int32)) + (1 : Int32)) + (1 : Int32)) + (1 : Int32)) + (1 : Int32)) + (1 : Int32)) + (1 : Int32)) + (1 : Int32))), .val (.int (8 : Int32))] [])) (fun t k => XS.goto X22.here hx rfl (pc0 := 17) (pc' := 5) rfl (hb hby d5_17) (by decide) (by decide) k) ?_
  refine own_st (B := T22.setTop (mkF m 6 #[.val (.ref a1), .val (.int (-1 : Int32)), .val (.int (((((((((0 : Int32) + (1 : Int32)) + (1 : Int32)) + (1 : Int32)) + (1 : Int32)) + (1 : Int32)) + (1 : Int32)) + (1 : Int32)) + (1 : Int32))), .val (.int (8 : Int32))] [(.int (((((((((0 : Int32) + (1 : Int32)) + (1 : Int32)) + (1 : Int32)) + (1 : Int32)) + (1 : Int32)) + (1 : Int32)) + (1 : Int32)) + (1 : Int32)))])) (fun t k => XS.iloadN X22.here hx rfl (hb hby d5_5) rfl k) ?_
  refine own_st (B := T22.setTop (mkF m 7 #[.val (.ref a1), .val (.int (-1 : Int32)), .val (.int (((((((((0 : Int32) + (1 : Int32)) + (1 : Int32)) + (1 : Int32)) + (1 : Int32)) + (1 : Int32)) + (1 : Int32)) + (1 : Int32)) + (1 : Int32))), .val (.int (8 : Int32))] [(.int (8 : Int32)), (.int (((((((((0 : Int32) + (1 : Int32)) + (1 : Int32)) + (1 : Int32)) + (1 : Int32)) + (1 : Int32)) + (1 : Int32)) + (1 : Int32)) + (1 : Int32)))])) (fun t k => XS.iloadN X22.here hx rfl (hb hby d5_6) rfl k) ?_
  refine own_st (B := T22.setTop (mkF m 20 #[.val (.ref a1), .val (.int (-1 : Int32)), .val (.int (((((((((0 : Int32) + (1 : Int32)) + (1 : Int32)) + (1 : Int32)) + (1 : Int32)) + (1 : Int32)) + (1 : Int32)) + (1 : Int32)) + (1 : Int32))), .val (.int (8 : Int32))] [])) (fun t k => XS.icmpYes X22.here hx rfl (pc0 := 7) (pc' := 20) rfl (hb hby d5_7) rfl (by decide) (by decide) (by decide) k) ?_
  refine own_retV X22 hx hlk Bd.returns (hb hby d5_20) (by decide) (by decide) ?_
  show Q5n8 Z a1 h0 n0 _ T22.heap _
  rw [e22]
  exact ⟨rfl, n24, kp23, f22_⟩
theorem ef_4n8 (m : MethodId) (x0 : Addr) : entryFrame m #[(.ref x0)] 1 = mkF m 0 #[.val (.ref x0)] [] := by first | (simp [entryFrame, mkF, argsToLocals, Value.category]; done) | rfl
def Q4n8 (Z : State) (a1 : Addr) (ac : Addr) (asl : Addr) (ai : Addr) (B : Int32) (h0 : Heap) (n0 : Nat) (v : Option Value) (h : Heap) (L : List Loc) : Prop := v = none ∧ Fr n0 L ∧ Keep h0 h [a1, ai] ∧ Fld Z h a1 "com/example/relayframe/relayframe/Palette" "colours" "[I" (.ref ac) ∧ Fld Z h a1 "com/example/relayframe/relayframe/Palette" "slotBits" "I" (.int B) ∧ Fld Z h a1 "com/example/relayframe/relayframe/Palette" "slotColours" "[I" (.ref asl) ∧ Fld Z h a1 "com/example/relayframe/relayframe/Palette" "slotIndices" "[S" (.ref ai) ∧ Fld Z h a1 "com/example/relayframe/relayframe/Palette" "size" "I" (.int (0 : Int32)) ∧ own_A Z h ai .short [(.int ((-1 : Int32).toInt16.toInt32)), (.int ((-1 : Int32).toInt16.toInt32)), (.int ((-1 : Int32).toInt16.toInt32)), (.int ((-1 : Int32).toInt16.toInt32)), (.int ((-1 : Int32).toInt16.toInt32)), (.int ((-1 : Int32).toInt16.toInt32)), (.int ((-1 : Int32).toInt16.toInt32)), (.int ((-1 : Int32).toInt16.toInt32))]
set_option maxHeartbeats 40000000 in
theorem rm4n8 (l : Launch) (Z : State) (a0 : Array Value) (hw : ∀ d ∈ tables_1, d.before a0 Z = true) (ws : List Jvm.Cond) (a1 : Addr) (ac : Addr) (asl : Addr) (ai : Addr) (B : Int32) (h0 : Heap) (n0 : Nat) (Z0 : n0 ≤ h0.size) (F0 : Exa Z h0 a1 "com/example/relayframe/relayframe/Palette") (F1 : Fld Z h0 a1 "com/example/relayframe/relayframe/Palette" "colours" "[I" (.ref ac)) (F2 : Fld Z h0 a1 "com/example/relayframe/relayframe/Palette" "slotBits" "I" (.int B)) (F3 : Fld Z h0 a1 "com/example/relayframe/relayframe/Palette" "slotColours" "[I" (.ref asl)) (F4 : Fld Z h0 a1 "com/example/relayframe/relayframe/Palette" "slotIndices" "[S" (.ref ai)) (F5 : Fld Z h0 a1 "com/example/relayframe/relayframe/Palette" "size" "I" (.int (0 : Int32))) (F6 : own_A Z h0 ai .short [(.int (0 : Int32)), (.int (0 : Int32)), (.int (0 : Int32)), (.int (0 : Int32)), (.int (0 : Int32)), (.int (0 : Int32)), (.int (0 : Int32)), (.int (0 : Int32))]) (F7 : Exa Z h0 ai "[S") (ga : n0 ≤ a1) (gi : n0 ≤ ai) :
    MetFree l (⟨"com/example/relayframe/relayframe/Palette", "clear", "()V"⟩ : MethodName) (head1 (Jvm.Cond.code (⟨"com/example/relayframe/relayframe/Palette", "clear", "()V"⟩ : MethodName) prog_3_method_2_code 1 none :: ws) ({ frames := 1, cells := 0, slots := 0, locals := 15 } : Room)) (fun a U => a = #[(.ref a1)] ∧ Z.Warmed39 U.vm ∧ U.heap = h0) (fun _ _ _ _ _ => True) (fun _ U o U' => ∃ v L, o = .returned v ∧ Q4n8 Z a1 ac asl ai B h0 n0 v U'.heap L ∧ FrameEnd U o U' L ({ frames := 1, cells := 0, slots := 0, locals := 15 } : Room).cells ({ frames := 1, cells := 0, slots := 0, locals := 15 } : Room).slots) := by
  refine MetFree.of_bodySF (plainFor_of_name own_pn3) hisR ?_
  intro p e s m args below meth c s₁ Bd hml0 hP hK
  obtain ⟨rfl, hZ, hh⟩ := hP
  have hx := Bd.exec
  have hby := Bd.bytes
  have hml : c.maxLocals = 1 := hml0
  have hlk : meth.locks = false := BodyLoose.notSynchronized Bd
  have hown : s.vm.findClass "com/example/relayframe/relayframe/Palette" = some m.cls := findClass_of_methodNamed Bd.named
  have hnm := (name_of_methodNamed Bd.named Bd.method).1
  have X0 : Stand p l e ({ frames := 1, cells := 0, slots := 0, locals := 15 } : Room) s m #[(.ref a1)] below meth c s₁ [] 0 0 := Stand.of_body Bd
  have e0 : s₁.heap = h0 := by rw [← hh, Bd.state]; rfl
  have N0 := Fr.nil n0
  show own_Go p e below s (Q4n8 Z a1 ac asl ai B h0 n0) ({ frames := 1, cells := 0, slots := 0, locals := 15 } : Room).cells ({ frames := 1, cells := 0, slots := 0, locals := 15 } : Room).slots _
  refine own_st (B := s₁.setTop (mkF m 0 #[.val (.ref a1)] [])) (fun t k => castTop (ef_4n8 m (a1)) k) ?_
  refine own_st (B := s₁.setTop (mkF m 1 #[.val (.ref a1)] [(.ref a1)])) (fun t k => XS.aloadN X0.here hx rfl (hb hby d4_0) rfl rfl k) ?_
  obtain ⟨T1, X1, e1, st1⟩ := getF X0 hx hZ hown (host := "") (Or.inl (w_22 hw)) Via.refl e0 F4 (g := (mkF m 1 #[.val (.ref a1)] [(.ref a1)])) rfl rfl (hb hby d4_1)
  refine own_st (B := T1.setTop (mkF m 4 #[.val (.ref a1)] [(.ref ai)])) (fun t k => st1 t k) ?_
  refine own_st (B := T1.setTop (mkF m 5 #[.val (.ref a1)] [(.int (-1 : Int32)), (.ref ai)])) (fun t k => XS.iconst X1.here hx rfl (hb hby d4_4) k) ?_
  obtain ⟨_, _, ⟨T2, L2, k2, j2⟩, -, X2, ⟨Lc2, hQ2, l2, y2_, z2_⟩, st2⟩ := Jvm.LawKit.callS X1 hx (y := (⟨"java/util/Arrays", "fill", "([SS)V"⟩ : MethodName)) hown (mvT hZ (w_29 hw)) (mvT hZ (w_30 hw)) (mvT hZ (w_31 hw)) (mvT hZ (w_32 hw)) (by decide) (backOf (W := 0) (rm5n8 l Z a0 hw [] ai h0 n0 Z0 F6 gi) hZ (w_32 hw) (w_31 hw) (by decide) (by decide)) (g := (mkF m 5 #[.val (.ref a1)] [(.int (-1 : Int32)), (.ref ai)])) rfl (by rw [hml]; rfl) (argsL := [(.ref ai), (.int (-1 : Int32))]) (rest := []) (lenOf own_pd2 rfl) rfl (by show 2 * 0 + _ ≤ _; exact Nat.le_of_eq rfl) (hb hby d4_5) (fun _ _ => ⟨rfl, e1, (by decide : 0 + 0 ≤ _), (by decide : 0 + 0 ≤ _)⟩)
  dsimp only [Pt.U, Pt.locs, Pt.cells, Pt.slots] at X2 l2 y2_ z2_ st2 hQ2
  subst l2 y2_ z2_
  obtain ⟨rfl, N2q, K2, p2_0⟩ := hQ2
  have N2 := Fr.app N0 N2q
  have z3 : n0 ≤ T2.heap.size := Nat.le_trans Z0 K2.1
  have kp3 : Keep h0 T2.heap [a1, ai] := (Keep.refl h0 [a1, ai]).trans K2 (allS (Or.inl (List.mem_of_getElem? (i := 1) rfl)) all0)
  refine own_st (B := T2.setTop (mkF m 8 #[.val (.ref a1)] [])) (fun t k => st2 t k) ?_
  refine own_st (B := T2.setTop (mkF m 9 #[.val (.ref a1)] [(.ref a1)])) (fun t k => XS.aloadN X2.here hx rfl (hb hby d4_8) rfl rfl k) ?_
  refine own_st (B := T2.setTop (mkF m 10 #[.val (.ref a1)] [(.int (0 : Int32)), (.ref a1)])) (fun t k => XS.iconst X2.here hx rfl (hb hby d4_9) k) ?_
  have f4 : Exa Z T2.heap a1 "com/example/relayframe/relayframe/Palette" := (F0.keep K2)
  have f5 : Exa Z T2.heap ai "[S" := (F7.keep K2)
  have f6 : Fld Z T2.heap a1 "com/example/relayframe/relayframe/Palette" "size" "I" (.int (0 : Int32)) := (F5.keep K2 (ninS (ne_exa f4 f5 (by decide)) nin0))
  obtain ⟨T7, h7, X7, e7, W7, st7⟩ := putF X2 hx hZ hown (host := "") (Or.inl (w_33 hw)) Via.refl rfl f6 f4 (Or.inl (w_34 hw)) (w_2 hw) (ty := .int) (by decide) rfl rfl (g := (mkF m 10 #[.val (.ref a1)] [(.int (0 : Int32)), (.ref a1)])) rfl rfl (hb hby d4_10)
  have f7_ : Fld Z h7 a1 "com/example/relayframe/relayframe/Palette" "size" "I" (.int (0 : Int32)) := f6.same W7
  have z8 : n0 ≤ h7.size := Nat.le_trans z3 (Keep.of_wr W7).1
  have kp8 : Keep h0 h7 [a1, ai] := kp3.wr W7 (Or.inl (List.mem_of_getElem? (i := 0) rfl))
  have n9 := Fr.snoc X7 N2 ga
  refine own_st (B := T7.setTop (mkF m 13 #[.val (.ref a1)] [])) (fun t k => st7 t k) ?_
  refine own_retV X7 hx hlk Bd.returns (hb hby d4_13) (by decide) (by decide) ?_
  show Q4n8 Z a1 ac asl ai B h0 n0 _ T7.heap _
  rw [e7]
  have f10 : Exa Z h7 a1 "com/example/relayframe/relayframe/Palette" := (f4.wr W7)
  have f11 : Exa Z h7 ai "[S" := (f5.wr W7)
  have f12 : Fld Z h7 a1 "com/example/relayframe/relayframe/Palette" "colours" "[I" (.ref ac) := ((F1.keep K2 (ninS (ne_exa f10 f11 (by decide)) nin0)).other W7 (Or.inr (slot_ne (Or.inr (w_11 hw)) (Or.inl (w_34 hw)) (by decide) (t := (.array .int)) (t' := .int) (by decide) (by decide))))
  have f13 : Fld Z h7 a1 "com/example/relayframe/relayframe/Palette" "slotBits" "I" (.int B) := ((F2.keep K2 (ninS (ne_exa f10 f11 (by decide)) nin0)).other W7 (Or.inr (slot_ne (Or.inr (w_18 hw)) (Or.inl (w_34 hw)) (by decide) (t := .int) (t' := .int) (by decide) (by decide))))
  have f14 : Fld Z h7 a1 "com/example/relayframe/relayframe/Palette" "slotColours" "[I" (.ref asl) := ((F3.keep K2 (ninS (ne_exa f10 f11 (by decide)) nin0)).other W7 (Or.inr (slot_ne (Or.inr (w_20 hw)) (Or.inl (w_34 hw)) (by decide) (t := (.array .int)) (t' := .int) (by decide) (by decide))))
  have f15 : Fld Z h7 a1 "com/example/relayframe/relayframe/Palette" "slotIndices" "[S" (.ref ai) := ((F4.keep K2 (ninS (ne_exa f10 f11 (by decide)) nin0)).other W7 (Or.inr (slot_ne (Or.inr (w_23 hw)) (Or.inl (w_34 hw)) (by decide) (t := (.array .short)) (t' := .int) (by decide) (by decide))))
  have f16 : own_A Z h7 ai .short [(.int ((-1 : Int32).toInt16.toInt32)), (.int ((-1 : Int32).toInt16.toInt32)), (.int ((-1 : Int32).toInt16.toInt32)), (.int ((-1 : Int32).toInt16.toInt32)), (.int ((-1 : Int32).toInt16.toInt32)), (.int ((-1 : Int32).toInt16.toInt32)), (.int ((-1 : Int32).toInt16.toInt32)), (.int ((-1 : Int32).toInt16.toInt32))] := (p2_0.other W7 (ne_exa f11 f10 (by decide)))
  exact ⟨rfl, n9, kp8, f12, f13, f14, f15, f7_, f16⟩
theorem own_pd4 : parseMethodDescriptor "(I)I" = some ⟨[.int], some .int⟩ := by decide +kernel
theorem own_pd5 : parseMethodDescriptor "()V" = some ⟨[], none⟩ := by decide +kernel
theorem d1_0 : decode prog_3_method_1_code 0 = .ok (.aload_n 0, 1) := by decide +kernel
theorem d1_1 : decode prog_3_method_1_code 1 = .ok (.invokespecial 1, 3) := by decide +kernel
theorem d1_4 : decode prog_3_method_1_code 4 = .ok (.aload_n 0, 1) := by decide +kernel
theorem d1_5 : decode prog_3_method_1_code 5 = .ok (.iload_n 1, 1) := by decide +kernel
theorem d1_6 : decode prog_3_method_1_code 6 = .ok (.newarray .int, 2) := by decide +kernel
theorem d1_8 : decode prog_3_method_1_code 8 = .ok (.putfield 7, 3) := by decide +kernel
theorem d1_11 : decode prog_3_method_1_code 11 = .ok (.aload_n 0, 1) := by decide +kernel
theorem d1_12 : decode prog_3_method_1_code 12 = .ok (.bipush 32, 2) := by decide +kernel
theorem d1_14 : decode prog_3_method_1_code 14 = .ok (.iconst 2, 1) := by decide +kernel
theorem d1_15 : decode prog_3_method_1_code 15 = .ok (.iload_n 1, 1) := by decide +kernel
theorem d1_16 : decode prog_3_method_1_code 16 = .ok (.imul, 1) := by decide +kernel
theorem d1_17 : decode prog_3_method_1_code 17 = .ok (.iconst 1, 1) := by decide +kernel
theorem d1_18 : decode prog_3_method_1_code 18 = .ok (.isub, 1) := by decide +kernel
theorem d1_19 : decode prog_3_method_1_code 19 = .ok (.invokestatic 15, 3) := by decide +kernel
theorem d1_22 : decode prog_3_method_1_code 22 = .ok (.isub, 1) := by decide +kernel
theorem d1_23 : decode prog_3_method_1_code 23 = .ok (.putfield 19, 3) := by decide +kernel
theorem d1_26 : decode prog_3_method_1_code 26 = .ok (.aload_n 0, 1) := by decide +kernel
theorem d1_27 : decode prog_3_method_1_code 27 = .ok (.iconst 1, 1) := by decide +kernel
theorem d1_28 : decode prog_3_method_1_code 28 = .ok (.aload_n 0, 1) := by decide +kernel
theorem d1_29 : decode prog_3_method_1_code 29 = .ok (.getfield 19, 3) := by decide +kernel
theorem d1_32 : decode prog_3_method_1_code 32 = .ok (.ishl, 1) := by decide +kernel
theorem d1_33 : decode prog_3_method_1_code 33 = .ok (.newarray .int, 2) := by decide +kernel
theorem d1_35 : decode prog_3_method_1_code 35 = .ok (.putfield 23, 3) := by decide +kernel
theorem d1_38 : decode prog_3_method_1_code 38 = .ok (.aload_n 0, 1) := by decide +kernel
theorem d1_39 : decode prog_3_method_1_code 39 = .ok (.iconst 1, 1) := by decide +kernel
theorem d1_40 : decode prog_3_method_1_code 40 = .ok (.aload_n 0, 1) := by decide +kernel
theorem d1_41 : decode prog_3_method_1_code 41 = .ok (.getfield 19, 3) := by decide +kernel
theorem d1_44 : decode prog_3_method_1_code 44 = .ok (.ishl, 1) := by decide +kernel
theorem d1_45 : decode prog_3_method_1_code 45 = .ok (.newarray .short, 2) := by decide +kernel
theorem d1_47 : decode prog_3_method_1_code 47 = .ok (.putfield 26, 3) := by decide +kernel
theorem d1_50 : decode prog_3_method_1_code 50 = .ok (.aload_n 0, 1) := by decide +kernel
theorem d1_51 : decode prog_3_method_1_code 51 = .ok (.invokevirtual 30, 3) := by decide +kernel
theorem d1_54 : decode prog_3_method_1_code 54 = .ok (.return_, 1) := by decide +kernel
theorem ef_1c1 (m : MethodId) (x0 : Addr) (x1 : Int32) : entryFrame m #[(.ref x0), (.int x1)] 2 = mkF m 0 #[.val (.ref x0), .val (.int x1)] [] := by first | (simp [entryFrame, mkF, argsToLocals, Value.category]; done) | rfl
def Q1c1 (Z : State) (a1 : Addr) (h0 : Heap) (n0 : Nat) (v : Option Value) (h : Heap) (L : List Loc) : Prop := ∃ (ac : Addr) (asl : Addr) (ai : Addr), v = none ∧ Fr n0 L ∧ Keep h0 h [a1] ∧ n0 ≤ ac ∧ h0.size ≤ ac ∧ n0 ≤ asl ∧ h0.size ≤ asl ∧ n0 ≤ ai ∧ h0.size ≤ ai ∧ Exa Z h a1 "com/example/relayframe/relayframe/Palette" ∧ Fld Z h a1 "com/example/relayframe/relayframe/Palette" "colours" "[I" (.ref ac) ∧ Fld Z h a1 "com/example/relayframe/relayframe/Palette" "slotBits" "I" (.int ((32 : Int32) - (31 : Int32))) ∧ Fld Z h a1 "com/example/relayframe/relayframe/Palette" "slotColours" "[I" (.ref asl) ∧ Fld Z h a1 "com/example/relayframe/relayframe/Palette" "slotIndices" "[S" (.ref ai) ∧ Fld Z h a1 "com/example/relayframe/relayframe/Palette" "size" "I" (.int (0 : Int32)) ∧ own_A Z h ac .int [(.int (0 : Int32))] ∧ own_A Z h asl .int [(.int (0 : Int32)), (.int (0 : Int32))] ∧ own_A Z h ai .short [(.int ((-1 : Int32).toInt16.toInt32)), (.int ((-1 : Int32).toInt16.toInt32))] ∧ Exa Z h ac "[I" ∧ Exa Z h asl "[I" ∧ Exa Z h ai "[S" ∧ (ac ≠ asl)
set_option maxHeartbeats 40000000 in
theorem rm1c1 (l : Launch) (Z : State) (a0 : Array Value) (hw : ∀ d ∈ tables_1, d.before a0 Z = true) (ws : List Jvm.Cond) (a1 : Addr) (h0 : Heap) (n0 : Nat) (Z0 : n0 ≤ h0.size) (F0 : Exa Z h0 a1 "com/example/relayframe/relayframe/Palette") (F1 : Fld Z h0 a1 "com/example/relayframe/relayframe/Palette" "colours" "[I" .null) (F2 : Fld Z h0 a1 "com/example/relayframe/relayframe/Palette" "slotBits" "I" (.int (0 : Int32))) (F3 : Fld Z h0 a1 "com/example/relayframe/relayframe/Palette" "slotColours" "[I" .null) (F4 : Fld Z h0 a1 "com/example/relayframe/relayframe/Palette" "slotIndices" "[S" .null) (F5 : Fld Z h0 a1 "com/example/relayframe/relayframe/Palette" "size" "I" (.int (0 : Int32))) (ga : n0 ≤ a1) :
    MetFree l (⟨"com/example/relayframe/relayframe/Palette", "<init>", "(I)V"⟩ : MethodName) (head1 (Jvm.Cond.code (⟨"com/example/relayframe/relayframe/Palette", "<init>", "(I)V"⟩ : MethodName) prog_3_method_1_code 2 none :: ws) ({ frames := 2, cells := 3, slots := 5, locals := 27 } : Room)) (fun a U => a = #[(.ref a1), (.int (1 : Int32))] ∧ Z.Warmed39 U.vm ∧ U.heap = h0) (fun _ _ _ _ _ => True) (fun _ U o U' => ∃ v L, o = .returned v ∧ Q1c1 Z a1 h0 n0 v U'.heap L ∧ FrameEnd U o U' L ({ frames := 2, cells := 3, slots := 5, locals := 27 } : Room).cells ({ frames := 2, cells := 3, slots := 5, locals := 27 } : Room).slots) := by
  refine MetFree.of_bodySF (plainFor_of_name own_pn3) hisR ?_
  intro p e s m args below meth c s₁ Bd hml0 hP hK
  obtain ⟨rfl, hZ, hh⟩ := hP
  have hx := Bd.exec
  have hby := Bd.bytes
  have hml : c.maxLocals = 2 := hml0
  have hlk : meth.locks = false := BodyLoose.notSynchronized Bd
  have hown : s.vm.findClass "com/example/relayframe/relayframe/Palette" = some m.cls := findClass_of_methodNamed Bd.named
  have hnm := (name_of_methodNamed Bd.named Bd.method).1
  have X0 : Stand p l e ({ frames := 2, cells := 3, slots := 5, locals := 27 } : Room) s m #[(.ref a1), (.int (1 : Int32))] below meth c s₁ [] 0 0 := Stand.of_body Bd
  have e0 : s₁.heap = h0 := by rw [← hh, Bd.state]; rfl
  have N0 := Fr.nil n0
  show own_Go p e below s (Q1c1 Z a1 h0 n0) ({ frames := 2, cells := 3, slots := 5, locals := 27 } : Room).cells ({ frames := 2, cells := 3, slots := 5, locals := 27 } : Room).slots _
  refine own_st (B := s₁.setTop (mkF m 0 #[.val (.ref a1), .val (.int (1 : Int32))] [])) (fun t k => castTop (ef_1c1 m (a1) ((1 : Int32))) k) ?_
  refine own_st (B := s₁.setTop (mkF m 1 #[.val (.ref a1), .val (.int (1 : Int32))] [(.ref a1)])) (fun t k => XS.aloadN X0.here hx rfl (hb hby d1_0) rfl rfl k) ?_
  obtain ⟨T1, X1, e1, st1⟩ := initO X0 hx hZ hown (w_7 hw) (w_8 hw) (w_9 hw) e0 (g := (mkF m 1 #[.val (.ref a1), .val (.int (1 : Int32))] [(.ref a1)])) rfl (by rw [hml]; rfl) rfl (hb hby d1_1) (by decide) (W := 0) (by show 2 * 0 + _ ≤ _; exact Nat.le_of_eq rfl) (by decide)
  refine own_st (B := T1.setTop (mkF m 4 #[.val (.ref a1), .val (.int (1 : Int32))] [])) (fun t k => st1 t k) ?_
  refine own_st (B := T1.setTop (mkF m 5 #[.val (.ref a1), .val (.int (1 : Int32))] [(.ref a1)])) (fun t k => XS.aloadN X1.here hx rfl (hb hby d1_4) rfl rfl k) ?_
  refine own_st (B := T1.setTop (mkF m 6 #[.val (.ref a1), .val (.int (1 : Int32))] [(.int (1 : Int32)), (.ref a1)])) (fun t k => XS.iloadN X1.here hx rfl (hb hby d1_5) rfl k) ?_
  obtain ⟨T2, h2, X2, e2, E2, A2, x2, st2⟩ := own_newP X1 hx hZ (aty := .int) (w_0 hw) e1 (g := (mkF m 6 #[.val (.ref a1), .val (.int (1 : Int32))] [(.int (1 : Int32)), (.ref a1)])) rfl (hb hby d1_6) (n := (1 : Int32)) (rest := [(.ref a1)]) rfl (k := 1) (cap := 1) (by decide) (Nat.le_refl _) (by decide) (by decide) (by decide) (ad := "[I") rfl
  obtain ⟨b2, g2⟩ : ∃ z, z = h0.size := ⟨_, rfl⟩
  rw [← g2] at A2 x2 st2
  have q2_a1 : a1 ≠ b2 := Nat.ne_of_lt (Nat.lt_of_lt_of_le F0.lt (Nat.le_of_eq g2.symm))
  have u2 : n0 ≤ b2 := Nat.le_trans Z0 (Nat.le_of_eq g2.symm)
  have y2 : h0.size ≤ b2 := Nat.le_trans (Keep.refl h0 [a1]).1 (Nat.le_of_eq g2.symm)
  have z3 : n0 ≤ h2.size := Nat.le_trans Z0 E2.1
  have kp3 : Keep h0 h2 [a1] := (Keep.refl h0 [a1]).ext E2
  have f2_ : own_A Z h2 b2 .int [(.int (0 : Int32))] := A2
  refine own_st (B := T2.setTop (mkF m 8 #[.val (.ref a1), .val (.int (1 : Int32))] [(.ref b2), (.ref a1)])) (fun t k => st2 t k) ?_
  have f4 : Exa Z h2 a1 "com/example/relayframe/relayframe/Palette" := (F0.ext E2)
  have f5 : Fld Z h2 a1 "com/example/relayframe/relayframe/Palette" "colours" "[I" .null := (F1.ext E2)
  obtain ⟨T6, h6, X6, e6, W6, st6⟩ := putF X2 hx hZ hown (host := "") (Or.inl (w_10 hw)) Via.refl e2 f5 f4 (Or.inr ⟨(w_11 hw), rfl, hnm⟩) (w_2 hw) (ty := (.array .int)) (by decide) rfl rfl (g := (mkF m 8 #[.val (.ref a1), .val (.int (1 : Int32))] [(.ref b2), (.ref a1)])) rfl rfl (hb hby d1_8)
  have f6_ : Fld Z h6 a1 "com/example/relayframe/relayframe/Palette" "colours" "[I" (.ref b2) := f5.same W6
  have z7 : n0 ≤ h6.size := Nat.le_trans z3 (Keep.of_wr W6).1
  have kp7 : Keep h0 h6 [a1] := kp3.wr W6 (Or.inl (List.mem_of_getElem? (i := 0) rfl))
  have n8 := Fr.snoc X6 N0 ga
  refine own_st (B := T6.setTop (mkF m 11 #[.val (.ref a1), .val (.int (1 : Int32))] [])) (fun t k => st6 t k) ?_
  refine own_st (B := T6.setTop (mkF m 12 #[.val (.ref a1), .val (.int (1 : Int32))] [(.ref a1)])) (fun t k => XS.aloadN X6.here hx rfl (hb hby d1_11) rfl rfl k) ?_
  refine own_st (B := T6.setTop (mkF m 14 #[.val (.ref a1), .val (.int (1 : Int32))] [(.int (32 : Int32)), (.ref a1)])) (fun t k => XS.bipush X6.here hx rfl (hb hby d1_12) k) ?_
  refine own_st (B := T6.setTop (mkF m 15 #[.val (.ref a1), .val (.int (1 : Int32))] [(.int (2 : Int32)), (.int (32 : Int32)), (.ref a1)])) (fun t k => XS.iconst X6.here hx rfl (hb hby d1_14) k) ?_
  refine own_st (B := T6.setTop (mkF m 16 #[.val (.ref a1), .val (.int (1 : Int32))] [(.int (1 : Int32)), (.int (2 : Int32)), (.int (32 : Int32)), (.ref a1)])) (fun t k => XS.iloadN X6.here hx rfl (hb hby d1_15) rfl k) ?_
  refine own_st (B := T6.setTop (mkF m 17 #[.val (.ref a1), .val (.int (1 : Int32))] [(.int ((2 : Int32) * (1 : Int32))), (.int (32 : Int32)), (.ref a1)])) (fun t k => XS.imul X6.here hx rfl (hb hby d1_16) rfl k) ?_
  refine own_st (B := T6.setTop (mkF m 18 #[.val (.ref a1), .val (.int (1 : Int32))] [(.int (1 : Int32)), (.int ((2 : Int32) * (1 : Int32))), (.int (32 : Int32)), (.ref a1)])) (fun t k => XS.iconst X6.here hx rfl (hb hby d1_17) k) ?_
  refine own_st (B := T6.setTop (mkF m 19 #[.val (.ref a1), .val (.int (1 : Int32))] [(.int (((2 : Int32) * (1 : Int32)) - (1 : Int32))), (.int (32 : Int32)), (.ref a1)])) (fun t k => XS.isub X6.here hx rfl (hb hby d1_18) rfl k) ?_
  obtain ⟨_, _, ⟨T9, L9, k9, j9⟩, -, X9, ⟨Lc9, hQ9, l9, y9_, z9_⟩, st9⟩ := Jvm.LawKit.callS X6 hx (y := (⟨"java/lang/Integer", "numberOfLeadingZeros", "(I)I"⟩ : MethodName)) hown (mvT hZ (w_12 hw)) (mvT hZ (w_13 hw)) (mvT hZ (w_14 hw)) (mvT hZ (w_15 hw)) (by decide) (backOf (W := 2) (rm3c1 l Z a0 hw []  h6 n0 z7 ) hZ (w_15 hw) (w_14 hw) (by decide) (by decide)) (g := (mkF m 19 #[.val (.ref a1), .val (.int (1 : Int32))] [(.int (((2 : Int32) * (1 : Int32)) - (1 : Int32))), (.int (32 : Int32)), (.ref a1)])) rfl (by rw [hml]; rfl) (argsL := [(.int (((2 : Int32) * (1 : Int32)) - (1 : Int32)))]) (rest := [(.int (32 : Int32)), (.ref a1)]) (lenOf own_pd4 rfl) rfl (by show 2 * 0 + _ ≤ _; exact Nat.le_of_eq rfl) (hb hby d1_19) (fun _ _ => ⟨rfl, e6, (by decide : 1 + 0 ≤ _), (by decide : 1 + 0 ≤ _)⟩)
  dsimp only [Pt.U, Pt.locs, Pt.cells, Pt.slots] at X9 l9 y9_ z9_ st9 hQ9
  subst l9 y9_ z9_
  obtain ⟨rfl, N9q, e9q⟩ := hQ9
  have N9 := Fr.app n8 N9q
  refine own_st (B := T9.setTop (mkF m 22 #[.val (.ref a1), .val (.int (1 : Int32))] [(.int (31 : Int32)), (.int (32 : Int32)), (.ref a1)])) (fun t k => st9 t k) ?_
  refine own_st (B := T9.setTop (mkF m 23 #[.val (.ref a1), .val (.int (1 : Int32))] [(.int ((32 : Int32) - (31 : Int32))), (.ref a1)])) (fun t k => XS.isub X9.here hx rfl (hb hby d1_22) rfl k) ?_
  have f10 : Exa Z h6 a1 "com/example/relayframe/relayframe/Palette" := (f4.wr W6)
  have f11 : Fld Z h6 a1 "com/example/relayframe/relayframe/Palette" "slotBits" "I" (.int (0 : Int32)) := ((F2.ext E2).other W6 (Or.inr (slot_ne (Or.inr (w_18 hw)) (Or.inr (w_11 hw)) (by decide) (t := .int) (t' := (.array .int)) (by decide) (by decide))))
  obtain ⟨T12, h12, X12, e12, W12, st12⟩ := putF X9 hx hZ hown (host := "") (Or.inl (w_17 hw)) Via.refl e9q f11 f10 (Or.inr ⟨(w_18 hw), rfl, hnm⟩) (w_2 hw) (ty := .int) (by decide) rfl rfl (g := (mkF m 23 #[.val (.ref a1), .val (.int (1 : Int32))] [(.int ((32 : Int32) - (31 : Int32))), (.ref a1)])) rfl rfl (hb hby d1_23)
  have f12_ : Fld Z h12 a1 "com/example/relayframe/relayframe/Palette" "slotBits" "I" (.int ((32 : Int32) - (31 : Int32))) := f11.same W12
  have z13 : n0 ≤ h12.size := Nat.le_trans z7 (Keep.of_wr W12).1
  have kp13 : Keep h0 h12 [a1] := kp7.wr W12 (Or.inl (List.mem_of_getElem? (i := 0) rfl))
  have n14 := Fr.snoc X12 N9 ga
  refine own_st (B := T12.setTop (mkF m 26 #[.val (.ref a1), .val (.int (1 : Int32))] [])) (fun t k => st12 t k) ?_
  refine own_st (B := T12.setTop (mkF m 27 #[.val (.ref a1), .val (.int (1 : Int32))] [(.ref a1)])) (fun t k => XS.aloadN X12.here hx rfl (hb hby d1_26) rfl rfl k) ?_
  refine own_st (B := T12.setTop (mkF m 28 #[.val (.ref a1), .val (.int (1 : Int32))] [(.int (1 : Int32)), (.ref a1)])) (fun t k => XS.iconst X12.here hx rfl (hb hby d1_27) k) ?_
  refine own_st (B := T12.setTop (mkF m 29 #[.val (.ref a1), .val (.int (1 : Int32))] [(.ref a1), (.int (1 : Int32)), (.ref a1)])) (fun t k => XS.aloadN X12.here hx rfl (hb hby d1_28) rfl rfl k) ?_
  obtain ⟨T15, X15, e15, st15⟩ := getF X12 hx hZ hown (host := "") (Or.inl (w_17 hw)) Via.refl e12 f12_ (g := (mkF m 29 #[.val (.ref a1), .val (.int (1 : Int32))] [(.ref a1), (.int (1 : Int32)), (.ref a1)])) rfl rfl (hb hby d1_29)
  refine own_st (B := T15.setTop (mkF m 32 #[.val (.ref a1), .val (.int (1 : Int32))] [(.int ((32 : Int32) - (31 : Int32))), (.int (1 : Int32)), (.ref a1)])) (fun t k => st15 t k) ?_
  refine own_st (B := T15.setTop (mkF m 33 #[.val (.ref a1), .val (.int (1 : Int32))] [(.int ((1 : Int32) <<< (((32 : Int32) - (31 : Int32)) &&& 31))), (.ref a1)])) (fun t k => XS.ishl X15.here hx rfl (hb hby d1_32) rfl k) ?_
  obtain ⟨T16, h16, X16, e16, E16, A16, x16, st16⟩ := own_newP X15 hx hZ (aty := .int) (w_0 hw) e15 (g := (mkF m 33 #[.val (.ref a1), .val (.int (1 : Int32))] [(.int ((1 : Int32) <<< (((32 : Int32) - (31 : Int32)) &&& 31))), (.ref a1)])) rfl (hb hby d1_33) (n := ((1 : Int32) <<< (((32 : Int32) - (31 : Int32)) &&& 31))) (rest := [(.ref a1)]) rfl (k := 2) (cap := 2) (by decide) (Nat.le_refl _) (by decide) (by decide) (by decide) (ad := "[I") rfl
  obtain ⟨b16, g16⟩ : ∃ z, z = h12.size := ⟨_, rfl⟩
  rw [← g16] at A16 x16 st16
  have f17 : Exa Z h12 a1 "com/example/relayframe/relayframe/Palette" := (f10.wr W12)
  have q16_a1 : a1 ≠ b16 := Nat.ne_of_lt (Nat.lt_of_lt_of_le f17.lt (Nat.le_of_eq g16.symm))
  have f18 : own_A Z h12 b2 .int [(.int (0 : Int32))] := ((f2_.other W6 (Ne.symm q2_a1)).other W12 (Ne.symm q2_a1))
  have q16_b2 : b2 ≠ b16 := Nat.ne_of_lt (Nat.lt_of_lt_of_le f18.lt (Nat.le_of_eq g16.symm))
  have u16 : n0 ≤ b16 := Nat.le_trans z13 (Nat.le_of_eq g16.symm)
  have y16 : h0.size ≤ b16 := Nat.le_trans kp13.1 (Nat.le_of_eq g16.symm)
  have z19 : n0 ≤ h16.size := Nat.le_trans z13 E16.1
  have kp19 : Keep h0 h16 [a1] := kp13.ext E16
  have f16_ : own_A Z h16 b16 .int [(.int (0 : Int32)), (.int (0 : Int32))] := A16
  refine own_st (B := T16.setTop (mkF m 35 #[.val (.ref a1), .val (.int (1 : Int32))] [(.ref b16), (.ref a1)])) (fun t k => st16 t k) ?_
  have f20 : Exa Z h16 a1 "com/example/relayframe/relayframe/Palette" := (f17.ext E16)
  have f21 : Fld Z h16 a1 "com/example/relayframe/relayframe/Palette" "slotColours" "[I" .null := ((((F3.ext E2).other W6 (Or.inr (slot_ne (Or.inr (w_20 hw)) (Or.inr (w_11 hw)) (by decide) (t := (.array .int)) (t' := (.array .int)) (by decide) (by decide)))).other W12 (Or.inr (slot_ne (Or.inr (w_20 hw)) (Or.inr (w_18 hw)) (by decide) (t := (.array .int)) (t' := .int) (by decide) (by decide)))).ext E16)
  obtain ⟨T22, h22, X22, e22, W22, st22⟩ := putF X16 hx hZ hown (host := "") (Or.inl (w_19 hw)) Via.refl e16 f21 f20 (Or.inr ⟨(w_20 hw), rfl, hnm⟩) (w_2 hw) (ty := (.array .int)) (by decide) rfl rfl (g := (mkF m 35 #[.val (.ref a1), .val (.int (1 : Int32))] [(.ref b16), (.ref a1)])) rfl rfl (hb hby d1_35)
  have f22_ : Fld Z h22 a1 "com/example/relayframe/relayframe/Palette" "slotColours" "[I" (.ref b16) := f21.same W22
  have z23 : n0 ≤ h22.size := Nat.le_trans z19 (Keep.of_wr W22).1
  have kp23 : Keep h0 h22 [a1] := kp19.wr W22 (Or.inl (List.mem_of_getElem? (i := 0) rfl))
  have n24 := Fr.snoc X22 n14 ga
  refine own_st (B := T22.setTop (mkF m 38 #[.val (.ref a1), .val (.int (1 : Int32))] [])) (fun t k => st22 t k) ?_
  refine own_st (B := T22.setTop (mkF m 39 #[.val (.ref a1), .val (.int (1 : Int32))] [(.ref a1)])) (fun t k => XS.aloadN X22.here hx rfl (hb hby d1_38) rfl rfl k) ?_
  refine own_st (B := T22.setTop (mkF m 40 #[.val (.ref a1), .val (.int (1 : Int32))] [(.int (1 : Int32)), (.ref a1)])) (fun t k => XS.iconst X22.here hx rfl (hb hby d1_39) k) ?_
  refine own_st (B := T22.setTop (mkF m 41 #[.val (.ref a1), .val (.int (1 : Int32))] [(.ref a1), (.int (1 : Int32)), (.ref a1)])) (fun t k => XS.aloadN X22.here hx rfl (hb hby d1_40) rfl rfl k) ?_
  have f25 : Fld Z h22 a1 "com/example/relayframe/relayframe/Palette" "slotBits" "I" (.int ((32 : Int32) - (31 : Int32))) := ((f12_.ext E16).other W22 (Or.inr (slot_ne (Or.inr (w_18 hw)) (Or.inr (w_20 hw)) (by decide) (t := .int) (t' := (.array .int)) (by decide) (by decide))))
  obtain ⟨T26, X26, e26, st26⟩ := getF X22 hx hZ hown (host := "") (Or.inl (w_17 hw)) Via.refl e22 f25 (g := (mkF m 41 #[.val (.ref a1), .val (.int (1 : Int32))] [(.ref a1), (.int (1 : Int32)), (.ref a1)])) rfl rfl (hb hby d1_41)
  refine own_st (B := T26.setTop (mkF m 44 #[.val (.ref a1), .val (.int (1 : Int32))] [(.int ((32 : Int32) - (31 : Int32))), (.int (1 : Int32)), (.ref a1)])) (fun t k => st26 t k) ?_
  refine own_st (B := T26.setTop (mkF m 45 #[.val (.ref a1), .val (.int (1 : Int32))] [(.int ((1 : Int32) <<< (((32 : Int32) - (31 : Int32)) &&& 31))), (.ref a1)])) (fun t k => XS.ishl X26.here hx rfl (hb hby d1_44) rfl k) ?_
  obtain ⟨T27, h27, X27, e27, E27, A27, x27, st27⟩ := own_newP X26 hx hZ (aty := .short) (w_21 hw) e26 (g := (mkF m 45 #[.val (.ref a1), .val (.int (1 : Int32))] [(.int ((1 : Int32) <<< (((32 : Int32) - (31 : Int32)) &&& 31))), (.ref a1)])) rfl (hb hby d1_45) (n := ((1 : Int32) <<< (((32 : Int32) - (31 : Int32)) &&& 31))) (rest := [(.ref a1)]) rfl (k := 2) (cap := 2) (by decide) (Nat.le_refl _) (by decide) (by decide) (by decide) (ad := "[S") rfl
  obtain ⟨b27, g27⟩ : ∃ z, z = h22.size := ⟨_, rfl⟩
  rw [← g27] at A27 x27 st27
  have f28 : Exa Z h22 a1 "com/example/relayframe/relayframe/Palette" := (f20.wr W22)
  have q27_a1 : a1 ≠ b27 := Nat.ne_of_lt (Nat.lt_of_lt_of_le f28.lt (Nat.le_of_eq g27.symm))
  have f29 : own_A Z h22 b2 .int [(.int (0 : Int32))] := ((f18.ext E16).other W22 (Ne.symm q2_a1))
  have q27_b2 : b2 ≠ b27 := Nat.ne_of_lt (Nat.lt_of_lt_of_le f29.lt (Nat.le_of_eq g27.symm))
  have f30 : own_A Z h22 b16 .int [(.int (0 : Int32)), (.int (0 : Int32))] := (f16_.other W22 (Ne.symm q16_a1))
  have q27_b16 : b16 ≠ b27 := Nat.ne_of_lt (Nat.lt_of_lt_of_le f30.lt (Nat.le_of_eq g27.symm))
  have u27 : n0 ≤ b27 := Nat.le_trans z23 (Nat.le_of_eq g27.symm)
  have y27 : h0.size ≤ b27 := Nat.le_trans kp23.1 (Nat.le_of_eq g27.symm)
  have z31 : n0 ≤ h27.size := Nat.le_trans z23 E27.1
  have kp31 : Keep h0 h27 [a1] := kp23.ext E27
  have f27_ : own_A Z h27 b27 .short [(.int (0 : Int32)), (.int (0 : Int32))] := A27
  refine own_st (B := T27.setTop (mkF m 47 #[.val (.ref a1), .val (.int (1 : Int32))] [(.ref b27), (.ref a1)])) (fun t k => st27 t k) ?_
  have f32 : Exa Z h27 a1 "com/example/relayframe/relayframe/Palette" := (f28.ext E27)
  have f33 : Fld Z h27 a1 "com/example/relayframe/relayframe/Palette" "slotIndices" "[S" .null := ((((((F4.ext E2).other W6 (Or.inr (slot_ne (Or.inr (w_23 hw)) (Or.inr (w_11 hw)) (by decide) (t := (.array .short)) (t' := (.array .int)) (by decide) (by decide)))).other W12 (Or.inr (slot_ne (Or.inr (w_23 hw)) (Or.inr (w_18 hw)) (by decide) (t := (.array .short)) (t' := .int) (by decide) (by decide)))).ext E16).other W22 (Or.inr (slot_ne (Or.inr (w_23 hw)) (Or.inr (w_20 hw)) (by decide) (t := (.array .short)) (t' := (.array .int)) (by decide) (by decide)))).ext E27)
  obtain ⟨T34, h34, X34, e34, W34, st34⟩ := putF X27 hx hZ hown (host := "") (Or.inl (w_22 hw)) Via.refl e27 f33 f32 (Or.inr ⟨(w_23 hw), rfl, hnm⟩) (w_2 hw) (ty := (.array .short)) (by decide) rfl rfl (g := (mkF m 47 #[.val (.ref a1), .val (.int (1 : Int32))] [(.ref b27), (.ref a1)])) rfl rfl (hb hby d1_47)
  have f34_ : Fld Z h34 a1 "com/example/relayframe/relayframe/Palette" "slotIndices" "[S" (.ref b27) := f33.same W34
  have z35 : n0 ≤ h34.size := Nat.le_trans z31 (Keep.of_wr W34).1
  have kp35 : Keep h0 h34 [a1] := kp31.wr W34 (Or.inl (List.mem_of_getElem? (i := 0) rfl))
  have n36 := Fr.snoc X34 n24 ga
  refine own_st (B := T34.setTop (mkF m 50 #[.val (.ref a1), .val (.int (1 : Int32))] [])) (fun t k => st34 t k) ?_
  refine own_st (B := T34.setTop (mkF m 51 #[.val (.ref a1), .val (.int (1 : Int32))] [(.ref a1)])) (fun t k => XS.aloadN X34.here hx rfl (hb hby d1_50) rfl rfl k) ?_
  have f37 : Exa Z h34 a1 "com/example/relayframe/relayframe/Palette" := (f32.wr W34)
  have f38 : Fld Z h34 a1 "com/example/relayframe/relayframe/Palette" "colours" "[I" (.ref b2) := (((((f6_.other W12 (Or.inr (slot_ne (Or.inr (w_11 hw)) (Or.inr (w_18 hw)) (by decide) (t := (.array .int)) (t' := .int) (by decide) (by decide)))).ext E16).other W22 (Or.inr (slot_ne (Or.inr (w_11 hw)) (Or.inr (w_20 hw)) (by decide) (t := (.array .int)) (t' := (.array .int)) (by decide) (by decide)))).ext E27).other W34 (Or.inr (slot_ne (Or.inr (w_11 hw)) (Or.inr (w_23 hw)) (by decide) (t := (.array .int)) (t' := (.array .short)) (by decide) (by decide))))
  have f39 : Fld Z h34 a1 "com/example/relayframe/relayframe/Palette" "slotBits" "I" (.int ((32 : Int32) - (31 : Int32))) := ((f25.ext E27).other W34 (Or.inr (slot_ne (Or.inr (w_18 hw)) (Or.inr (w_23 hw)) (by decide) (t := .int) (t' := (.array .short)) (by decide) (by decide))))
  have f40 : Fld Z h34 a1 "com/example/relayframe/relayframe/Palette" "slotColours" "[I" (.ref b16) := ((f22_.ext E27).other W34 (Or.inr (slot_ne (Or.inr (w_20 hw)) (Or.inr (w_23 hw)) (by decide) (t := (.array .int)) (t' := (.array .short)) (by decide) (by decide))))
  have f41 : Fld Z h34 a1 "com/example/relayframe/relayframe/Palette" "size" "I" (.int (0 : Int32)) := (((((((F5.ext E2).other W6 (Or.inr (slot_ne (Or.inl (w_34 hw)) (Or.inr (w_11 hw)) (by decide) (t := .int) (t' := (.array .int)) (by decide) (by decide)))).other W12 (Or.inr (slot_ne (Or.inl (w_34 hw)) (Or.inr (w_18 hw)) (by decide) (t := .int) (t' := .int) (by decide) (by decide)))).ext E16).other W22 (Or.inr (slot_ne (Or.inl (w_34 hw)) (Or.inr (w_20 hw)) (by decide) (t := .int) (t' := (.array .int)) (by decide) (by decide)))).ext E27).other W34 (Or.inr (slot_ne (Or.inl (w_34 hw)) (Or.inr (w_23 hw)) (by decide) (t := .int) (t' := (.array .short)) (by decide) (by decide))))
  have f42 : own_A Z h34 b27 .short [(.int (0 : Int32)), (.int (0 : Int32))] := (f27_.other W34 (Ne.symm q27_a1))
  have f43 : Exa Z h34 b27 "[S" := (x27.wr W34)
  obtain ⟨cq44, kq44, q44a, q44b, q44c⟩ := isOf hZ e34 f37
  obtain ⟨_, _, ⟨T44, L44, k44, j44⟩, -, X44, ⟨Lc44, hQ44, l44, y44_, z44_⟩, st44⟩ := X34.virtualBack hx (y := (⟨"com/example/relayframe/relayframe/Palette", "clear", "()V"⟩ : MethodName)) (z := (⟨"com/example/relayframe/relayframe/Palette", "clear", "()V"⟩ : MethodName)) hown (mvT hZ (w_24 hw)) (mvT hZ (w_25 hw)) (notFace_of_selects (args := #[]) (mvT hZ (w_27 hw))) (mvT hZ (w_27 hw)) (mvT hZ (w_26 hw)) (by decide) (backOf (W := 0) (rm4n2 l Z a0 hw [] a1 b2 b16 b27 ((32 : Int32) - (31 : Int32)) h34 n0 z35 f37 f38 f39 f40 f34_ f41 f42 f43 ga u27) hZ (w_28 hw) (w_3 hw) (by decide) (by decide)) q44a q44c (g := (mkF m 51 #[.val (.ref a1), .val (.int (1 : Int32))] [(.ref a1)])) rfl (by rw [hml]; rfl) (Steps.refl _) (argsL := []) (rest := []) (lenOf own_pd5 rfl) rfl (by show 2 * 0 + _ ≤ _; exact Nat.le_of_eq rfl) (hb hby d1_51) (fun _ _ => ⟨rfl, e34, (by decide : 3 + 0 ≤ _), (by decide : 5 + 0 ≤ _)⟩)
  dsimp only [Pt.U, Pt.locs, Pt.cells, Pt.slots] at X44 l44 y44_ z44_ st44 hQ44
  subst l44 y44_ z44_
  obtain ⟨rfl, N44q, K44, p44_0, p44_1, p44_2, p44_3, p44_4, p44_5⟩ := hQ44
  have N44 := Fr.app n36 N44q
  have z45 : n0 ≤ T44.heap.size := Nat.le_trans z35 K44.1
  have kp45 : Keep h0 T44.heap [a1] := kp35.trans K44 (allS (Or.inl (List.mem_of_getElem? (i := 0) rfl)) (allS (Or.inr y27) all0))
  refine own_ss (B := T44.setTop (mkF m 54 #[.val (.ref a1), .val (.int (1 : Int32))] [])) st44 ?_
  refine own_retV X44 hx hlk Bd.returns (hb hby d1_54) (by decide) (by decide) ?_
  show Q1c1 Z a1 h0 n0 _ T44.heap _
  have f46 : Exa Z T44.heap a1 "com/example/relayframe/relayframe/Palette" := (f37.keep K44)
  have f47 : own_A Z T44.heap b2 .int [(.int (0 : Int32))] := (((f29.ext E27).other W34 (Ne.symm q2_a1)).keep K44 (ninS (Ne.symm q2_a1) (ninS q27_b2 nin0)))
  have f48 : own_A Z T44.heap b16 .int [(.int (0 : Int32)), (.int (0 : Int32))] := (((f30.ext E27).other W34 (Ne.symm q16_a1)).keep K44 (ninS (Ne.symm q16_a1) (ninS q27_b16 nin0)))
  have f49 : Exa Z T44.heap b2 "[I" := (((((((x2.wr W6).wr W12).ext E16).wr W22).ext E27).wr W34).keep K44)
  have f50 : Exa Z T44.heap b16 "[I" := ((((x16.wr W22).ext E27).wr W34).keep K44)
  have f51 : Exa Z T44.heap b27 "[S" := (f43.keep K44)
  exact ⟨b2, b16, b27, rfl, N44, kp45, u2, y2, u16, y16, u27, y27, f46, p44_0, p44_1, p44_2, p44_3, p44_4, f47, f48, p44_5, f49, f50, f51, q16_b2⟩
theorem ef_1c2 (m : MethodId) (x0 : Addr) (x1 : Int32) : entryFrame m #[(.ref x0), (.int x1)] 2 = mkF m 0 #[.val (.ref x0), .val (.int x1)] [] := by first | (simp [entryFrame, mkF, argsToLocals, Value.category]; done) | rfl
def Q1c2 (Z : State) (a1 : Addr) (h0 : Heap) (n0 : Nat) (v : Option Value) (h : Heap) (L : List Loc) : Prop := ∃ (ac : Addr) (asl : Addr) (ai : Addr), v = none ∧ Fr n0 L ∧ Keep h0 h [a1] ∧ n0 ≤ ac ∧ h0.size ≤ ac ∧ n0 ≤ asl ∧ h0.size ≤ asl ∧ n0 ≤ ai ∧ h0.size ≤ ai ∧ Exa Z h a1 "com/example/relayframe/relayframe/Palette" ∧ Fld Z h a1 "com/example/relayframe/relayframe/Palette" "colours" "[I" (.ref ac) ∧ Fld Z h a1 "com/example/relayframe/relayframe/Palette" "slotBits" "I" (.int ((32 : Int32) - (30 : Int32))) ∧ Fld Z h a1 "com/example/relayframe/relayframe/Palette" "slotColours" "[I" (.ref asl) ∧ Fld Z h a1 "com/example/relayframe/relayframe/Palette" "slotIndices" "[S" (.ref ai) ∧ Fld Z h a1 "com/example/relayframe/relayframe/Palette" "size" "I" (.int (0 : Int32)) ∧ own_A Z h ac .int [(.int (0 : Int32)), (.int (0 : Int32))] ∧ own_A Z h asl .int [(.int (0 : Int32)), (.int (0 : Int32)), (.int (0 : Int32)), (.int (0 : Int32))] ∧ own_A Z h ai .short [(.int ((-1 : Int32).toInt16.toInt32)), (.int ((-1 : Int32).toInt16.toInt32)), (.int ((-1 : Int32).toInt16.toInt32)), (.int ((-1 : Int32).toInt16.toInt32))] ∧ Exa Z h ac "[I" ∧ Exa Z h asl "[I" ∧ Exa Z h ai "[S" ∧ (ac ≠ asl)
set_option maxHeartbeats 40000000 in
theorem rm1c2 (l : Launch) (Z : State) (a0 : Array Value) (hw : ∀ d ∈ tables_1, d.before a0 Z = true) (ws : List Jvm.Cond) (a1 : Addr) (h0 : Heap) (n0 : Nat) (Z0 : n0 ≤ h0.size) (F0 : Exa Z h0 a1 "com/example/relayframe/relayframe/Palette") (F1 : Fld Z h0 a1 "com/example/relayframe/relayframe/Palette" "colours" "[I" .null) (F2 : Fld Z h0 a1 "com/example/relayframe/relayframe/Palette" "slotBits" "I" (.int (0 : Int32))) (F3 : Fld Z h0 a1 "com/example/relayframe/relayframe/Palette" "slotColours" "[I" .null) (F4 : Fld Z h0 a1 "com/example/relayframe/relayframe/Palette" "slotIndices" "[S" .null) (F5 : Fld Z h0 a1 "com/example/relayframe/relayframe/Palette" "size" "I" (.int (0 : Int32))) (ga : n0 ≤ a1) :
    MetFree l (⟨"com/example/relayframe/relayframe/Palette", "<init>", "(I)V"⟩ : MethodName) (head1 (Jvm.Cond.code (⟨"com/example/relayframe/relayframe/Palette", "<init>", "(I)V"⟩ : MethodName) prog_3_method_1_code 2 none :: ws) ({ frames := 2, cells := 3, slots := 10, locals := 27 } : Room)) (fun a U => a = #[(.ref a1), (.int (2 : Int32))] ∧ Z.Warmed39 U.vm ∧ U.heap = h0) (fun _ _ _ _ _ => True) (fun _ U o U' => ∃ v L, o = .returned v ∧ Q1c2 Z a1 h0 n0 v U'.heap L ∧ FrameEnd U o U' L ({ frames := 2, cells := 3, slots := 10, locals := 27 } : Room).cells ({ frames := 2, cells := 3, slots := 10, locals := 27 } : Room).slots) := by
  refine MetFree.of_bodySF (plainFor_of_name own_pn3) hisR ?_
  intro p e s m args below meth c s₁ Bd hml0 hP hK
  obtain ⟨rfl, hZ, hh⟩ := hP
  have hx := Bd.exec
  have hby := Bd.bytes
  have hml : c.maxLocals = 2 := hml0
  have hlk : meth.locks = false := BodyLoose.notSynchronized Bd
  have hown : s.vm.findClass "com/example/relayframe/relayframe/Palette" = some m.cls := findClass_of_methodNamed Bd.named
  have hnm := (name_of_methodNamed Bd.named Bd.method).1
  have X0 : Stand p l e ({ frames := 2, cells := 3, slots := 10, locals := 27 } : Room) s m #[(.ref a1), (.int (2 : Int32))] below meth c s₁ [] 0 0 := Stand.of_body Bd
  have e0 : s₁.heap = h0 := by rw [← hh, Bd.state]; rfl
  have N0 := Fr.nil n0
  show own_Go p e below s (Q1c2 Z a1 h0 n0) ({ frames := 2, cells := 3, slots := 10, locals := 27 } : Room).cells ({ frames := 2, cells := 3, slots := 10, locals := 27 } : Room).slots _
  refine own_st (B := s₁.setTop (mkF m 0 #[.val (.ref a1), .val (.int (2 : Int32))] [])) (fun t k => castTop (ef_1c2 m (a1) ((2 : Int32))) k) ?_
  refine own_st (B := s₁.setTop (mkF m 1 #[.val (.ref a1), .val (.int (2 : Int32))] [(.ref a1)])) (fun t k => XS.aloadN X0.here hx rfl (hb hby d1_0) rfl rfl k) ?_
  obtain ⟨T1, X1, e1, st1⟩ := initO X0 hx hZ hown (w_7 hw) (w_8 hw) (w_9 hw) e0 (g := (mkF m 1 #[.val (.ref a1), .val (.int (2 : Int32))] [(.ref a1)])) rfl (by rw [hml]; rfl) rfl (hb hby d1_1) (by decide) (W := 0) (by show 2 * 0 + _ ≤ _; exact Nat.le_of_eq rfl) (by decide)
  refine own_st (B := T1.setTop (mkF m 4 #[.val (.ref a1), .val (.int (2 : Int32))] [])) (fun t k => st1 t k) ?_
  refine own_st (B := T1.setTop (mkF m 5 #[.val (.ref a1), .val (.int (2 : Int32))] [(.ref a1)])) (fun t k => XS.aloadN X1.here hx rfl (hb hby d1_4) rfl rfl k) ?_
  refine own_st (B := T1.setTop (mkF m 6 #[.val (.ref a1), .val (.int (2 : Int32))] [(.int (2 : Int32)), (.ref a1)])) (fun t k => XS.iloadN X1.here hx rfl (hb hby d1_5) rfl k) ?_
  obtain ⟨T2, h2, X2, e2, E2, A2, x2, st2⟩ := own_newP X1 hx hZ (aty := .int) (w_0 hw) e1 (g := (mkF m 6 #[.val (.ref a1), .val (.int (2 : Int32))] [(.int (2 : Int32)), (.ref a1)])) rfl (hb hby d1_6) (n := (2 : Int32)) (rest := [(.ref a1)]) rfl (k := 2) (cap := 2) (by decide) (Nat.le_refl _) (by decide) (by decide) (by decide) (ad := "[I") rfl
  obtain ⟨b2, g2⟩ : ∃ z, z = h0.size := ⟨_, rfl⟩
  rw [← g2] at A2 x2 st2
  have q2_a1 : a1 ≠ b2 := Nat.ne_of_lt (Nat.lt_of_lt_of_le F0.lt (Nat.le_of_eq g2.symm))
  have u2 : n0 ≤ b2 := Nat.le_trans Z0 (Nat.le_of_eq g2.symm)
  have y2 : h0.size ≤ b2 := Nat.le_trans (Keep.refl h0 [a1]).1 (Nat.le_of_eq g2.symm)
  have z3 : n0 ≤ h2.size := Nat.le_trans Z0 E2.1
  have kp3 : Keep h0 h2 [a1] := (Keep.refl h0 [a1]).ext E2
  have f2_ : own_A Z h2 b2 .int [(.int (0 : Int32)), (.int (0 : Int32))] := A2
  refine own_st (B := T2.setTop (mkF m 8 #[.val (.ref a1), .val (.int (2 : Int32))] [(.ref b2), (.ref a1)])) (fun t k => st2 t k) ?_
  have f4 : Exa Z h2 a1 "com/example/relayframe/relayframe/Palette" := (F0.ext E2)
  have f5 : Fld Z h2 a1 "com/example/relayframe/relayframe/Palette" "colours" "[I" .null := (F1.ext E2)
  obtain ⟨T6, h6, X6, e6, W6, st6⟩ := putF X2 hx hZ hown (host := "") (Or.inl (w_10 hw)) Via.refl e2 f5 f4 (Or.inr ⟨(w_11 hw), rfl, hnm⟩) (w_2 hw) (ty := (.array .int)) (by decide) rfl rfl (g := (mkF m 8 #[.val (.ref a1), .val (.int (2 : Int32))] [(.ref b2), (.ref a1)])) rfl rfl (hb hby d1_8)
  have f6_ : Fld Z h6 a1 "com/example/relayframe/relayframe/Palette" "colours" "[I" (.ref b2) := f5.same W6
  have z7 : n0 ≤ h6.size := Nat.le_trans z3 (Keep.of_wr W6).1
  have kp7 : Keep h0 h6 [a1] := kp3.wr W6 (Or.inl (List.mem_of_getElem? (i := 0) rfl))
  have n8 := Fr.snoc X6 N0 ga
  refine own_st (B := T6.setTop (mkF m 11 #[.val (.ref a1), .val (.int (2 : Int32))] [])) (fun t k => st6 t k) ?_
  refine own_st (B := T6.setTop (mkF m 12 #[.val (.ref a1), .val (.int (2 : Int32))] [(.ref a1)])) (fun t k => XS.aloadN X6.here hx rfl (hb hby d1_11) rfl rfl k) ?_
  refine own_st (B := T6.setTop (mkF m 14 #[.val (.ref a1), .val (.int (2 : Int32))] [(.int (32 : Int32)), (.ref a1)])) (fun t k => XS.bipush X6.here hx rfl (hb hby d1_12) k) ?_
  refine own_st (B := T6.setTop (mkF m 15 #[.val (.ref a1), .val (.int (2 : Int32))] [(.int (2 : Int32)), (.int (32 : Int32)), (.ref a1)])) (fun t k => XS.iconst X6.here hx rfl (hb hby d1_14) k) ?_
  refine own_st (B := T6.setTop (mkF m 16 #[.val (.ref a1), .val (.int (2 : Int32))] [(.int (2 : Int32)), (.int (2 : Int32)), (.int (32 : Int32)), (.ref a1)])) (fun t k => XS.iloadN X6.here hx rfl (hb hby d1_15) rfl k) ?_
  refine own_st (B := T6.setTop (mkF m 17 #[.val (.ref a1), .val (.int (2 : Int32))] [(.int ((2 : Int32) * (2 : Int32))), (.int (32 : Int32)), (.ref a1)])) (fun t k => XS.imul X6.here hx rfl (hb hby d1_16) rfl k) ?_
  refine own_st (B := T6.setTop (mkF m 18 #[.val (.ref a1), .val (.int (2 : Int32))] [(.int (1 : Int32)), (.int ((2 : Int32) * (2 : Int32))), (.int (32 : Int32)), (.ref a1)])) (fun t k => XS.iconst X6.here hx rfl (hb hby d1_17) k) ?_
  refine own_st (B := T6.setTop (mkF m 19 #[.val (.ref a1), .val (.int (2 : Int32))] [(.int (((2 : Int32) * (2 : Int32)) - (1 : Int32))), (.int (32 : Int32)), (.ref a1)])) (fun t k => XS.isub X6.here hx rfl (hb hby d1_18) rfl k) ?_
  obtain ⟨_, _, ⟨T9, L9, k9, j9⟩, -, X9, ⟨Lc9, hQ9, l9, y9_, z9_⟩, st9⟩ := Jvm.LawKit.callS X6 hx (y := (⟨"java/lang/Integer", "numberOfLeadingZeros", "(I)I"⟩ : MethodName)) hown (mvT hZ (w_12 hw)) (mvT hZ (w_13 hw)) (mvT hZ (w_14 hw)) (mvT hZ (w_15 hw)) (by decide) (backOf (W := 2) (rm3c2 l Z a0 hw []  h6 n0 z7 ) hZ (w_15 hw) (w_14 hw) (by decide) (by decide)) (g := (mkF m 19 #[.val (.ref a1), .val (.int (2 : Int32))] [(.int (((2 : Int32) * (2 : Int32)) - (1 : Int32))), (.int (32 : Int32)), (.ref a1)])) rfl (by rw [hml]; rfl) (argsL := [(.int (((2 : Int32) * (2 : Int32)) - (1 : Int32)))]) (rest := [(.int (32 : Int32)), (.ref a1)]) (lenOf own_pd4 rfl) rfl (by show 2 * 0 + _ ≤ _; exact Nat.le_of_eq rfl) (hb hby d1_19) (fun _ _ => ⟨rfl, e6, (by decide : 1 + 0 ≤ _), (by decide : 2 + 0 ≤ _)⟩)
  dsimp only [Pt.U, Pt.locs, Pt.cells, Pt.slots] at X9 l9 y9_ z9_ st9 hQ9
  subst l9 y9_ z9_
  obtain ⟨rfl, N9q, e9q⟩ := hQ9
  have N9 := Fr.app n8 N9q
  refine own_st (B := T9.setTop (mkF m 22 #[.val (.ref a1), .val (.int (2 : Int32))] [(.int (30 : Int32)), (.int (32 : Int32)), (.ref a1)])) (fun t k => st9 t k) ?_
  refine own_st (B := T9.setTop (mkF m 23 #[.val (.ref a1), .val (.int (2 : Int32))] [(.int ((32 : Int32) - (30 : Int32))), (.ref a1)])) (fun t k => XS.isub X9.here hx rfl (hb hby d1_22) rfl k) ?_
  have f10 : Exa Z h6 a1 "com/example/relayframe/relayframe/Palette" := (f4.wr W6)
  have f11 : Fld Z h6 a1 "com/example/relayframe/relayframe/Palette" "slotBits" "I" (.int (0 : Int32)) := ((F2.ext E2).other W6 (Or.inr (slot_ne (Or.inr (w_18 hw)) (Or.inr (w_11 hw)) (by decide) (t := .int) (t' := (.array .int)) (by decide) (by decide))))
  obtain ⟨T12, h12, X12, e12, W12, st12⟩ := putF X9 hx hZ hown (host := "") (Or.inl (w_17 hw)) Via.refl e9q f11 f10 (Or.inr ⟨(w_18 hw), rfl, hnm⟩) (w_2 hw) (ty := .int) (by decide) rfl rfl (g := (mkF m 23 #[.val (.ref a1), .val (.int (2 : Int32))] [(.int ((32 : Int32) - (30 : Int32))), (.ref a1)])) rfl rfl (hb hby d1_23)
  have f12_ : Fld Z h12 a1 "com/example/relayframe/relayframe/Palette" "slotBits" "I" (.int ((32 : Int32) - (30 : Int32))) := f11.same W12
  have z13 : n0 ≤ h12.size := Nat.le_trans z7 (Keep.of_wr W12).1
  have kp13 : Keep h0 h12 [a1] := kp7.wr W12 (Or.inl (List.mem_of_getElem? (i := 0) rfl))
  have n14 := Fr.snoc X12 N9 ga
  refine own_st (B := T12.setTop (mkF m 26 #[.val (.ref a1), .val (.int (2 : Int32))] [])) (fun t k => st12 t k) ?_
  refine own_st (B := T12.setTop (mkF m 27 #[.val (.ref a1), .val (.int (2 : Int32))] [(.ref a1)])) (fun t k => XS.aloadN X12.here hx rfl (hb hby d1_26) rfl rfl k) ?_
  refine own_st (B := T12.setTop (mkF m 28 #[.val (.ref a1), .val (.int (2 : Int32))] [(.int (1 : Int32)), (.ref a1)])) (fun t k => XS.iconst X12.here hx rfl (hb hby d1_27) k) ?_
  refine own_st (B := T12.setTop (mkF m 29 #[.val (.ref a1), .val (.int (2 : Int32))] [(.ref a1), (.int (1 : Int32)), (.ref a1)])) (fun t k => XS.aloadN X12.here hx rfl (hb hby d1_28) rfl rfl k) ?_
  obtain ⟨T15, X15, e15, st15⟩ := getF X12 hx hZ hown (host := "") (Or.inl (w_17 hw)) Via.refl e12 f12_ (g := (mkF m 29 #[.val (.ref a1), .val (.int (2 : Int32))] [(.ref a1), (.int (1 : Int32)), (.ref a1)])) rfl rfl (hb hby d1_29)
  refine own_st (B := T15.setTop (mkF m 32 #[.val (.ref a1), .val (.int (2 : Int32))] [(.int ((32 : Int32) - (30 : Int32))), (.int (1 : Int32)), (.ref a1)])) (fun t k => st15 t k) ?_
  refine own_st (B := T15.setTop (mkF m 33 #[.val (.ref a1), .val (.int (2 : Int32))] [(.int ((1 : Int32) <<< (((32 : Int32) - (30 : Int32)) &&& 31))), (.ref a1)])) (fun t k => XS.ishl X15.here hx rfl (hb hby d1_32) rfl k) ?_
  obtain ⟨T16, h16, X16, e16, E16, A16, x16, st16⟩ := own_newP X15 hx hZ (aty := .int) (w_0 hw) e15 (g := (mkF m 33 #[.val (.ref a1), .val (.int (2 : Int32))] [(.int ((1 : Int32) <<< (((32 : Int32) - (30 : Int32)) &&& 31))), (.ref a1)])) rfl (hb hby d1_33) (n := ((1 : Int32) <<< (((32 : Int32) - (30 : Int32)) &&& 31))) (rest := [(.ref a1)]) rfl (k := 4) (cap := 4) (by decide) (Nat.le_refl _) (by decide) (by decide) (by decide) (ad := "[I") rfl
  obtain ⟨b16, g16⟩ : ∃ z, z = h12.size := ⟨_, rfl⟩
  rw [← g16] at A16 x16 st16
  have f17 : Exa Z h12 a1 "com/example/relayframe/relayframe/Palette" := (f10.wr W12)
  have q16_a1 : a1 ≠ b16 := Nat.ne_of_lt (Nat.lt_of_lt_of_le f17.lt (Nat.le_of_eq g16.symm))
  have f18 : own_A Z h12 b2 .int [(.int (0 : Int32)), (.int (0 : Int32))] := ((f2_.other W6 (Ne.symm q2_a1)).other W12 (Ne.symm q2_a1))
  have q16_b2 : b2 ≠ b16 := Nat.ne_of_lt (Nat.lt_of_lt_of_le f18.lt (Nat.le_of_eq g16.symm))
  have u16 : n0 ≤ b16 := Nat.le_trans z13 (Nat.le_of_eq g16.symm)
  have y16 : h0.size ≤ b16 := Nat.le_trans kp13.1 (Nat.le_of_eq g16.symm)
  have z19 : n0 ≤ h16.size := Nat.le_trans z13 E16.1
  have kp19 : Keep h0 h16 [a1] := kp13.ext E16
  have f16_ : own_A Z h16 b16 .int [(.int (0 : Int32)), (.int (0 : Int32)), (.int (0 : Int32)), (.int (0 : Int32))] := A16
  refine own_st (B := T16.setTop (mkF m 35 #[.val (.ref a1), .val (.int (2 : Int32))] [(.ref b16), (.ref a1)])) (fun t k => st16 t k) ?_
  have f20 : Exa Z h16 a1 "com/example/relayframe/relayframe/Palette" := (f17.ext E16)
  have f21 : Fld Z h16 a1 "com/example/relayframe/relayframe/Palette" "slotColours" "[I" .null := ((((F3.ext E2).other W6 (Or.inr (slot_ne (Or.inr (w_20 hw)) (Or.inr (w_11 hw)) (by decide) (t := (.array .int)) (t' := (.array .int)) (by decide) (by decide)))).other W12 (Or.inr (slot_ne (Or.inr (w_20 hw)) (Or.inr (w_18 hw)) (by decide) (t := (.array .int)) (t' := .int) (by decide) (by decide)))).ext E16)
  obtain ⟨T22, h22, X22, e22, W22, st22⟩ := putF X16 hx hZ hown (host := "") (Or.inl (w_19 hw)) Via.refl e16 f21 f20 (Or.inr ⟨(w_20 hw), rfl, hnm⟩) (w_2 hw) (ty := (.array .int)) (by decide) rfl rfl (g := (mkF m 35 #[.val (.ref a1), .val (.int (2 : Int32))] [(.ref b16), (.ref a1)])) rfl rfl (hb hby d1_35)
  have f22_ : Fld Z h22 a1 "com/example/relayframe/relayframe/Palette" "slotColours" "[I" (.ref b16) := f21.same W22
  have z23 : n0 ≤ h22.size := Nat.le_trans z19 (Keep.of_wr W22).1
  have kp23 : Keep h0 h22 [a1] := kp19.wr W22 (Or.inl (List.mem_of_getElem? (i := 0) rfl))
  have n24 := Fr.snoc X22 n14 ga
  refine own_st (B := T22.setTop (mkF m 38 #[.val (.ref a1), .val (.int (2 : Int32))] [])) (fun t k => st22 t k) ?_
  refine own_st (B := T22.setTop (mkF m 39 #[.val (.ref a1), .val (.int (2 : Int32))] [(.ref a1)])) (fun t k => XS.aloadN X22.here hx rfl (hb hby d1_38) rfl rfl k) ?_
  refine own_st (B := T22.setTop (mkF m 40 #[.val (.ref a1), .val (.int (2 : Int32))] [(.int (1 : Int32)), (.ref a1)])) (fun t k => XS.iconst X22.here hx rfl (hb hby d1_39) k) ?_
  refine own_st (B := T22.setTop (mkF m 41 #[.val (.ref a1), .val (.int (2 : Int32))] [(.ref a1), (.int (1 : Int32)), (.ref a1)])) (fun t k => XS.aloadN X22.here hx rfl (hb hby d1_40) rfl rfl k) ?_
  have f25 : Fld Z h22 a1 "com/example/relayframe/relayframe/Palette" "slotBits" "I" (.int ((32 : Int32) - (30 : Int32))) := ((f12_.ext E16).other W22 (Or.inr (slot_ne (Or.inr (w_18 hw)) (Or.inr (w_20 hw)) (by decide) (t := .int) (t' := (.array .int)) (by decide) (by decide))))
  obtain ⟨T26, X26, e26, st26⟩ := getF X22 hx hZ hown (host := "") (Or.inl (w_17 hw)) Via.refl e22 f25 (g := (mkF m 41 #[.val (.ref a1), .val (.int (2 : Int32))] [(.ref a1), (.int (1 : Int32)), (.ref a1)])) rfl rfl (hb hby d1_41)
  refine own_st (B := T26.setTop (mkF m 44 #[.val (.ref a1), .val (.int (2 : Int32))] [(.int ((32 : Int32) - (30 : Int32))), (.int (1 : Int32)), (.ref a1)])) (fun t k => st26 t k) ?_
  refine own_st (B := T26.setTop (mkF m 45 #[.val (.ref a1), .val (.int (2 : Int32))] [(.int ((1 : Int32) <<< (((32 : Int32) - (30 : Int32)) &&& 31))), (.ref a1)])) (fun t k => XS.ishl X26.here hx rfl (hb hby d1_44) rfl k) ?_
  obtain ⟨T27, h27, X27, e27, E27, A27, x27, st27⟩ := own_newP X26 hx hZ (aty := .short) (w_21 hw) e26 (g := (mkF m 45 #[.val (.ref a1), .val (.int (2 : Int32))] [(.int ((1 : Int32) <<< (((32 : Int32) - (30 : Int32)) &&& 31))), (.ref a1)])) rfl (hb hby d1_45) (n := ((1 : Int32) <<< (((32 : Int32) - (30 : Int32)) &&& 31))) (rest := [(.ref a1)]) rfl (k := 4) (cap := 4) (by decide) (Nat.le_refl _) (by decide) (by decide) (by decide) (ad := "[S") rfl
  obtain ⟨b27, g27⟩ : ∃ z, z = h22.size := ⟨_, rfl⟩
  rw [← g27] at A27 x27 st27
  have f28 : Exa Z h22 a1 "com/example/relayframe/relayframe/Palette" := (f20.wr W22)
  have q27_a1 : a1 ≠ b27 := Nat.ne_of_lt (Nat.lt_of_lt_of_le f28.lt (Nat.le_of_eq g27.symm))
  have f29 : own_A Z h22 b2 .int [(.int (0 : Int32)), (.int (0 : Int32))] := ((f18.ext E16).other W22 (Ne.symm q2_a1))
  have q27_b2 : b2 ≠ b27 := Nat.ne_of_lt (Nat.lt_of_lt_of_le f29.lt (Nat.le_of_eq g27.symm))
  have f30 : own_A Z h22 b16 .int [(.int (0 : Int32)), (.int (0 : Int32)), (.int (0 : Int32)), (.int (0 : Int32))] := (f16_.other W22 (Ne.symm q16_a1))
  have q27_b16 : b16 ≠ b27 := Nat.ne_of_lt (Nat.lt_of_lt_of_le f30.lt (Nat.le_of_eq g27.symm))
  have u27 : n0 ≤ b27 := Nat.le_trans z23 (Nat.le_of_eq g27.symm)
  have y27 : h0.size ≤ b27 := Nat.le_trans kp23.1 (Nat.le_of_eq g27.symm)
  have z31 : n0 ≤ h27.size := Nat.le_trans z23 E27.1
  have kp31 : Keep h0 h27 [a1] := kp23.ext E27
  have f27_ : own_A Z h27 b27 .short [(.int (0 : Int32)), (.int (0 : Int32)), (.int (0 : Int32)), (.int (0 : Int32))] := A27
  refine own_st (B := T27.setTop (mkF m 47 #[.val (.ref a1), .val (.int (2 : Int32))] [(.ref b27), (.ref a1)])) (fun t k => st27 t k) ?_
  have f32 : Exa Z h27 a1 "com/example/relayframe/relayframe/Palette" := (f28.ext E27)
  have f33 : Fld Z h27 a1 "com/example/relayframe/relayframe/Palette" "slotIndices" "[S" .null := ((((((F4.ext E2).other W6 (Or.inr (slot_ne (Or.inr (w_23 hw)) (Or.inr (w_11 hw)) (by decide) (t := (.array .short)) (t' := (.array .int)) (by decide) (by decide)))).other W12 (Or.inr (slot_ne (Or.inr (w_23 hw)) (Or.inr (w_18 hw)) (by decide) (t := (.array .short)) (t' := .int) (by decide) (by decide)))).ext E16).other W22 (Or.inr (slot_ne (Or.inr (w_23 hw)) (Or.inr (w_20 hw)) (by decide) (t := (.array .short)) (t' := (.array .int)) (by decide) (by decide)))).ext E27)
  obtain ⟨T34, h34, X34, e34, W34, st34⟩ := putF X27 hx hZ hown (host := "") (Or.inl (w_22 hw)) Via.refl e27 f33 f32 (Or.inr ⟨(w_23 hw), rfl, hnm⟩) (w_2 hw) (ty := (.array .short)) (by decide) rfl rfl (g := (mkF m 47 #[.val (.ref a1), .val (.int (2 : Int32))] [(.ref b27), (.ref a1)])) rfl rfl (hb hby d1_47)
  have f34_ : Fld Z h34 a1 "com/example/relayframe/relayframe/Palette" "slotIndices" "[S" (.ref b27) := f33.same W34
  have z35 : n0 ≤ h34.size := Nat.le_trans z31 (Keep.of_wr W34).1
  have kp35 : Keep h0 h34 [a1] := kp31.wr W34 (Or.inl (List.mem_of_getElem? (i := 0) rfl))
  have n36 := Fr.snoc X34 n24 ga
  refine own_st (B := T34.setTop (mkF m 50 #[.val (.ref a1), .val (.int (2 : Int32))] [])) (fun t k => st34 t k) ?_
  refine own_st (B := T34.setTop (mkF m 51 #[.val (.ref a1), .val (.int (2 : Int32))] [(.ref a1)])) (fun t k => XS.aloadN X34.here hx rfl (hb hby d1_50) rfl rfl k) ?_
  have f37 : Exa Z h34 a1 "com/example/relayframe/relayframe/Palette" := (f32.wr W34)
  have f38 : Fld Z h34 a1 "com/example/relayframe/relayframe/Palette" "colours" "[I" (.ref b2) := (((((f6_.other W12 (Or.inr (slot_ne (Or.inr (w_11 hw)) (Or.inr (w_18 hw)) (by decide) (t := (.array .int)) (t' := .int) (by decide) (by decide)))).ext E16).other W22 (Or.inr (slot_ne (Or.inr (w_11 hw)) (Or.inr (w_20 hw)) (by decide) (t := (.array .int)) (t' := (.array .int)) (by decide) (by decide)))).ext E27).other W34 (Or.inr (slot_ne (Or.inr (w_11 hw)) (Or.inr (w_23 hw)) (by decide) (t := (.array .int)) (t' := (.array .short)) (by decide) (by decide))))
  have f39 : Fld Z h34 a1 "com/example/relayframe/relayframe/Palette" "slotBits" "I" (.int ((32 : Int32) - (30 : Int32))) := ((f25.ext E27).other W34 (Or.inr (slot_ne (Or.inr (w_18 hw)) (Or.inr (w_23 hw)) (by decide) (t := .int) (t' := (.array .short)) (by decide) (by decide))))
  have f40 : Fld Z h34 a1 "com/example/relayframe/relayframe/Palette" "slotColours" "[I" (.ref b16) := ((f22_.ext E27).other W34 (Or.inr (slot_ne (Or.inr (w_20 hw)) (Or.inr (w_23 hw)) (by decide) (t := (.array .int)) (t' := (.array .short)) (by decide) (by decide))))
  have f41 : Fld Z h34 a1 "com/example/relayframe/relayframe/Palette" "size" "I" (.int (0 : Int32)) := (((((((F5.ext E2).other W6 (Or.inr (slot_ne (Or.inl (w_34 hw)) (Or.inr (w_11 hw)) (by decide) (t := .int) (t' := (.array .int)) (by decide) (by decide)))).other W12 (Or.inr (slot_ne (Or.inl (w_34 hw)) (Or.inr (w_18 hw)) (by decide) (t := .int) (t' := .int) (by decide) (by decide)))).ext E16).other W22 (Or.inr (slot_ne (Or.inl (w_34 hw)) (Or.inr (w_20 hw)) (by decide) (t := .int) (t' := (.array .int)) (by decide) (by decide)))).ext E27).other W34 (Or.inr (slot_ne (Or.inl (w_34 hw)) (Or.inr (w_23 hw)) (by decide) (t := .int) (t' := (.array .short)) (by decide) (by decide))))
  have f42 : own_A Z h34 b27 .short [(.int (0 : Int32)), (.int (0 : Int32)), (.int (0 : Int32)), (.int (0 : Int32))] := (f27_.other W34 (Ne.symm q27_a1))
  have f43 : Exa Z h34 b27 "[S" := (x27.wr W34)
  obtain ⟨cq44, kq44, q44a, q44b, q44c⟩ := isOf hZ e34 f37
  obtain ⟨_, _, ⟨T44, L44, k44, j44⟩, -, X44, ⟨Lc44, hQ44, l44, y44_, z44_⟩, st44⟩ := X34.virtualBack hx (y := (⟨"com/example/relayframe/relayframe/Palette", "clear", "()V"⟩ : MethodName)) (z := (⟨"com/example/relayframe/relayframe/Palette", "clear", "()V"⟩ : MethodName)) hown (mvT hZ (w_24 hw)) (mvT hZ (w_25 hw)) (notFace_of_selects (args := #[]) (mvT hZ (w_27 hw))) (mvT hZ (w_27 hw)) (mvT hZ (w_26 hw)) (by decide) (backOf (W := 0) (rm4n4 l Z a0 hw [] a1 b2 b16 b27 ((32 : Int32) - (30 : Int32)) h34 n0 z35 f37 f38 f39 f40 f34_ f41 f42 f43 ga u27) hZ (w_28 hw) (w_3 hw) (by decide) (by decide)) q44a q44c (g := (mkF m 51 #[.val (.ref a1), .val (.int (2 : Int32))] [(.ref a1)])) rfl (by rw [hml]; rfl) (Steps.refl _) (argsL := []) (rest := []) (lenOf own_pd5 rfl) rfl (by show 2 * 0 + _ ≤ _; exact Nat.le_of_eq rfl) (hb hby d1_51) (fun _ _ => ⟨rfl, e34, (by decide : 3 + 0 ≤ _), (by decide : 10 + 0 ≤ _)⟩)
  dsimp only [Pt.U, Pt.locs, Pt.cells, Pt.slots] at X44 l44 y44_ z44_ st44 hQ44
  subst l44 y44_ z44_
  obtain ⟨rfl, N44q, K44, p44_0, p44_1, p44_2, p44_3, p44_4, p44_5⟩ := hQ44
  have N44 := Fr.app n36 N44q
  have z45 : n0 ≤ T44.heap.size := Nat.le_trans z35 K44.1
  have kp45 : Keep h0 T44.heap [a1] := kp35.trans K44 (allS (Or.inl (List.mem_of_getElem? (i := 0) rfl)) (allS (Or.inr y27) all0))
  refine own_ss (B := T44.setTop (mkF m 54 #[.val (.ref a1), .val (.int (2 : Int32))] [])) st44 ?_
  refine own_retV X44 hx hlk Bd.returns (hb hby d1_54) (by decide) (by decide) ?_
  show Q1c2 Z a1 h0 n0 _ T44.heap _
  have f46 : Exa Z T44.heap a1 "com/example/relayframe/relayframe/Palette" := (f37.keep K44)
  have f47 : own_A Z T44.heap b2 .int [(.int (0 : Int32)), (.int (0 : Int32))] := (((f29.ext E27).other W34 (Ne.symm q2_a1)).keep K44 (ninS (Ne.symm q2_a1) (ninS q27_b2 nin0)))
  have f48 : own_A Z T44.heap b16 .int [(.int (0 : Int32)), (.int (0 : Int32)), (.int (0 : Int32)), (.int (0 : Int32))] := (((f30.ext E27).other W34 (Ne.symm q16_a1)).keep K44 (ninS (Ne.symm q16_a1) (ninS q27_b16 nin0)))
  have f49 : Exa Z T44.heap b2 "[I" := (((((((x2.wr W6).wr W12).ext E16).wr W22).ext E27).wr W34).keep K44)
  have f50 : Exa Z T44.heap b16 "[I" := ((((x16.wr W22).ext E27).wr W34).keep K44)
  have f51 : Exa Z T44.heap b27 "[S" := (f43.keep K44)
  exact ⟨b2, b16, b27, rfl, N44, kp45, u2, y2, u16, y16, u27, y27, f46, p44_0, p44_1, p44_2, p44_3, p44_4, f47, f48, p44_5, f49, f50, f51, q16_b2⟩
theorem ef_1c3 (m : MethodId) (x0 : Addr) (x1 : Int32) : entryFrame m #[(.ref x0), (.int x1)] 2 = mkF m 0 #[.val (.ref x0), .val (.int x1)] [] := by first | (simp [entryFrame, mkF, argsToLocals, Value.category]; done) | rfl
def Q1c3 (Z : State) (a1 : Addr) (h0 : Heap) (n0 : Nat) (v : Option Value) (h : Heap) (L : List Loc) : Prop := ∃ (ac : Addr) (asl : Addr) (ai : Addr), v = none ∧ Fr n0 L ∧ Keep h0 h [a1] ∧ n0 ≤ ac ∧ h0.size ≤ ac ∧ n0 ≤ asl ∧ h0.size ≤ asl ∧ n0 ≤ ai ∧ h0.size ≤ ai ∧ Exa Z h a1 "com/example/relayframe/relayframe/Palette" ∧ Fld Z h a1 "com/example/relayframe/relayframe/Palette" "colours" "[I" (.ref ac) ∧ Fld Z h a1 "com/example/relayframe/relayframe/Palette" "slotBits" "I" (.int ((32 : Int32) - (29 : Int32))) ∧ Fld Z h a1 "com/example/relayframe/relayframe/Palette" "slotColours" "[I" (.ref asl) ∧ Fld Z h a1 "com/example/relayframe/relayframe/Palette" "slotIndices" "[S" (.ref ai) ∧ Fld Z h a1 "com/example/relayframe/relayframe/Palette" "size" "I" (.int (0 : Int32)) ∧ own_A Z h ac .int [(.int (0 : Int32)), (.int (0 : Int32)), (.int (0 : Int32))] ∧ own_A Z h asl .int [(.int (0 : Int32)), (.int (0 : Int32)), (.int (0 : Int32)), (.int (0 : Int32)), (.int (0 : Int32)), (.int (0 : Int32)), (.int (0 : Int32)), (.int (0 : Int32))] ∧ own_A Z h ai .short [(.int ((-1 : Int32).toInt16.toInt32)), (.int ((-1 : Int32).toInt16.toInt32)), (.int ((-1 : Int32).toInt16.toInt32)), (.int ((-1 : Int32).toInt16.toInt32)), (.int ((-1 : Int32).toInt16.toInt32)), (.int ((-1 : Int32).toInt16.toInt32)), (.int ((-1 : Int32).toInt16.toInt32)), (.int ((-1 : Int32).toInt16.toInt32))] ∧ Exa Z h ac "[I" ∧ Exa Z h asl "[I" ∧ Exa Z h ai "[S" ∧ (ac ≠ asl)
set_option maxHeartbeats 40000000 in
theorem rm1c3 (l : Launch) (Z : State) (a0 : Array Value) (hw : ∀ d ∈ tables_1, d.before a0 Z = true) (ws : List Jvm.Cond) (a1 : Addr) (h0 : Heap) (n0 : Nat) (Z0 : n0 ≤ h0.size) (F0 : Exa Z h0 a1 "com/example/relayframe/relayframe/Palette") (F1 : Fld Z h0 a1 "com/example/relayframe/relayframe/Palette" "colours" "[I" .null) (F2 : Fld Z h0 a1 "com/example/relayframe/relayframe/Palette" "slotBits" "I" (.int (0 : Int32))) (F3 : Fld Z h0 a1 "com/example/relayframe/relayframe/Palette" "slotColours" "[I" .null) (F4 : Fld Z h0 a1 "com/example/relayframe/relayframe/Palette" "slotIndices" "[S" .null) (F5 : Fld Z h0 a1 "com/example/relayframe/relayframe/Palette" "size" "I" (.int (0 : Int32))) (ga : n0 ≤ a1) :
    MetFree l (⟨"com/example/relayframe/relayframe/Palette", "<init>", "(I)V"⟩ : MethodName) (head1 (Jvm.Cond.code (⟨"com/example/relayframe/relayframe/Palette", "<init>", "(I)V"⟩ : MethodName) prog_3_method_1_code 2 none :: ws) ({ frames := 2, cells := 3, slots := 19, locals := 27 } : Room)) (fun a U => a = #[(.ref a1), (.int (3 : Int32))] ∧ Z.Warmed39 U.vm ∧ U.heap = h0) (fun _ _ _ _ _ => True) (fun _ U o U' => ∃ v L, o = .returned v ∧ Q1c3 Z a1 h0 n0 v U'.heap L ∧ FrameEnd U o U' L ({ frames := 2, cells := 3, slots := 19, locals := 27 } : Room).cells ({ frames := 2, cells := 3, slots := 19, locals := 27 } : Room).slots) := by
  refine MetFree.of_bodySF (plainFor_of_name own_pn3) hisR ?_
  intro p e s m args below meth c s₁ Bd hml0 hP hK
  obtain ⟨rfl, hZ, hh⟩ := hP
  have hx := Bd.exec
  have hby := Bd.bytes
  have hml : c.maxLocals = 2 := hml0
  have hlk : meth.locks = false := BodyLoose.notSynchronized Bd
  have hown : s.vm.findClass "com/example/relayframe/relayframe/Palette" = some m.cls := findClass_of_methodNamed Bd.named
  have hnm := (name_of_methodNamed Bd.named Bd.method).1
  have X0 : Stand p l e ({ frames := 2, cells := 3, slots := 19, locals := 27 } : Room) s m #[(.ref a1), (.int (3 : Int32))] below meth c s₁ [] 0 0 := Stand.of_body Bd
  have e0 : s₁.heap = h0 := by rw [← hh, Bd.state]; rfl
  have N0 := Fr.nil n0
  show own_Go p e below s (Q1c3 Z a1 h0 n0) ({ frames := 2, cells := 3, slots := 19, locals := 27 } : Room).cells ({ frames := 2, cells := 3, slots := 19, locals := 27 } : Room).slots _
  refine own_st (B := s₁.setTop (mkF m 0 #[.val (.ref a1), .val (.int (3 : Int32))] [])) (fun t k => castTop (ef_1c3 m (a1) ((3 : Int32))) k) ?_
  refine own_st (B := s₁.setTop (mkF m 1 #[.val (.ref a1), .val (.int (3 : Int32))] [(.ref a1)])) (fun t k => XS.aloadN X0.here hx rfl (hb hby d1_0) rfl rfl k) ?_
  obtain ⟨T1, X1, e1, st1⟩ := initO X0 hx hZ hown (w_7 hw) (w_8 hw) (w_9 hw) e0 (g := (mkF m 1 #[.val (.ref a1), .val (.int (3 : Int32))] [(.ref a1)])) rfl (by rw [hml]; rfl) rfl (hb hby d1_1) (by decide) (W := 0) (by show 2 * 0 + _ ≤ _; exact Nat.le_of_eq rfl) (by decide)
  refine own_st (B := T1.setTop (mkF m 4 #[.val (.ref a1), .val (.int (3 : Int32))] [])) (fun t k => st1 t k) ?_
  refine own_st (B := T1.setTop (mkF m 5 #[.val (.ref a1), .val (.int (3 : Int32))] [(.ref a1)])) (fun t k => XS.aloadN X1.here hx rfl (hb hby d1_4) rfl rfl k) ?_
  refine own_st (B := T1.setTop (mkF m 6 #[.val (.ref a1), .val (.int (3 : Int32))] [(.int (3 : Int32)), (.ref a1)])) (fun t k => XS.iloadN X1.here hx rfl (hb hby d1_5) rfl k) ?_
  obtain ⟨T2, h2, X2, e2, E2, A2, x2, st2⟩ := own_newP X1 hx hZ (aty := .int) (w_0 hw) e1 (g := (mkF m 6 #[.val (.ref a1), .val (.int (3 : Int32))] [(.int (3 : Int32)), (.ref a1)])) rfl (hb hby d1_6) (n := (3 : Int32)) (rest := [(.ref a1)]) rfl (k := 3) (cap := 3) (by decide) (Nat.le_refl _) (by decide) (by decide) (by decide) (ad := "[I") rfl
  obtain ⟨b2, g2⟩ : ∃ z, z = h0.size := ⟨_, rfl⟩
  rw [← g2] at A2 x2 st2
  have q2_a1 : a1 ≠ b2 := Nat.ne_of_lt (Nat.lt_of_lt_of_le F0.lt (Nat.le_of_eq g2.symm))
  have u2 : n0 ≤ b2 := Nat.le_trans Z0 (Nat.le_of_eq g2.symm)
  have y2 : h0.size ≤ b2 := Nat.le_trans (Keep.refl h0 [a1]).1 (Nat.le_of_eq g2.symm)
  have z3 : n0 ≤ h2.size := Nat.le_trans Z0 E2.1
  have kp3 : Keep h0 h2 [a1] := (Keep.refl h0 [a1]).ext E2
  have f2_ : own_A Z h2 b2 .int [(.int (0 : Int32)), (.int (0 : Int32)), (.int (0 : Int32))] := A2
  refine own_st (B := T2.setTop (mkF m 8 #[.val (.ref a1), .val (.int (3 : Int32))] [(.ref b2), (.ref a1)])) (fun t k => st2 t k) ?_
  have f4 : Exa Z h2 a1 "com/example/relayframe/relayframe/Palette" := (F0.ext E2)
  have f5 : Fld Z h2 a1 "com/example/relayframe/relayframe/Palette" "colours" "[I" .null := (F1.ext E2)
  obtain ⟨T6, h6, X6, e6, W6, st6⟩ := putF X2 hx hZ hown (host := "") (Or.inl (w_10 hw)) Via.refl e2 f5 f4 (Or.inr ⟨(w_11 hw), rfl, hnm⟩) (w_2 hw) (ty := (.array .int)) (by decide) rfl rfl (g := (mkF m 8 #[.val (.ref a1), .val (.int (3 : Int32))] [(.ref b2), (.ref a1)])) rfl rfl (hb hby d1_8)
  have f6_ : Fld Z h6 a1 "com/example/relayframe/relayframe/Palette" "colours" "[I" (.ref b2) := f5.same W6
  have z7 : n0 ≤ h6.size := Nat.le_trans z3 (Keep.of_wr W6).1
  have kp7 : Keep h0 h6 [a1] := kp3.wr W6 (Or.inl (List.mem_of_getElem? (i := 0) rfl))
  have n8 := Fr.snoc X6 N0 ga
  refine own_st (B := T6.setTop (mkF m 11 #[.val (.ref a1), .val (.int (3 : Int32))] [])) (fun t k => st6 t k) ?_
  refine own_st (B := T6.setTop (mkF m 12 #[.val (.ref a1), .val (.int (3 : Int32))] [(.ref a1)])) (fun t k => XS.aloadN X6.here hx rfl (hb hby d1_11) rfl rfl k) ?_
  refine own_st (B := T6.setTop (mkF m 14 #[.val (.ref a1), .val (.int (3 : Int32))] [(.int (32 : Int32)), (.ref a1)])) (fun t k => XS.bipush X6.here hx rfl (hb hby d1_12) k) ?_
  refine own_st (B := T6.setTop (mkF m 15 #[.val (.ref a1), .val (.int (3 : Int32))] [(.int (2 : Int32)), (.int (32 : Int32)), (.ref a1)])) (fun t k => XS.iconst X6.here hx rfl (hb hby d1_14) k) ?_
  refine own_st (B := T6.setTop (mkF m 16 #[.val (.ref a1), .val (.int (3 : Int32))] [(.int (3 : Int32)), (.int (2 : Int32)), (.int (32 : Int32)), (.ref a1)])) (fun t k => XS.iloadN X6.here hx rfl (hb hby d1_15) rfl k) ?_
  refine own_st (B := T6.setTop (mkF m 17 #[.val (.ref a1), .val (.int (3 : Int32))] [(.int ((2 : Int32) * (3 : Int32))), (.int (32 : Int32)), (.ref a1)])) (fun t k => XS.imul X6.here hx rfl (hb hby d1_16) rfl k) ?_
  refine own_st (B := T6.setTop (mkF m 18 #[.val (.ref a1), .val (.int (3 : Int32))] [(.int (1 : Int32)), (.int ((2 : Int32) * (3 : Int32))), (.int (32 : Int32)), (.ref a1)])) (fun t k => XS.iconst X6.here hx rfl (hb hby d1_17) k) ?_
  refine own_st (B := T6.setTop (mkF m 19 #[.val (.ref a1), .val (.int (3 : Int32))] [(.int (((2 : Int32) * (3 : Int32)) - (1 : Int32))), (.int (32 : Int32)), (.ref a1)])) (fun t k => XS.isub X6.here hx rfl (hb hby d1_18) rfl k) ?_
  obtain ⟨_, _, ⟨T9, L9, k9, j9⟩, -, X9, ⟨Lc9, hQ9, l9, y9_, z9_⟩, st9⟩ := Jvm.LawKit.callS X6 hx (y := (⟨"java/lang/Integer", "numberOfLeadingZeros", "(I)I"⟩ : MethodName)) hown (mvT hZ (w_12 hw)) (mvT hZ (w_13 hw)) (mvT hZ (w_14 hw)) (mvT hZ (w_15 hw)) (by decide) (backOf (W := 2) (rm3c3 l Z a0 hw []  h6 n0 z7 ) hZ (w_15 hw) (w_14 hw) (by decide) (by decide)) (g := (mkF m 19 #[.val (.ref a1), .val (.int (3 : Int32))] [(.int (((2 : Int32) * (3 : Int32)) - (1 : Int32))), (.int (32 : Int32)), (.ref a1)])) rfl (by rw [hml]; rfl) (argsL := [(.int (((2 : Int32) * (3 : Int32)) - (1 : Int32)))]) (rest := [(.int (32 : Int32)), (.ref a1)]) (lenOf own_pd4 rfl) rfl (by show 2 * 0 + _ ≤ _; exact Nat.le_of_eq rfl) (hb hby d1_19) (fun _ _ => ⟨rfl, e6, (by decide : 1 + 0 ≤ _), (by decide : 3 + 0 ≤ _)⟩)
  dsimp only [Pt.U, Pt.locs, Pt.cells, Pt.slots] at X9 l9 y9_ z9_ st9 hQ9
  subst l9 y9_ z9_
  obtain ⟨rfl, N9q, e9q⟩ := hQ9
  have N9 := Fr.app n8 N9q
  refine own_st (B := T9.setTop (mkF m 22 #[.val (.ref a1), .val (.int (3 : Int32))] [(.int (29 : Int32)), (.int (32 : Int32)), (.ref a1)])) (fun t k => st9 t k) ?_
  refine own_st (B := T9.setTop (mkF m 23 #[.val (.ref a1), .val (.int (3 : Int32))] [(.int ((32 : Int32) - (29 : Int32))), (.ref a1)])) (fun t k => XS.isub X9.here hx rfl (hb hby d1_22) rfl k) ?_
  have f10 : Exa Z h6 a1 "com/example/relayframe/relayframe/Palette" := (f4.wr W6)
  have f11 : Fld Z h6 a1 "com/example/relayframe/relayframe/Palette" "slotBits" "I" (.int (0 : Int32)) := ((F2.ext E2).other W6 (Or.inr (slot_ne (Or.inr (w_18 hw)) (Or.inr (w_11 hw)) (by decide) (t := .int) (t' := (.array .int)) (by decide) (by decide))))
  obtain ⟨T12, h12, X12, e12, W12, st12⟩ := putF X9 hx hZ hown (host := "") (Or.inl (w_17 hw)) Via.refl e9q f11 f10 (Or.inr ⟨(w_18 hw), rfl, hnm⟩) (w_2 hw) (ty := .int) (by decide) rfl rfl (g := (mkF m 23 #[.val (.ref a1), .val (.int (3 : Int32))] [(.int ((32 : Int32) - (29 : Int32))), (.ref a1)])) rfl rfl (hb hby d1_23)
  have f12_ : Fld Z h12 a1 "com/example/relayframe/relayframe/Palette" "slotBits" "I" (.int ((32 : Int32) - (29 : Int32))) := f11.same W12
  have z13 : n0 ≤ h12.size := Nat.le_trans z7 (Keep.of_wr W12).1
  have kp13 : Keep h0 h12 [a1] := kp7.wr W12 (Or.inl (List.mem_of_getElem? (i := 0) rfl))
  have n14 := Fr.snoc X12 N9 ga
  refine own_st (B := T12.setTop (mkF m 26 #[.val (.ref a1), .val (.int (3 : Int32))] [])) (fun t k => st12 t k) ?_
  refine own_st (B := T12.setTop (mkF m 27 #[.val (.ref a1), .val (.int (3 : Int32))] [(.ref a1)])) (fun t k => XS.aloadN X12.here hx rfl (hb hby d1_26) rfl rfl k) ?_
  refine own_st (B := T12.setTop (mkF m 28 #[.val (.ref a1), .val (.int (3 : Int32))] [(.int (1 : Int32)), (.ref a1)])) (fun t k => XS.iconst X12.here hx rfl (hb hby d1_27) k) ?_
  refine own_st (B := T12.setTop (mkF m 29 #[.val (.ref a1), .val (.int (3 : Int32))] [(.ref a1), (.int (1 : Int32)), (.ref a1)])) (fun t k => XS.aloadN X12.here hx rfl (hb hby d1_28) rfl rfl k) ?_
  obtain ⟨T15, X15, e15, st15⟩ := getF X12 hx hZ hown (host := "") (Or.inl (w_17 hw)) Via.refl e12 f12_ (g := (mkF m 29 #[.val (.ref a1), .val (.int (3 : Int32))] [(.ref a1), (.int (1 : Int32)), (.ref a1)])) rfl rfl (hb hby d1_29)
  refine own_st (B := T15.setTop (mkF m 32 #[.val (.ref a1), .val (.int (3 : Int32))] [(.int ((32 : Int32) - (29 : Int32))), (.int (1 : Int32)), (.ref a1)])) (fun t k => st15 t k) ?_
  refine own_st (B := T15.setTop (mkF m 33 #[.val (.ref a1), .val (.int (3 : Int32))] [(.int ((1 : Int32) <<< (((32 : Int32) - (29 : Int32)) &&& 31))), (.ref a1)])) (fun t k => XS.ishl X15.here hx rfl (hb hby d1_32) rfl k) ?_
  obtain ⟨T16, h16, X16, e16, E16, A16, x16, st16⟩ := own_newP X15 hx hZ (aty := .int) (w_0 hw) e15 (g := (mkF m 33 #[.val (.ref a1), .val (.int (3 : Int32))] [(.int ((1 : Int32) <<< (((32 : Int32) - (29 : Int32)) &&& 31))), (.ref a1)])) rfl (hb hby d1_33) (n := ((1 : Int32) <<< (((32 : Int32) - (29 : Int32)) &&& 31))) (rest := [(.ref a1)]) rfl (k := 8) (cap := 8) (by decide) (Nat.le_refl _) (by decide) (by decide) (by decide) (ad := "[I") rfl
  obtain ⟨b16, g16⟩ : ∃ z, z = h12.size := ⟨_, rfl⟩
  rw [← g16] at A16 x16 st16
  have f17 : Exa Z h12 a1 "com/example/relayframe/relayframe/Palette" := (f10.wr W12)
  have q16_a1 : a1 ≠ b16 := Nat.ne_of_lt (Nat.lt_of_lt_of_le f17.lt (Nat.le_of_eq g16.symm))
  have f18 : own_A Z h12 b2 .int [(.int (0 : Int32)), (.int (0 : Int32)), (.int (0 : Int32))] := ((f2_.other W6 (Ne.symm q2_a1)).other W12 (Ne.symm q2_a1))
  have q16_b2 : b2 ≠ b16 := Nat.ne_of_lt (Nat.lt_of_lt_of_le f18.lt (Nat.le_of_eq g16.symm))
  have u16 : n0 ≤ b16 := Nat.le_trans z13 (Nat.le_of_eq g16.symm)
  have y16 : h0.size ≤ b16 := Nat.le_trans kp13.1 (Nat.le_of_eq g16.symm)
  have z19 : n0 ≤ h16.size := Nat.le_trans z13 E16.1
  have kp19 : Keep h0 h16 [a1] := kp13.ext E16
  have f16_ : own_A Z h16 b16 .int [(.int (0 : Int32)), (.int (0 : Int32)), (.int (0 : Int32)), (.int (0 : Int32)), (.int (0 : Int32)), (.int (0 : Int32)), (.int (0 : Int32)), (.int (0 : Int32))] := A16
  refine own_st (B := T16.setTop (mkF m 35 #[.val (.ref a1), .val (.int (3 : Int32))] [(.ref b16), (.ref a1)])) (fun t k => st16 t k) ?_
  have f20 : Exa Z h16 a1 "com/example/relayframe/relayframe/Palette" := (f17.ext E16)
  have f21 : Fld Z h16 a1 "com/example/relayframe/relayframe/Palette" "slotColours" "[I" .null := ((((F3.ext E2).other W6 (Or.inr (slot_ne (Or.inr (w_20 hw)) (Or.inr (w_11 hw)) (by decide) (t := (.array .int)) (t' := (.array .int)) (by decide) (by decide)))).other W12 (Or.inr (slot_ne (Or.inr (w_20 hw)) (Or.inr (w_18 hw)) (by decide) (t := (.array .int)) (t' := .int) (by decide) (by decide)))).ext E16)
  obtain ⟨T22, h22, X22, e22, W22, st22⟩ := putF X16 hx hZ hown (host := "") (Or.inl (w_19 hw)) Via.refl e16 f21 f20 (Or.inr ⟨(w_20 hw), rfl, hnm⟩) (w_2 hw) (ty := (.array .int)) (by decide) rfl rfl (g := (mkF m 35 #[.val (.ref a1), .val (.int (3 : Int32))] [(.ref b16), (.ref a1)])) rfl rfl (hb hby d1_35)
  have f22_ : Fld Z h22 a1 "com/example/relayframe/relayframe/Palette" "slotColours" "[I" (.ref b16) := f21.same W22
  have z23 : n0 ≤ h22.size := Nat.le_trans z19 (Keep.of_wr W22).1
  have kp23 : Keep h0 h22 [a1] := kp19.wr W22 (Or.inl (List.mem_of_getElem? (i := 0) rfl))
  have n24 := Fr.snoc X22 n14 ga
  refine own_st (B := T22.setTop (mkF m 38 #[.val (.ref a1), .val (.int (3 : Int32))] [])) (fun t k => st22 t k) ?_
  refine own_st (B := T22.setTop (mkF m 39 #[.val (.ref a1), .val (.int (3 : Int32))] [(.ref a1)])) (fun t k => XS.aloadN X22.here hx rfl (hb hby d1_38) rfl rfl k) ?_
  refine own_st (B := T22.setTop (mkF m 40 #[.val (.ref a1), .val (.int (3 : Int32))] [(.int (1 : Int32)), (.ref a1)])) (fun t k => XS.iconst X22.here hx rfl (hb hby d1_39) k) ?_
  refine own_st (B := T22.setTop (mkF m 41 #[.val (.ref a1), .val (.int (3 : Int32))] [(.ref a1), (.int (1 : Int32)), (.ref a1)])) (fun t k => XS.aloadN X22.here hx rfl (hb hby d1_40) rfl rfl k) ?_
  have f25 : Fld Z h22 a1 "com/example/relayframe/relayframe/Palette" "slotBits" "I" (.int ((32 : Int32) - (29 : Int32))) := ((f12_.ext E16).other W22 (Or.inr (slot_ne (Or.inr (w_18 hw)) (Or.inr (w_20 hw)) (by decide) (t := .int) (t' := (.array .int)) (by decide) (by decide))))
  obtain ⟨T26, X26, e26, st26⟩ := getF X22 hx hZ hown (host := "") (Or.inl (w_17 hw)) Via.refl e22 f25 (g := (mkF m 41 #[.val (.ref a1), .val (.int (3 : Int32))] [(.ref a1), (.int (1 : Int32)), (.ref a1)])) rfl rfl (hb hby d1_41)
  refine own_st (B := T26.setTop (mkF m 44 #[.val (.ref a1), .val (.int (3 : Int32))] [(.int ((32 : Int32) - (29 : Int32))), (.int (1 : Int32)), (.ref a1)])) (fun t k => st26 t k) ?_
  refine own_st (B := T26.setTop (mkF m 45 #[.val (.ref a1), .val (.int (3 : Int32))] [(.int ((1 : Int32) <<< (((32 : Int32) - (29 : Int32)) &&& 31))), (.ref a1)])) (fun t k => XS.ishl X26.here hx rfl (hb hby d1_44) rfl k) ?_
  obtain ⟨T27, h27, X27, e27, E27, A27, x27, st27⟩ := own_newP X26 hx hZ (aty := .short) (w_21 hw) e26 (g := (mkF m 45 #[.val (.ref a1), .val (.int (3 : Int32))] [(.int ((1 : Int32) <<< (((32 : Int32) - (29 : Int32)) &&& 31))), (.ref a1)])) rfl (hb hby d1_45) (n := ((1 : Int32) <<< (((32 : Int32) - (29 : Int32)) &&& 31))) (rest := [(.ref a1)]) rfl (k := 8) (cap := 8) (by decide) (Nat.le_refl _) (by decide) (by decide) (by decide) (ad := "[S") rfl
  obtain ⟨b27, g27⟩ : ∃ z, z = h22.size := ⟨_, rfl⟩
  rw [← g27] at A27 x27 st27
  have f28 : Exa Z h22 a1 "com/example/relayframe/relayframe/Palette" := (f20.wr W22)
  have q27_a1 : a1 ≠ b27 := Nat.ne_of_lt (Nat.lt_of_lt_of_le f28.lt (Nat.le_of_eq g27.symm))
  have f29 : own_A Z h22 b2 .int [(.int (0 : Int32)), (.int (0 : Int32)), (.int (0 : Int32))] := ((f18.ext E16).other W22 (Ne.symm q2_a1))
  have q27_b2 : b2 ≠ b27 := Nat.ne_of_lt (Nat.lt_of_lt_of_le f29.lt (Nat.le_of_eq g27.symm))
  have f30 : own_A Z h22 b16 .int [(.int (0 : Int32)), (.int (0 : Int32)), (.int (0 : Int32)), (.int (0 : Int32)), (.int (0 : Int32)), (.int (0 : Int32)), (.int (0 : Int32)), (.int (0 : Int32))] := (f16_.other W22 (Ne.symm q16_a1))
  have q27_b16 : b16 ≠ b27 := Nat.ne_of_lt (Nat.lt_of_lt_of_le f30.lt (Nat.le_of_eq g27.symm))
  have u27 : n0 ≤ b27 := Nat.le_trans z23 (Nat.le_of_eq g27.symm)
  have y27 : h0.size ≤ b27 := Nat.le_trans kp23.1 (Nat.le_of_eq g27.symm)
  have z31 : n0 ≤ h27.size := Nat.le_trans z23 E27.1
  have kp31 : Keep h0 h27 [a1] := kp23.ext E27
  have f27_ : own_A Z h27 b27 .short [(.int (0 : Int32)), (.int (0 : Int32)), (.int (0 : Int32)), (.int (0 : Int32)), (.int (0 : Int32)), (.int (0 : Int32)), (.int (0 : Int32)), (.int (0 : Int32))] := A27
  refine own_st (B := T27.setTop (mkF m 47 #[.val (.ref a1), .val (.int (3 : Int32))] [(.ref b27), (.ref a1)])) (fun t k => st27 t k) ?_
  have f32 : Exa Z h27 a1 "com/example/relayframe/relayframe/Palette" := (f28.ext E27)
  have f33 : Fld Z h27 a1 "com/example/relayframe/relayframe/Palette" "slotIndices" "[S" .null := ((((((F4.ext E2).other W6 (Or.inr (slot_ne (Or.inr (w_23 hw)) (Or.inr (w_11 hw)) (by decide) (t := (.array .short)) (t' := (.array .int)) (by decide) (by decide)))).other W12 (Or.inr (slot_ne (Or.inr (w_23 hw)) (Or.inr (w_18 hw)) (by decide) (t := (.array .short)) (t' := .int) (by decide) (by decide)))).ext E16).other W22 (Or.inr (slot_ne (Or.inr (w_23 hw)) (Or.inr (w_20 hw)) (by decide) (t := (.array .short)) (t' := (.array .int)) (by decide) (by decide)))).ext E27)
  obtain ⟨T34, h34, X34, e34, W34, st34⟩ := putF X27 hx hZ hown (host := "") (Or.inl (w_22 hw)) Via.refl e27 f33 f32 (Or.inr ⟨(w_23 hw), rfl, hnm⟩) (w_2 hw) (ty := (.array .short)) (by decide) rfl rfl (g := (mkF m 47 #[.val (.ref a1), .val (.int (3 : Int32))] [(.ref b27), (.ref a1)])) rfl rfl (hb hby d1_47)
  have f34_ : Fld Z h34 a1 "com/example/relayframe/relayframe/Palette" "slotIndices" "[S" (.ref b27) := f33.same W34
  have z35 : n0 ≤ h34.size := Nat.le_trans z31 (Keep.of_wr W34).1
  have kp35 : Keep h0 h34 [a1] := kp31.wr W34 (Or.inl (List.mem_of_getElem? (i := 0) rfl))
  have n36 := Fr.snoc X34 n24 ga
  refine own_st (B := T34.setTop (mkF m 50 #[.val (.ref a1), .val (.int (3 : Int32))] [])) (fun t k => st34 t k) ?_
  refine own_st (B := T34.setTop (mkF m 51 #[.val (.ref a1), .val (.int (3 : Int32))] [(.ref a1)])) (fun t k => XS.aloadN X34.here hx rfl (hb hby d1_50) rfl rfl k) ?_
  have f37 : Exa Z h34 a1 "com/example/relayframe/relayframe/Palette" := (f32.wr W34)
  have f38 : Fld Z h34 a1 "com/example/relayframe/relayframe/Palette" "colours" "[I" (.ref b2) := (((((f6_.other W12 (Or.inr (slot_ne (Or.inr (w_11 hw)) (Or.inr (w_18 hw)) (by decide) (t := (.array .int)) (t' := .int) (by decide) (by decide)))).ext E16).other W22 (Or.inr (slot_ne (Or.inr (w_11 hw)) (Or.inr (w_20 hw)) (by decide) (t := (.array .int)) (t' := (.array .int)) (by decide) (by decide)))).ext E27).other W34 (Or.inr (slot_ne (Or.inr (w_11 hw)) (Or.inr (w_23 hw)) (by decide) (t := (.array .int)) (t' := (.array .short)) (by decide) (by decide))))
  have f39 : Fld Z h34 a1 "com/example/relayframe/relayframe/Palette" "slotBits" "I" (.int ((32 : Int32) - (29 : Int32))) := ((f25.ext E27).other W34 (Or.inr (slot_ne (Or.inr (w_18 hw)) (Or.inr (w_23 hw)) (by decide) (t := .int) (t' := (.array .short)) (by decide) (by decide))))
  have f40 : Fld Z h34 a1 "com/example/relayframe/relayframe/Palette" "slotColours" "[I" (.ref b16) := ((f22_.ext E27).other W34 (Or.inr (slot_ne (Or.inr (w_20 hw)) (Or.inr (w_23 hw)) (by decide) (t := (.array .int)) (t' := (.array .short)) (by decide) (by decide))))
  have f41 : Fld Z h34 a1 "com/example/relayframe/relayframe/Palette" "size" "I" (.int (0 : Int32)) := (((((((F5.ext E2).other W6 (Or.inr (slot_ne (Or.inl (w_34 hw)) (Or.inr (w_11 hw)) (by decide) (t := .int) (t' := (.array .int)) (by decide) (by decide)))).other W12 (Or.inr (slot_ne (Or.inl (w_34 hw)) (Or.inr (w_18 hw)) (by decide) (t := .int) (t' := .int) (by decide) (by decide)))).ext E16).other W22 (Or.inr (slot_ne (Or.inl (w_34 hw)) (Or.inr (w_20 hw)) (by decide) (t := .int) (t' := (.array .int)) (by decide) (by decide)))).ext E27).other W34 (Or.inr (slot_ne (Or.inl (w_34 hw)) (Or.inr (w_23 hw)) (by decide) (t := .int) (t' := (.array .short)) (by decide) (by decide))))
  have f42 : own_A Z h34 b27 .short [(.int (0 : Int32)), (.int (0 : Int32)), (.int (0 : Int32)), (.int (0 : Int32)), (.int (0 : Int32)), (.int (0 : Int32)), (.int (0 : Int32)), (.int (0 : Int32))] := (f27_.other W34 (Ne.symm q27_a1))
  have f43 : Exa Z h34 b27 "[S" := (x27.wr W34)
  obtain ⟨cq44, kq44, q44a, q44b, q44c⟩ := isOf hZ e34 f37
  obtain ⟨_, _, ⟨T44, L44, k44, j44⟩, -, X44, ⟨Lc44, hQ44, l44, y44_, z44_⟩, st44⟩ := X34.virtualBack hx (y := (⟨"com/example/relayframe/relayframe/Palette", "clear", "()V"⟩ : MethodName)) (z := (⟨"com/example/relayframe/relayframe/Palette", "clear", "()V"⟩ : MethodName)) hown (mvT hZ (w_24 hw)) (mvT hZ (w_25 hw)) (notFace_of_selects (args := #[]) (mvT hZ (w_27 hw))) (mvT hZ (w_27 hw)) (mvT hZ (w_26 hw)) (by decide) (backOf (W := 0) (rm4n8 l Z a0 hw [] a1 b2 b16 b27 ((32 : Int32) - (29 : Int32)) h34 n0 z35 f37 f38 f39 f40 f34_ f41 f42 f43 ga u27) hZ (w_28 hw) (w_3 hw) (by decide) (by decide)) q44a q44c (g := (mkF m 51 #[.val (.ref a1), .val (.int (3 : Int32))] [(.ref a1)])) rfl (by rw [hml]; rfl) (Steps.refl _) (argsL := []) (rest := []) (lenOf own_pd5 rfl) rfl (by show 2 * 0 + _ ≤ _; exact Nat.le_of_eq rfl) (hb hby d1_51) (fun _ _ => ⟨rfl, e34, (by decide : 3 + 0 ≤ _), (by decide : 19 + 0 ≤ _)⟩)
  dsimp only [Pt.U, Pt.locs, Pt.cells, Pt.slots] at X44 l44 y44_ z44_ st44 hQ44
  subst l44 y44_ z44_
  obtain ⟨rfl, N44q, K44, p44_0, p44_1, p44_2, p44_3, p44_4, p44_5⟩ := hQ44
  have N44 := Fr.app n36 N44q
  have z45 : n0 ≤ T44.heap.size := Nat.le_trans z35 K44.1
  have kp45 : Keep h0 T44.heap [a1] := kp35.trans K44 (allS (Or.inl (List.mem_of_getElem? (i := 0) rfl)) (allS (Or.inr y27) all0))
  refine own_ss (B := T44.setTop (mkF m 54 #[.val (.ref a1), .val (.int (3 : Int32))] [])) st44 ?_
  refine own_retV X44 hx hlk Bd.returns (hb hby d1_54) (by decide) (by decide) ?_
  show Q1c3 Z a1 h0 n0 _ T44.heap _
  have f46 : Exa Z T44.heap a1 "com/example/relayframe/relayframe/Palette" := (f37.keep K44)
  have f47 : own_A Z T44.heap b2 .int [(.int (0 : Int32)), (.int (0 : Int32)), (.int (0 : Int32))] := (((f29.ext E27).other W34 (Ne.symm q2_a1)).keep K44 (ninS (Ne.symm q2_a1) (ninS q27_b2 nin0)))
  have f48 : own_A Z T44.heap b16 .int [(.int (0 : Int32)), (.int (0 : Int32)), (.int (0 : Int32)), (.int (0 : Int32)), (.int (0 : Int32)), (.int (0 : Int32)), (.int (0 : Int32)), (.int (0 : Int32))] := (((f30.ext E27).other W34 (Ne.symm q16_a1)).keep K44 (ninS (Ne.symm q16_a1) (ninS q27_b16 nin0)))
  have f49 : Exa Z T44.heap b2 "[I" := (((((((x2.wr W6).wr W12).ext E16).wr W22).ext E27).wr W34).keep K44)
  have f50 : Exa Z T44.heap b16 "[I" := ((((x16.wr W22).ext E27).wr W34).keep K44)
  have f51 : Exa Z T44.heap b27 "[S" := (f43.keep K44)
  exact ⟨b2, b16, b27, rfl, N44, kp45, u2, y2, u16, y16, u27, y27, f46, p44_0, p44_1, p44_2, p44_3, p44_4, f47, f48, p44_5, f49, f50, f51, q16_b2⟩
theorem ef_1c4 (m : MethodId) (x0 : Addr) (x1 : Int32) : entryFrame m #[(.ref x0), (.int x1)] 2 = mkF m 0 #[.val (.ref x0), .val (.int x1)] [] := by first | (simp [entryFrame, mkF, argsToLocals, Value.category]; done) | rfl
def Q1c4 (Z : State) (a1 : Addr) (h0 : Heap) (n0 : Nat) (v : Option Value) (h : Heap) (L : List Loc) : Prop := ∃ (ac : Addr) (asl : Addr) (ai : Addr), v = none ∧ Fr n0 L ∧ Keep h0 h [a1] ∧ n0 ≤ ac ∧ h0.size ≤ ac ∧ n0 ≤ asl ∧ h0.size ≤ asl ∧ n0 ≤ ai ∧ h0.size ≤ ai ∧ Exa Z h a1 "com/example/relayframe/relayframe/Palette" ∧ Fld Z h a1 "com/example/relayframe/relayframe/Palette" "colours" "[I" (.ref ac) ∧ Fld Z h a1 "com/example/relayframe/relayframe/Palette" "slotBits" "I" (.int ((32 : Int32) - (29 : Int32))) ∧ Fld Z h a1 "com/example/relayframe/relayframe/Palette" "slotColours" "[I" (.ref asl) ∧ Fld Z h a1 "com/example/relayframe/relayframe/Palette" "slotIndices" "[S" (.ref ai) ∧ Fld Z h a1 "com/example/relayframe/relayframe/Palette" "size" "I" (.int (0 : Int32)) ∧ own_A Z h ac .int [(.int (0 : Int32)), (.int (0 : Int32)), (.int (0 : Int32)), (.int (0 : Int32))] ∧ own_A Z h asl .int [(.int (0 : Int32)), (.int (0 : Int32)), (.int (0 : Int32)), (.int (0 : Int32)), (.int (0 : Int32)), (.int (0 : Int32)), (.int (0 : Int32)), (.int (0 : Int32))] ∧ own_A Z h ai .short [(.int ((-1 : Int32).toInt16.toInt32)), (.int ((-1 : Int32).toInt16.toInt32)), (.int ((-1 : Int32).toInt16.toInt32)), (.int ((-1 : Int32).toInt16.toInt32)), (.int ((-1 : Int32).toInt16.toInt32)), (.int ((-1 : Int32).toInt16.toInt32)), (.int ((-1 : Int32).toInt16.toInt32)), (.int ((-1 : Int32).toInt16.toInt32))] ∧ Exa Z h ac "[I" ∧ Exa Z h asl "[I" ∧ Exa Z h ai "[S" ∧ (ac ≠ asl)
set_option maxHeartbeats 40000000 in
theorem rm1c4 (l : Launch) (Z : State) (a0 : Array Value) (hw : ∀ d ∈ tables_1, d.before a0 Z = true) (ws : List Jvm.Cond) (a1 : Addr) (h0 : Heap) (n0 : Nat) (Z0 : n0 ≤ h0.size) (F0 : Exa Z h0 a1 "com/example/relayframe/relayframe/Palette") (F1 : Fld Z h0 a1 "com/example/relayframe/relayframe/Palette" "colours" "[I" .null) (F2 : Fld Z h0 a1 "com/example/relayframe/relayframe/Palette" "slotBits" "I" (.int (0 : Int32))) (F3 : Fld Z h0 a1 "com/example/relayframe/relayframe/Palette" "slotColours" "[I" .null) (F4 : Fld Z h0 a1 "com/example/relayframe/relayframe/Palette" "slotIndices" "[S" .null) (F5 : Fld Z h0 a1 "com/example/relayframe/relayframe/Palette" "size" "I" (.int (0 : Int32))) (ga : n0 ≤ a1) :
    MetFree l (⟨"com/example/relayframe/relayframe/Palette", "<init>", "(I)V"⟩ : MethodName) (head1 (Jvm.Cond.code (⟨"com/example/relayframe/relayframe/Palette", "<init>", "(I)V"⟩ : MethodName) prog_3_method_1_code 2 none :: ws) ({ frames := 2, cells := 3, slots := 20, locals := 27 } : Room)) (fun a U => a = #[(.ref a1), (.int (4 : Int32))] ∧ Z.Warmed39 U.vm ∧ U.heap = h0) (fun _ _ _ _ _ => True) (fun _ U o U' => ∃ v L, o = .returned v ∧ Q1c4 Z a1 h0 n0 v U'.heap L ∧ FrameEnd U o U' L ({ frames := 2, cells := 3, slots := 20, locals := 27 } : Room).cells ({ frames := 2, cells := 3, slots := 20, locals := 27 } : Room).slots) := by
  refine MetFree.of_bodySF (plainFor_of_name own_pn3) hisR ?_
  intro p e s m args below meth c s₁ Bd hml0 hP hK
  obtain ⟨rfl, hZ, hh⟩ := hP
  have hx := Bd.exec
  have hby := Bd.bytes
  have hml : c.maxLocals = 2 := hml0
  have hlk : meth.locks = false := BodyLoose.notSynchronized Bd
  have hown : s.vm.findClass "com/example/relayframe/relayframe/Palette" = some m.cls := findClass_of_methodNamed Bd.named
  have hnm := (name_of_methodNamed Bd.named Bd.method).1
  have X0 : Stand p l e ({ frames := 2, cells := 3, slots := 20, locals := 27 } : Room) s m #[(.ref a1), (.int (4 : Int32))] below meth c s₁ [] 0 0 := Stand.of_body Bd
  have e0 : s₁.heap = h0 := by rw [← hh, Bd.state]; rfl
  have N0 := Fr.nil n0
  show own_Go p e below s (Q1c4 Z a1 h0 n0) ({ frames := 2, cells := 3, slots := 20, locals := 27 } : Room).cells ({ frames := 2, cells := 3, slots := 20, locals := 27 } : Room).slots _
  refine own_st (B := s₁.setTop (mkF m 0 #[.val (.ref a1), .val (.int (4 : Int32))] [])) (fun t k => castTop (ef_1c4 m (a1) ((4 : Int32))) k) ?_
  refine own_st (B := s₁.setTop (mkF m 1 #[.val (.ref a1), .val (.int (4 : Int32))] [(.ref a1)])) (fun t k => XS.aloadN X0.here hx rfl (hb hby d1_0) rfl rfl k) ?_
  obtain ⟨T1, X1, e1, st1⟩ := initO X0 hx hZ hown (w_7 hw) (w_8 hw) (w_9 hw) e0 (g := (mkF m 1 #[.val (.ref a1), .val (.int (4 : Int32))] [(.ref a1)])) rfl (by rw [hml]; rfl) rfl (hb hby d1_1) (by decide) (W := 0) (by show 2 * 0 + _ ≤ _; exact Nat.le_of_eq rfl) (by decide)
  refine own_st (B := T1.setTop (mkF m 4 #[.val (.ref a1), .val (.int (4 : Int32))] [])) (fun t k => st1 t k) ?_
  refine own_st (B := T1.setTop (mkF m 5 #[.val (.ref a1), .val (.int (4 : Int32))] [(.ref a1)])) (fun t k => XS.aloadN X1.here hx rfl (hb hby d1_4) rfl rfl k) ?_
  refine own_st (B := T1.setTop (mkF m 6 #[.val (.ref a1), .val (.int (4 : Int32))] [(.int (4 : Int32)), (.ref a1)])) (fun t k => XS.iloadN X1.here hx rfl (hb hby d1_5) rfl k) ?_
  obtain ⟨T2, h2, X2, e2, E2, A2, x2, st2⟩ := own_newP X1 hx hZ (aty := .int) (w_0 hw) e1 (g := (mkF m 6 #[.val (.ref a1), .val (.int (4 : Int32))] [(.int (4 : Int32)), (.ref a1)])) rfl (hb hby d1_6) (n := (4 : Int32)) (rest := [(.ref a1)]) rfl (k := 4) (cap := 4) (by decide) (Nat.le_refl _) (by decide) (by decide) (by decide) (ad := "[I") rfl
  obtain ⟨b2, g2⟩ : ∃ z, z = h0.size := ⟨_, rfl⟩
  rw [← g2] at A2 x2 st2
  have q2_a1 : a1 ≠ b2 := Nat.ne_of_lt (Nat.lt_of_lt_of_le F0.lt (Nat.le_of_eq g2.symm))
  have u2 : n0 ≤ b2 := Nat.le_trans Z0 (Nat.le_of_eq g2.symm)
  have y2 : h0.size ≤ b2 := Nat.le_trans (Keep.refl h0 [a1]).1 (Nat.le_of_eq g2.symm)
  have z3 : n0 ≤ h2.size := Nat.le_trans Z0 E2.1
  have kp3 : Keep h0 h2 [a1] := (Keep.refl h0 [a1]).ext E2
  have f2_ : own_A Z h2 b2 .int [(.int (0 : Int32)), (.int (0 : Int32)), (.int (0 : Int32)), (.int (0 : Int32))] := A2
  refine own_st (B := T2.setTop (mkF m 8 #[.val (.ref a1), .val (.int (4 : Int32))] [(.ref b2), (.ref a1)])) (fun t k => st2 t k) ?_
  have f4 : Exa Z h2 a1 "com/example/relayframe/relayframe/Palette" := (F0.ext E2)
  have f5 : Fld Z h2 a1 "com/example/relayframe/relayframe/Palette" "colours" "[I" .null := (F1.ext E2)
  obtain ⟨T6, h6, X6, e6, W6, st6⟩ := putF X2 hx hZ hown (host := "") (Or.inl (w_10 hw)) Via.refl e2 f5 f4 (Or.inr ⟨(w_11 hw), rfl, hnm⟩) (w_2 hw) (ty := (.array .int)) (by decide) rfl rfl (g := (mkF m 8 #[.val (.ref a1), .val (.int (4 : Int32))] [(.ref b2), (.ref a1)])) rfl rfl (hb hby d1_8)
  have f6_ : Fld Z h6 a1 "com/example/relayframe/relayframe/Palette" "colours" "[I" (.ref b2) := f5.same W6
  have z7 : n0 ≤ h6.size := Nat.le_trans z3 (Keep.of_wr W6).1
  have kp7 : Keep h0 h6 [a1] := kp3.wr W6 (Or.inl (List.mem_of_getElem? (i := 0) rfl))
  have n8 := Fr.snoc X6 N0 ga
  refine own_st (B := T6.setTop (mkF m 11 #[.val (.ref a1), .val (.int (4 : Int32))] [])) (fun t k => st6 t k) ?_
  refine own_st (B := T6.setTop (mkF m 12 #[.val (.ref a1), .val (.int (4 : Int32))] [(.ref a1)])) (fun t k => XS.aloadN X6.here hx rfl (hb hby d1_11) rfl rfl k) ?_
  refine own_st (B := T6.setTop (mkF m 14 #[.val (.ref a1), .val (.int (4 : Int32))] [(.int (32 : Int32)), (.ref a1)])) (fun t k => XS.bipush X6.here hx rfl (hb hby d1_12) k) ?_
  refine own_st (B := T6.setTop (mkF m 15 #[.val (.ref a1), .val (.int (4 : Int32))] [(.int (2 : Int32)), (.int (32 : Int32)), (.ref a1)])) (fun t k => XS.iconst X6.here hx rfl (hb hby d1_14) k) ?_
  refine own_st (B := T6.setTop (mkF m 16 #[.val (.ref a1), .val (.int (4 : Int32))] [(.int (4 : Int32)), (.int (2 : Int32)), (.int (32 : Int32)), (.ref a1)])) (fun t k => XS.iloadN X6.here hx rfl (hb hby d1_15) rfl k) ?_
  refine own_st (B := T6.setTop (mkF m 17 #[.val (.ref a1), .val (.int (4 : Int32))] [(.int ((2 : Int32) * (4 : Int32))), (.int (32 : Int32)), (.ref a1)])) (fun t k => XS.imul X6.here hx rfl (hb hby d1_16) rfl k) ?_
  refine own_st (B := T6.setTop (mkF m 18 #[.val (.ref a1), .val (.int (4 : Int32))] [(.int (1 : Int32)), (.int ((2 : Int32) * (4 : Int32))), (.int (32 : Int32)), (.ref a1)])) (fun t k => XS.iconst X6.here hx rfl (hb hby d1_17) k) ?_
  refine own_st (B := T6.setTop (mkF m 19 #[.val (.ref a1), .val (.int (4 : Int32))] [(.int (((2 : Int32) * (4 : Int32)) - (1 : Int32))), (.int (32 : Int32)), (.ref a1)])) (fun t k => XS.isub X6.here hx rfl (hb hby d1_18) rfl k) ?_
  obtain ⟨_, _, ⟨T9, L9, k9, j9⟩, -, X9, ⟨Lc9, hQ9, l9, y9_, z9_⟩, st9⟩ := Jvm.LawKit.callS X6 hx (y := (⟨"java/lang/Integer", "numberOfLeadingZeros", "(I)I"⟩ : MethodName)) hown (mvT hZ (w_12 hw)) (mvT hZ (w_13 hw)) (mvT hZ (w_14 hw)) (mvT hZ (w_15 hw)) (by decide) (backOf (W := 2) (rm3c4 l Z a0 hw []  h6 n0 z7 ) hZ (w_15 hw) (w_14 hw) (by decide) (by decide)) (g := (mkF m 19 #[.val (.ref a1), .val (.int (4 : Int32))] [(.int (((2 : Int32) * (4 : Int32)) - (1 : Int32))), (.int (32 : Int32)), (.ref a1)])) rfl (by rw [hml]; rfl) (argsL := [(.int (((2 : Int32) * (4 : Int32)) - (1 : Int32)))]) (rest := [(.int (32 : Int32)), (.ref a1)]) (lenOf own_pd4 rfl) rfl (by show 2 * 0 + _ ≤ _; exact Nat.le_of_eq rfl) (hb hby d1_19) (fun _ _ => ⟨rfl, e6, (by decide : 1 + 0 ≤ _), (by decide : 4 + 0 ≤ _)⟩)
  dsimp only [Pt.U, Pt.locs, Pt.cells, Pt.slots] at X9 l9 y9_ z9_ st9 hQ9
  subst l9 y9_ z9_
  obtain ⟨rfl, N9q, e9q⟩ := hQ9
  have N9 := Fr.app n8 N9q
  refine own_st (B := T9.setTop (mkF m 22 #[.val (.ref a1), .val (.int (4 : Int32))] [(.int (29 : Int32)), (.int (32 : Int32)), (.ref a1)])) (fun t k => st9 t k) ?_
  refine own_st (B := T9.setTop (mkF m 23 #[.val (.ref a1), .val (.int (4 : Int32))] [(.int ((32 : Int32) - (29 : Int32))), (.ref a1)])) (fun t k => XS.isub X9.here hx rfl (hb hby d1_22) rfl k) ?_
  have f10 : Exa Z h6 a1 "com/example/relayframe/relayframe/Palette" := (f4.wr W6)
  have f11 : Fld Z h6 a1 "com/example/relayframe/relayframe/Palette" "slotBits" "I" (.int (0 : Int32)) := ((F2.ext E2).other W6 (Or.inr (slot_ne (Or.inr (w_18 hw)) (Or.inr (w_11 hw)) (by decide) (t := .int) (t' := (.array .int)) (by decide) (by decide))))
  obtain ⟨T12, h12, X12, e12, W12, st12⟩ := putF X9 hx hZ hown (host := "") (Or.inl (w_17 hw)) Via.refl e9q f11 f10 (Or.inr ⟨(w_18 hw), rfl, hnm⟩) (w_2 hw) (ty := .int) (by decide) rfl rfl (g := (mkF m 23 #[.val (.ref a1), .val (.int (4 : Int32))] [(.int ((32 : Int32) - (29 : Int32))), (.ref a1)])) rfl rfl (hb hby d1_23)
  have f12_ : Fld Z h12 a1 "com/example/relayframe/relayframe/Palette" "slotBits" "I" (.int ((32 : Int32) - (29 : Int32))) := f11.same W12
  have z13 : n0 ≤ h12.size := Nat.le_trans z7 (Keep.of_wr W12).1
  have kp13 : Keep h0 h12 [a1] := kp7.wr W12 (Or.inl (List.mem_of_getElem? (i := 0) rfl))
  have n14 := Fr.snoc X12 N9 ga
  refine own_st (B := T12.setTop (mkF m 26 #[.val (.ref a1), .val (.int (4 : Int32))] [])) (fun t k => st12 t k) ?_
  refine own_st (B := T12.setTop (mkF m 27 #[.val (.ref a1), .val (.int (4 : Int32))] [(.ref a1)])) (fun t k => XS.aloadN X12.here hx rfl (hb hby d1_26) rfl rfl k) ?_
  refine own_st (B := T12.setTop (mkF m 28 #[.val (.ref a1), .val (.int (4 : Int32))] [(.int (1 : Int32)), (.ref a1)])) (fun t k => XS.iconst X12.here hx rfl (hb hby d1_27) k) ?_
  refine own_st (B := T12.setTop (mkF m 29 #[.val (.ref a1), .val (.int (4 : Int32))] [(.ref a1), (.int (1 : Int32)), (.ref a1)])) (fun t k => XS.aloadN X12.here hx rfl (hb hby d1_28) rfl rfl k) ?_
  obtain ⟨T15, X15, e15, st15⟩ := getF X12 hx hZ hown (host := "") (Or.inl (w_17 hw)) Via.refl e12 f12_ (g := (mkF m 29 #[.val (.ref a1), .val (.int (4 : Int32))] [(.ref a1), (.int (1 : Int32)), (.ref a1)])) rfl rfl (hb hby d1_29)
  refine own_st (B := T15.setTop (mkF m 32 #[.val (.ref a1), .val (.int (4 : Int32))] [(.int ((32 : Int32) - (29 : Int32))), (.int (1 : Int32)), (.ref a1)])) (fun t k => st15 t k) ?_
  refine own_st (B := T15.setTop (mkF m 33 #[.val (.ref a1), .val (.int (4 : Int32))] [(.int ((1 : Int32) <<< (((32 : Int32) - (29 : Int32)) &&& 31))), (.ref a1)])) (fun t k => XS.ishl X15.here hx rfl (hb hby d1_32) rfl k) ?_
  obtain ⟨T16, h16, X16, e16, E16, A16, x16, st16⟩ := own_newP X15 hx hZ (aty := .int) (w_0 hw) e15 (g := (mkF m 33 #[.val (.ref a1), .val (.int (4 : Int32))] [(.int ((1 : Int32) <<< (((32 : Int32) - (29 : Int32)) &&& 31))), (.ref a1)])) rfl (hb hby d1_33) (n := ((1 : Int32) <<< (((32 : Int32) - (29 : Int32)) &&& 31))) (rest := [(.ref a1)]) rfl (k := 8) (cap := 8) (by decide) (Nat.le_refl _) (by decide) (by decide) (by decide) (ad := "[I") rfl
  obtain ⟨b16, g16⟩ : ∃ z, z = h12.size := ⟨_, rfl⟩
  rw [← g16] at A16 x16 st16
  have f17 : Exa Z h12 a1 "com/example/relayframe/relayframe/Palette" := (f10.wr W12)
  have q16_a1 : a1 ≠ b16 := Nat.ne_of_lt (Nat.lt_of_lt_of_le f17.lt (Nat.le_of_eq g16.symm))
  have f18 : own_A Z h12 b2 .int [(.int (0 : Int32)), (.int (0 : Int32)), (.int (0 : Int32)), (.int (0 : Int32))] := ((f2_.other W6 (Ne.symm q2_a1)).other W12 (Ne.symm q2_a1))
  have q16_b2 : b2 ≠ b16 := Nat.ne_of_lt (Nat.lt_of_lt_of_le f18.lt (Nat.le_of_eq g16.symm))
  have u16 : n0 ≤ b16 := Nat.le_trans z13 (Nat.le_of_eq g16.symm)
  have y16 : h0.size ≤ b16 := Nat.le_trans kp13.1 (Nat.le_of_eq g16.symm)
  have z19 : n0 ≤ h16.size := Nat.le_trans z13 E16.1
  have kp19 : Keep h0 h16 [a1] := kp13.ext E16
  have f16_ : own_A Z h16 b16 .int [(.int (0 : Int32)), (.int (0 : Int32)), (.int (0 : Int32)), (.int (0 : Int32)), (.int (0 : Int32)), (.int (0 : Int32)), (.int (0 : Int32)), (.int (0 : Int32))] := A16
  refine own_st (B := T16.setTop (mkF m 35 #[.val (.ref a1), .val (.int (4 : Int32))] [(.ref b16), (.ref a1)])) (fun t k => st16 t k) ?_
  have f20 : Exa Z h16 a1 "com/example/relayframe/relayframe/Palette" := (f17.ext E16)
  have f21 : Fld Z h16 a1 "com/example/relayframe/relayframe/Palette" "slotColours" "[I" .null := ((((F3.ext E2).other W6 (Or.inr (slot_ne (Or.inr (w_20 hw)) (Or.inr (w_11 hw)) (by decide) (t := (.array .int)) (t' := (.array .int)) (by decide) (by decide)))).other W12 (Or.inr (slot_ne (Or.inr (w_20 hw)) (Or.inr (w_18 hw)) (by decide) (t := (.array .int)) (t' := .int) (by decide) (by decide)))).ext E16)
  obtain ⟨T22, h22, X22, e22, W22, st22⟩ := putF X16 hx hZ hown (host := "") (Or.inl (w_19 hw)) Via.refl e16 f21 f20 (Or.inr ⟨(w_20 hw), rfl, hnm⟩) (w_2 hw) (ty := (.array .int)) (by decide) rfl rfl (g := (mkF m 35 #[.val (.ref a1), .val (.int (4 : Int32))] [(.ref b16), (.ref a1)])) rfl rfl (hb hby d1_35)
  have f22_ : Fld Z h22 a1 "com/example/relayframe/relayframe/Palette" "slotColours" "[I" (.ref b16) := f21.same W22
  have z23 : n0 ≤ h22.size := Nat.le_trans z19 (Keep.of_wr W22).1
  have kp23 : Keep h0 h22 [a1] := kp19.wr W22 (Or.inl (List.mem_of_getElem? (i := 0) rfl))
  have n24 := Fr.snoc X22 n14 ga
  refine own_st (B := T22.setTop (mkF m 38 #[.val (.ref a1), .val (.int (4 : Int32))] [])) (fun t k => st22 t k) ?_
  refine own_st (B := T22.setTop (mkF m 39 #[.val (.ref a1), .val (.int (4 : Int32))] [(.ref a1)])) (fun t k => XS.aloadN X22.here hx rfl (hb hby d1_38) rfl rfl k) ?_
  refine own_st (B := T22.setTop (mkF m 40 #[.val (.ref a1), .val (.int (4 : Int32))] [(.int (1 : Int32)), (.ref a1)])) (fun t k => XS.iconst X22.here hx rfl (hb hby d1_39) k) ?_
  refine own_st (B := T22.setTop (mkF m 41 #[.val (.ref a1), .val (.int (4 : Int32))] [(.ref a1), (.int (1 : Int32)), (.ref a1)])) (fun t k => XS.aloadN X22.here hx rfl (hb hby d1_40) rfl rfl k) ?_
  have f25 : Fld Z h22 a1 "com/example/relayframe/relayframe/Palette" "slotBits" "I" (.int ((32 : Int32) - (29 : Int32))) := ((f12_.ext E16).other W22 (Or.inr (slot_ne (Or.inr (w_18 hw)) (Or.inr (w_20 hw)) (by decide) (t := .int) (t' := (.array .int)) (by decide) (by decide))))
  obtain ⟨T26, X26, e26, st26⟩ := getF X22 hx hZ hown (host := "") (Or.inl (w_17 hw)) Via.refl e22 f25 (g := (mkF m 41 #[.val (.ref a1), .val (.int (4 : Int32))] [(.ref a1), (.int (1 : Int32)), (.ref a1)])) rfl rfl (hb hby d1_41)
  refine own_st (B := T26.setTop (mkF m 44 #[.val (.ref a1), .val (.int (4 : Int32))] [(.int ((32 : Int32) - (29 : Int32))), (.int (1 : Int32)), (.ref a1)])) (fun t k => st26 t k) ?_
  refine own_st (B := T26.setTop (mkF m 45 #[.val (.ref a1), .val (.int (4 : Int32))] [(.int ((1 : Int32) <<< (((32 : Int32) - (29 : Int32)) &&& 31))), (.ref a1)])) (fun t k => XS.ishl X26.here hx rfl (hb hby d1_44) rfl k) ?_
  obtain ⟨T27, h27, X27, e27, E27, A27, x27, st27⟩ := own_newP X26 hx hZ (aty := .short) (w_21 hw) e26 (g := (mkF m 45 #[.val (.ref a1), .val (.int (4 : Int32))] [(.int ((1 : Int32) <<< (((32 : Int32) - (29 : Int32)) &&& 31))), (.ref a1)])) rfl (hb hby d1_45) (n := ((1 : Int32) <<< (((32 : Int32) - (29 : Int32)) &&& 31))) (rest := [(.ref a1)]) rfl (k := 8) (cap := 8) (by decide) (Nat.le_refl _) (by decide) (by decide) (by decide) (ad := "[S") rfl
  obtain ⟨b27, g27⟩ : ∃ z, z = h22.size := ⟨_, rfl⟩
  rw [← g27] at A27 x27 st27
  have f28 : Exa Z h22 a1 "com/example/relayframe/relayframe/Palette" := (f20.wr W22)
  have q27_a1 : a1 ≠ b27 := Nat.ne_of_lt (Nat.lt_of_lt_of_le f28.lt (Nat.le_of_eq g27.symm))
  have f29 : own_A Z h22 b2 .int [(.int (0 : Int32)), (.int (0 : Int32)), (.int (0 : Int32)), (.int (0 : Int32))] := ((f18.ext E16).other W22 (Ne.symm q2_a1))
  have q27_b2 : b2 ≠ b27 := Nat.ne_of_lt (Nat.lt_of_lt_of_le f29.lt (Nat.le_of_eq g27.symm))
  have f30 : own_A Z h22 b16 .int [(.int (0 : Int32)), (.int (0 : Int32)), (.int (0 : Int32)), (.int (0 : Int32)), (.int (0 : Int32)), (.int (0 : Int32)), (.int (0 : Int32)), (.int (0 : Int32))] := (f16_.other W22 (Ne.symm q16_a1))
  have q27_b16 : b16 ≠ b27 := Nat.ne_of_lt (Nat.lt_of_lt_of_le f30.lt (Nat.le_of_eq g27.symm))
  have u27 : n0 ≤ b27 := Nat.le_trans z23 (Nat.le_of_eq g27.symm)
  have y27 : h0.size ≤ b27 := Nat.le_trans kp23.1 (Nat.le_of_eq g27.symm)
  have z31 : n0 ≤ h27.size := Nat.le_trans z23 E27.1
  have kp31 : Keep h0 h27 [a1] := kp23.ext E27
  have f27_ : own_A Z h27 b27 .short [(.int (0 : Int32)), (.int (0 : Int32)), (.int (0 : Int32)), (.int (0 : Int32)), (.int (0 : Int32)), (.int (0 : Int32)), (.int (0 : Int32)), (.int (0 : Int32))] := A27
  refine own_st (B := T27.setTop (mkF m 47 #[.val (.ref a1), .val (.int (4 : Int32))] [(.ref b27), (.ref a1)])) (fun t k => st27 t k) ?_
  have f32 : Exa Z h27 a1 "com/example/relayframe/relayframe/Palette" := (f28.ext E27)
  have f33 : Fld Z h27 a1 "com/example/relayframe/relayframe/Palette" "slotIndices" "[S" .null := ((((((F4.ext E2).other W6 (Or.inr (slot_ne (Or.inr (w_23 hw)) (Or.inr (w_11 hw)) (by decide) (t := (.array .short)) (t' := (.array .int)) (by decide) (by decide)))).other W12 (Or.inr (slot_ne (Or.inr (w_23 hw)) (Or.inr (w_18 hw)) (by decide) (t := (.array .short)) (t' := .int) (by decide) (by decide)))).ext E16).other W22 (Or.inr (slot_ne (Or.inr (w_23 hw)) (Or.inr (w_20 hw)) (by decide) (t := (.array .short)) (t' := (.array .int)) (by decide) (by decide)))).ext E27)
  obtain ⟨T34, h34, X34, e34, W34, st34⟩ := putF X27 hx hZ hown (host := "") (Or.inl (w_22 hw)) Via.refl e27 f33 f32 (Or.inr ⟨(w_23 hw), rfl, hnm⟩) (w_2 hw) (ty := (.array .short)) (by decide) rfl rfl (g := (mkF m 47 #[.val (.ref a1), .val (.int (4 : Int32))] [(.ref b27), (.ref a1)])) rfl rfl (hb hby d1_47)
  have f34_ : Fld Z h34 a1 "com/example/relayframe/relayframe/Palette" "slotIndices" "[S" (.ref b27) := f33.same W34
  have z35 : n0 ≤ h34.size := Nat.le_trans z31 (Keep.of_wr W34).1
  have kp35 : Keep h0 h34 [a1] := kp31.wr W34 (Or.inl (List.mem_of_getElem? (i := 0) rfl))
  have n36 := Fr.snoc X34 n24 ga
  refine own_st (B := T34.setTop (mkF m 50 #[.val (.ref a1), .val (.int (4 : Int32))] [])) (fun t k => st34 t k) ?_
  refine own_st (B := T34.setTop (mkF m 51 #[.val (.ref a1), .val (.int (4 : Int32))] [(.ref a1)])) (fun t k => XS.aloadN X34.here hx rfl (hb hby d1_50) rfl rfl k) ?_
  have f37 : Exa Z h34 a1 "com/example/relayframe/relayframe/Palette" := (f32.wr W34)
  have f38 : Fld Z h34 a1 "com/example/relayframe/relayframe/Palette" "colours" "[I" (.ref b2) := (((((f6_.other W12 (Or.inr (slot_ne (Or.inr (w_11 hw)) (Or.inr (w_18 hw)) (by decide) (t := (.array .int)) (t' := .int) (by decide) (by decide)))).ext E16).other W22 (Or.inr (slot_ne (Or.inr (w_11 hw)) (Or.inr (w_20 hw)) (by decide) (t := (.array .int)) (t' := (.array .int)) (by decide) (by decide)))).ext E27).other W34 (Or.inr (slot_ne (Or.inr (w_11 hw)) (Or.inr (w_23 hw)) (by decide) (t := (.array .int)) (t' := (.array .short)) (by decide) (by decide))))
  have f39 : Fld Z h34 a1 "com/example/relayframe/relayframe/Palette" "slotBits" "I" (.int ((32 : Int32) - (29 : Int32))) := ((f25.ext E27).other W34 (Or.inr (slot_ne (Or.inr (w_18 hw)) (Or.inr (w_23 hw)) (by decide) (t := .int) (t' := (.array .short)) (by decide) (by decide))))
  have f40 : Fld Z h34 a1 "com/example/relayframe/relayframe/Palette" "slotColours" "[I" (.ref b16) := ((f22_.ext E27).other W34 (Or.inr (slot_ne (Or.inr (w_20 hw)) (Or.inr (w_23 hw)) (by decide) (t := (.array .int)) (t' := (.array .short)) (by decide) (by decide))))
  have f41 : Fld Z h34 a1 "com/example/relayframe/relayframe/Palette" "size" "I" (.int (0 : Int32)) := (((((((F5.ext E2).other W6 (Or.inr (slot_ne (Or.inl (w_34 hw)) (Or.inr (w_11 hw)) (by decide) (t := .int) (t' := (.array .int)) (by decide) (by decide)))).other W12 (Or.inr (slot_ne (Or.inl (w_34 hw)) (Or.inr (w_18 hw)) (by decide) (t := .int) (t' := .int) (by decide) (by decide)))).ext E16).other W22 (Or.inr (slot_ne (Or.inl (w_34 hw)) (Or.inr (w_20 hw)) (by decide) (t := .int) (t' := (.array .int)) (by decide) (by decide)))).ext E27).other W34 (Or.inr (slot_ne (Or.inl (w_34 hw)) (Or.inr (w_23 hw)) (by decide) (t := .int) (t' := (.array .short)) (by decide) (by decide))))
  have f42 : own_A Z h34 b27 .short [(.int (0 : Int32)), (.int (0 : Int32)), (.int (0 : Int32)), (.int (0 : Int32)), (.int (0 : Int32)), (.int (0 : Int32)), (.int (0 : Int32)), (.int (0 : Int32))] := (f27_.other W34 (Ne.symm q27_a1))
  have f43 : Exa Z h34 b27 "[S" := (x27.wr W34)
  obtain ⟨cq44, kq44, q44a, q44b, q44c⟩ := isOf hZ e34 f37
  obtain ⟨_, _, ⟨T44, L44, k44, j44⟩, -, X44, ⟨Lc44, hQ44, l44, y44_, z44_⟩, st44⟩ := X34.virtualBack hx (y := (⟨"com/example/relayframe/relayframe/Palette", "clear", "()V"⟩ : MethodName)) (z := (⟨"com/example/relayframe/relayframe/Palette", "clear", "()V"⟩ : MethodName)) hown (mvT hZ (w_24 hw)) (mvT hZ (w_25 hw)) (notFace_of_selects (args := #[]) (mvT hZ (w_27 hw))) (mvT hZ (w_27 hw)) (mvT hZ (w_26 hw)) (by decide) (backOf (W := 0) (rm4n8 l Z a0 hw [] a1 b2 b16 b27 ((32 : Int32) - (29 : Int32)) h34 n0 z35 f37 f38 f39 f40 f34_ f41 f42 f43 ga u27) hZ (w_28 hw) (w_3 hw) (by decide) (by decide)) q44a q44c (g := (mkF m 51 #[.val (.ref a1), .val (.int (4 : Int32))] [(.ref a1)])) rfl (by rw [hml]; rfl) (Steps.refl _) (argsL := []) (rest := []) (lenOf own_pd5 rfl) rfl (by show 2 * 0 + _ ≤ _; exact Nat.le_of_eq rfl) (hb hby d1_51) (fun _ _ => ⟨rfl, e34, (by decide : 3 + 0 ≤ _), (by decide : 20 + 0 ≤ _)⟩)
  dsimp only [Pt.U, Pt.locs, Pt.cells, Pt.slots] at X44 l44 y44_ z44_ st44 hQ44
  subst l44 y44_ z44_
  obtain ⟨rfl, N44q, K44, p44_0, p44_1, p44_2, p44_3, p44_4, p44_5⟩ := hQ44
  have N44 := Fr.app n36 N44q
  have z45 : n0 ≤ T44.heap.size := Nat.le_trans z35 K44.1
  have kp45 : Keep h0 T44.heap [a1] := kp35.trans K44 (allS (Or.inl (List.mem_of_getElem? (i := 0) rfl)) (allS (Or.inr y27) all0))
  refine own_ss (B := T44.setTop (mkF m 54 #[.val (.ref a1), .val (.int (4 : Int32))] [])) st44 ?_
  refine own_retV X44 hx hlk Bd.returns (hb hby d1_54) (by decide) (by decide) ?_
  show Q1c4 Z a1 h0 n0 _ T44.heap _
  have f46 : Exa Z T44.heap a1 "com/example/relayframe/relayframe/Palette" := (f37.keep K44)
  have f47 : own_A Z T44.heap b2 .int [(.int (0 : Int32)), (.int (0 : Int32)), (.int (0 : Int32)), (.int (0 : Int32))] := (((f29.ext E27).other W34 (Ne.symm q2_a1)).keep K44 (ninS (Ne.symm q2_a1) (ninS q27_b2 nin0)))
  have f48 : own_A Z T44.heap b16 .int [(.int (0 : Int32)), (.int (0 : Int32)), (.int (0 : Int32)), (.int (0 : Int32)), (.int (0 : Int32)), (.int (0 : Int32)), (.int (0 : Int32)), (.int (0 : Int32))] := (((f30.ext E27).other W34 (Ne.symm q16_a1)).keep K44 (ninS (Ne.symm q16_a1) (ninS q27_b16 nin0)))
  have f49 : Exa Z T44.heap b2 "[I" := (((((((x2.wr W6).wr W12).ext E16).wr W22).ext E27).wr W34).keep K44)
  have f50 : Exa Z T44.heap b16 "[I" := ((((x16.wr W22).ext E27).wr W34).keep K44)
  have f51 : Exa Z T44.heap b27 "[S" := (f43.keep K44)
  exact ⟨b2, b16, b27, rfl, N44, kp45, u2, y2, u16, y16, u27, y27, f46, p44_0, p44_1, p44_2, p44_3, p44_4, f47, f48, p44_5, f49, f50, f51, q16_b2⟩
theorem own_pn4 : plainName "com/example/relayframe/relayframe/PaletteIndexOfPinLaw" = true := by first | (simp [plainName, overriddenIn]; done) | decide +kernel
theorem d7_0 : decode method_3_code 0 = .ok (.aload_n 1, 1) := by decide +kernel
theorem d7_1 : decode method_3_code 1 = .ok (.iconst 0, 1) := by decide +kernel
theorem d7_2 : decode method_3_code 2 = .ok (.iaload, 1) := by decide +kernel
theorem d7_3 : decode method_3_code 3 = .ok (.istore 4, 2) := by decide +kernel
theorem d7_5 : decode method_3_code 5 = .ok (.iload 4, 2) := by decide +kernel
theorem d7_7 : decode method_3_code 7 = .ok (.ifCond .le 12, 3) := by decide +kernel
theorem d7_10 : decode method_3_code 10 = .ok (.aload_n 0, 1) := by decide +kernel
theorem d7_11 : decode method_3_code 11 = .ok (.iconst 0, 1) := by decide +kernel
theorem d7_12 : decode method_3_code 12 = .ok (.iaload, 1) := by decide +kernel
theorem d7_13 : decode method_3_code 13 = .ok (.iload_n 2, 1) := by decide +kernel
theorem d7_14 : decode method_3_code 14 = .ok (.if_icmp .ne 5, 3) := by decide +kernel
theorem d7_17 : decode method_3_code 17 = .ok (.iconst 0, 1) := by decide +kernel
theorem d7_18 : decode method_3_code 18 = .ok (.ireturn, 1) := by decide +kernel
theorem d7_19 : decode method_3_code 19 = .ok (.iload 4, 2) := by decide +kernel
theorem d7_21 : decode method_3_code 21 = .ok (.iconst 1, 1) := by decide +kernel
theorem d7_22 : decode method_3_code 22 = .ok (.if_icmp .le 12, 3) := by decide +kernel
theorem d7_25 : decode method_3_code 25 = .ok (.aload_n 0, 1) := by decide +kernel
theorem d7_26 : decode method_3_code 26 = .ok (.iconst 1, 1) := by decide +kernel
theorem d7_27 : decode method_3_code 27 = .ok (.iaload, 1) := by decide +kernel
theorem d7_28 : decode method_3_code 28 = .ok (.iload_n 2, 1) := by decide +kernel
theorem d7_29 : decode method_3_code 29 = .ok (.if_icmp .ne 5, 3) := by decide +kernel
theorem d7_32 : decode method_3_code 32 = .ok (.iconst 1, 1) := by decide +kernel
theorem d7_33 : decode method_3_code 33 = .ok (.ireturn, 1) := by decide +kernel
theorem d7_34 : decode method_3_code 34 = .ok (.iload 4, 2) := by decide +kernel
theorem d7_36 : decode method_3_code 36 = .ok (.iconst 2, 1) := by decide +kernel
theorem d7_37 : decode method_3_code 37 = .ok (.if_icmp .le 12, 3) := by decide +kernel
theorem d7_40 : decode method_3_code 40 = .ok (.aload_n 0, 1) := by decide +kernel
theorem d7_41 : decode method_3_code 41 = .ok (.iconst 2, 1) := by decide +kernel
theorem d7_42 : decode method_3_code 42 = .ok (.iaload, 1) := by decide +kernel
theorem d7_43 : decode method_3_code 43 = .ok (.iload_n 2, 1) := by decide +kernel
theorem d7_44 : decode method_3_code 44 = .ok (.if_icmp .ne 5, 3) := by decide +kernel
theorem d7_47 : decode method_3_code 47 = .ok (.iconst 2, 1) := by decide +kernel
theorem d7_48 : decode method_3_code 48 = .ok (.ireturn, 1) := by decide +kernel
theorem d7_49 : decode method_3_code 49 = .ok (.iload 4, 2) := by decide +kernel
theorem d7_51 : decode method_3_code 51 = .ok (.iconst 3, 1) := by decide +kernel
theorem d7_52 : decode method_3_code 52 = .ok (.if_icmp .le 12, 3) := by decide +kernel
theorem d7_55 : decode method_3_code 55 = .ok (.aload_n 0, 1) := by decide +kernel
theorem d7_56 : decode method_3_code 56 = .ok (.iconst 3, 1) := by decide +kernel
theorem d7_57 : decode method_3_code 57 = .ok (.iaload, 1) := by decide +kernel
theorem d7_58 : decode method_3_code 58 = .ok (.iload_n 2, 1) := by decide +kernel
theorem d7_59 : decode method_3_code 59 = .ok (.if_icmp .ne 5, 3) := by decide +kernel
theorem d7_62 : decode method_3_code 62 = .ok (.iconst 3, 1) := by decide +kernel
theorem d7_63 : decode method_3_code 63 = .ok (.ireturn, 1) := by decide +kernel
theorem d7_64 : decode method_3_code 64 = .ok (.iload 4, 2) := by decide +kernel
theorem d7_66 : decode method_3_code 66 = .ok (.iload_n 3, 1) := by decide +kernel
theorem d7_67 : decode method_3_code 67 = .ok (.if_icmp .lt 5, 3) := by decide +kernel
theorem d7_70 : decode method_3_code 70 = .ok (.iconst (-1), 1) := by decide +kernel
theorem d7_71 : decode method_3_code 71 = .ok (.ireturn, 1) := by decide +kernel
theorem d7_72 : decode method_3_code 72 = .ok (.aload_n 0, 1) := by decide +kernel
theorem d7_73 : decode method_3_code 73 = .ok (.iload 4, 2) := by decide +kernel
theorem d7_75 : decode method_3_code 75 = .ok (.iload_n 2, 1) := by decide +kernel
theorem d7_76 : decode method_3_code 76 = .ok (.iastore, 1) := by decide +kernel
theorem d7_77 : decode method_3_code 77 = .ok (.aload_n 1, 1) := by decide +kernel
theorem d7_78 : decode method_3_code 78 = .ok (.iconst 0, 1) := by decide +kernel
theorem d7_79 : decode method_3_code 79 = .ok (.iload 4, 2) := by decide +kernel
theorem d7_81 : decode method_3_code 81 = .ok (.iconst 1, 1) := by decide +kernel
theorem d7_82 : decode method_3_code 82 = .ok (.iadd, 1) := by decide +kernel
theorem d7_83 : decode method_3_code 83 = .ok (.iastore, 1) := by decide +kernel
theorem d7_84 : decode method_3_code 84 = .ok (.iload 4, 2) := by decide +kernel
theorem d7_86 : decode method_3_code 86 = .ok (.ireturn, 1) := by decide +kernel
theorem ef_7 (m : MethodId) (x0 : Addr) (x1 : Addr) (x2 : Int32) (x3 : Int32) : entryFrame m #[(.ref x0), (.ref x1), (.int x2), (.int x3)] 5 = mkF m 0 #[.val (.ref x0), .val (.ref x1), .val (.int x2), .val (.int x3), .unset] [] := by first | (simp [entryFrame, mkF, argsToLocals, Value.category]; done) | rfl
def Q7 (Z : State) (a1 : Addr) (a2 : Addr) (p2 : Int32) (p3 : Int32) (cn : Int32) (SE : List Int32) (n : Nat) (cap : Nat) (h0 : Heap) (n0 : Nat) (v : Option Value) (h : Heap) (L : List Loc) : Prop := ∃ (r : Int32) (n2 : Nat) (SE2 : List Int32) (cn2 : Int32), v = some (.int r) ∧ Fr n0 L ∧ Keep h0 h [a1, a2] ∧ own_A Z h a1 .int (SE2.map Value.int) ∧ own_A Z h a2 .int [(.int cn2)] ∧ (own_Res n cap p2 SE r n2 SE2) ∧ (cn2.toInt = (n2 : Int))
set_option maxHeartbeats 40000000 in
theorem rm7 (l : Launch) (Z : State) (a0 : Array Value) (hw : ∀ d ∈ tables_1, d.before a0 Z = true) (ws : List Jvm.Cond) (a1 : Addr) (a2 : Addr) (p2 : Int32) (p3 : Int32) (cn : Int32) (SE : List Int32) (n : Nat) (cap : Nat) (h0 : Heap) (n0 : Nat) (Z0 : n0 ≤ h0.size) (F0 : own_A Z h0 a1 .int (SE.map Value.int)) (F1 : own_A Z h0 a2 .int [(.int cn)]) (na : a1 ≠ a2) (g1 : n0 ≤ a1) (g2 : n0 ≤ a2) (hl5 : SE.length = 5) (hcn : cn.toInt = (n : Int)) (hp3 : p3.toInt = (cap : Int)) (hnc : n ≤ cap ∧ cap ≤ 4) :
    MetFree l (⟨"com/example/relayframe/relayframe/PaletteIndexOfPinLaw", "expected", "([I[III)I"⟩ : MethodName) (head1 (Jvm.Cond.code (⟨"com/example/relayframe/relayframe/PaletteIndexOfPinLaw", "expected", "([I[III)I"⟩ : MethodName) method_3_code 5 (some .int) :: ws) ({ frames := 0, cells := 0, slots := 0, locals := 0 } : Room)) (fun a U => a = #[(.ref a1), (.ref a2), (.int p2), (.int p3)] ∧ Z.Warmed39 U.vm ∧ U.heap = h0) (fun _ _ _ _ _ => True) (fun _ U o U' => ∃ v L, o = .returned v ∧ Q7 Z a1 a2 p2 p3 cn SE n cap h0 n0 v U'.heap L ∧ FrameEnd U o U' L ({ frames := 0, cells := 0, slots := 0, locals := 0 } : Room).cells ({ frames := 0, cells := 0, slots := 0, locals := 0 } : Room).slots) := by
  refine MetFree.of_bodySF (plainFor_of_name own_pn4) hisR ?_
  intro p e s m args below meth c s₁ Bd hml0 hP hK
  obtain ⟨rfl, hZ, hh⟩ := hP
  have hx := Bd.exec
  have hby := Bd.bytes
  have hml : c.maxLocals = 5 := hml0
  have hlk : meth.locks = false := BodyLoose.notSynchronized Bd
  have hown : s.vm.findClass "com/example/relayframe/relayframe/PaletteIndexOfPinLaw" = some m.cls := findClass_of_methodNamed Bd.named
  have hnm := (name_of_methodNamed Bd.named Bd.method).1
  have X0 : Stand p l e ({ frames := 0, cells := 0, slots := 0, locals := 0 } : Room) s m #[(.ref a1), (.ref a2), (.int p2), (.int p3)] below meth c s₁ [] 0 0 := Stand.of_body Bd
  have e0 : s₁.heap = h0 := by rw [← hh, Bd.state]; rfl
  have N0 := Fr.nil n0
  show own_Go p e below s (Q7 Z a1 a2 p2 p3 cn SE n cap h0 n0) ({ frames := 0, cells := 0, slots := 0, locals := 0 } : Room).cells ({ frames := 0, cells := 0, slots := 0, locals := 0 } : Room).slots _
  refine own_st (B := s₁.setTop (mkF m 0 #[.val (.ref a1), .val (.ref a2), .val (.int p2), .val (.int p3), .unset] [])) (fun t k => castTop (ef_7 m (a1) (a2) (p2) (p3)) k) ?_
  refine own_st (B := s₁.setTop (mkF m 1 #[.val (.ref a1), .val (.ref a2), .val (.int p2), .val (.int p3), .unset] [(.ref a2)])) (fun t k => XS.aloadN X0.here hx rfl (hb hby d7_0) rfl rfl k) ?_
  refine own_st (B := s₁.setTop (mkF m 2 #[.val (.ref a1), .val (.ref a2), .val (.int p2), .val (.int p3), .unset] [(.int (0 : Int32)), (.ref a2)])) (fun t k => XS.iconst X0.here hx rfl (hb hby d7_1) k) ?_
  refine own_st (B := s₁.setTop (mkF m 3 #[.val (.ref a1), .val (.ref a2), .val (.int p2), .val (.int p3), .unset] [(.int cn)])) (fun t k => own_ldI X0 hx hZ e0 F1 (g := (mkF m 2 #[.val (.ref a1), .val (.ref a2), .val (.int p2), .val (.int p3), .unset] [(.int (0 : Int32)), (.ref a2)])) (i := 0) (by decide) rfl rfl rfl (hb hby d7_2) k) ?_
  refine own_st (B := s₁.setTop (mkF m 5 #[.val (.ref a1), .val (.ref a2), .val (.int p2), .val (.int p3), .val (.int cn)] [])) (fun t k => XS.istore X0.here hx rfl (hb hby d7_3) rfl (l' := #[.val (.ref a1), .val (.ref a2), .val (.int p2), .val (.int p3), .val (.int cn)]) rfl k) ?_
  refine own_cut (P := ∀ (T1 : State) (lo1 : List Loc) (h1 : Heap), Stand p l e ({ frames := 0, cells := 0, slots := 0, locals := 0 } : Room) s m #[(.ref a1), (.ref a2), (.int p2), (.int p3)] below meth c T1 lo1 0 0 → T1.heap = h1 → Fr n0 lo1 → n0 ≤ h1.size → Keep h0 h1 [a1, a2] → own_A Z h1 a1 .int (SE.map Value.int) → own_A Z h1 a2 .int [(.int cn)] → (∀ i, i < 1 → i < n → SE.getD i 0 ≠ p2) → own_Go p e below s (Q7 Z a1 a2 p2 p3 cn SE n cap h0 n0) ({ frames := 0, cells := 0, slots := 0, locals := 0 } : Room).cells ({ frames := 0, cells := 0, slots := 0, locals := 0 } : Room).slots (T1.setTop (mkF m 19 #[.val (.ref a1), .val (.ref a2), .val (.int p2), .val (.int p3), .val (.int cn)] []))) (fun J1 => ?_) ?_
  · refine own_st (B := s₁.setTop (mkF m 7 #[.val (.ref a1), .val (.ref a2), .val (.int p2), .val (.int p3), .val (.int cn)] [(.int cn)])) (fun t k => XS.iload X0.here hx rfl (hb hby d7_5) rfl k) ?_
    by_cases hc2 : (0 : Int32) < cn
    · refine own_st (B := s₁.setTop (mkF m 10 #[.val (.ref a1), .val (.ref a2), .val (.int p2), .val (.int p3), .val (.int cn)] [])) (fun t k => XS.ifNo X0.here hx rfl (hb hby d7_7) rfl (XT.i0_le_f hc2) k) ?_
      refine own_st (B := s₁.setTop (mkF m 11 #[.val (.ref a1), .val (.ref a2), .val (.int p2), .val (.int p3), .val (.int cn)] [(.ref a1)])) (fun t k => XS.aloadN X0.here hx rfl (hb hby d7_10) rfl rfl k) ?_
      refine own_st (B := s₁.setTop (mkF m 12 #[.val (.ref a1), .val (.ref a2), .val (.int p2), .val (.int p3), .val (.int cn)] [(.int (0 : Int32)), (.ref a1)])) (fun t k => XS.iconst X0.here hx rfl (hb hby d7_11) k) ?_
      refine own_st (B := s₁.setTop (mkF m 13 #[.val (.ref a1), .val (.ref a2), .val (.int p2), .val (.int p3), .val (.int cn)] [(.int (SE.getD 0 0))])) (fun t k => own_ldI X0 hx hZ e0 F0 (g := (mkF m 12 #[.val (.ref a1), .val (.ref a2), .val (.int p2), .val (.int p3), .val (.int cn)] [(.int (0 : Int32)), (.ref a1)])) (i := 0) (by decide) (own_getI (by omega)) rfl rfl (hb hby d7_12) k) ?_
      refine own_st (B := s₁.setTop (mkF m 14 #[.val (.ref a1), .val (.ref a2), .val (.int p2), .val (.int p3), .val (.int cn)] [(.int p2), (.int (SE.getD 0 0))])) (fun t k => XS.iloadN X0.here hx rfl (hb hby d7_13) rfl k) ?_
      by_cases hc3 : (SE.getD 0 0) = p2
      · refine own_st (B := s₁.setTop (mkF m 17 #[.val (.ref a1), .val (.ref a2), .val (.int p2), .val (.int p3), .val (.int cn)] [])) (fun t k => XS.icmpNo X0.here hx rfl (hb hby d7_14) rfl (XT.ii_ne_f hc3) k) ?_
        refine own_st (B := s₁.setTop (mkF m 18 #[.val (.ref a1), .val (.ref a2), .val (.int p2), .val (.int p3), .val (.int cn)] [(.int (0 : Int32))])) (fun t k => XS.iconst X0.here hx rfl (hb hby d7_17) k) ?_
        refine own_retI X0 hx hlk Bd.returns (hb hby d7_18) (by decide) (by decide) ?_
        show Q7 Z a1 a2 p2 p3 cn SE n cap h0 n0 _ s₁.heap _
        rw [e0]
        exact ⟨(0 : Int32), n, SE, cn, rfl, N0, (Keep.refl h0 [a1, a2]), F0, F1, (Or.inl ⟨0, by have h9 := Int32.lt_iff_toInt_lt.mp hc2; have z : (0 : Int32).toInt = 0 := rfl; omega, hc3, rfl, rfl, rfl⟩), hcn⟩
      · refine own_st (B := s₁.setTop (mkF m 19 #[.val (.ref a1), .val (.ref a2), .val (.int p2), .val (.int p3), .val (.int cn)] [])) (fun t k => XS.icmpYes X0.here hx rfl (pc0 := 14) (pc' := 19) rfl (hb hby d7_14) rfl (XT.ii_ne_t hc3) (by decide) (by decide) k) ?_
        exact J1 s₁ _ _  X0 e0 N0 Z0 (Keep.refl h0 [a1, a2]) F0 F1 (show ∀ i, i < 1 → i < n → SE.getD i 0 ≠ p2 by intro i hi hn; exact (Nat.lt_or_ge i 0).elim (fun g => absurd g (Nat.not_lt_zero i)) (fun g => by have e9 : i = 0 := (by omega); subst e9; exact hc3))
    · refine own_st (B := s₁.setTop (mkF m 19 #[.val (.ref a1), .val (.ref a2), .val (.int p2), .val (.int p3), .val (.int cn)] [])) (fun t k => XS.ifYes X0.here hx rfl (pc0 := 7) (pc' := 19) rfl (hb hby d7_7) rfl (XT.i0_le_t hc2) (by decide) (by decide) k) ?_
      exact J1 s₁ _ _  X0 e0 N0 Z0 (Keep.refl h0 [a1, a2]) F0 F1 (show ∀ i, i < 1 → i < n → SE.getD i 0 ≠ p2 by intro i hi hn; exact (Nat.lt_or_ge i 0).elim (fun g => absurd g (Nat.not_lt_zero i)) (fun g => by have e9 : i = 0 := (by omega); subst e9; exact absurd (Int32.lt_iff_toInt_lt.mpr (show (0 : Int32).toInt < cn.toInt by have z : (0 : Int32).toInt = 0 := rfl; omega)) hc2))
  intro T1 lo1 h1  X1 e1 N1 z1 kp1 lf1_0 lf1_1 hq1
  refine own_cut (P := ∀ (T4 : State) (lo4 : List Loc) (h4 : Heap), Stand p l e ({ frames := 0, cells := 0, slots := 0, locals := 0 } : Room) s m #[(.ref a1), (.ref a2), (.int p2), (.int p3)] below meth c T4 lo4 0 0 → T4.heap = h4 → Fr n0 lo4 → n0 ≤ h4.size → Keep h0 h4 [a1, a2] → own_A Z h4 a1 .int (SE.map Value.int) → own_A Z h4 a2 .int [(.int cn)] → (∀ i, i < 2 → i < n → SE.getD i 0 ≠ p2) → own_Go p e below s (Q7 Z a1 a2 p2 p3 cn SE n cap h0 n0) ({ frames := 0, cells := 0, slots := 0, locals := 0 } : Room).cells ({ frames := 0, cells := 0, slots := 0, locals := 0 } : Room).slots (T4.setTop (mkF m 34 #[.val (.ref a1), .val (.ref a2), .val (.int p2), .val (.int p3), .val (.int cn)] []))) (fun J4 => ?_) ?_
  · refine own_st (B := T1.setTop (mkF m 21 #[.val (.ref a1), .val (.ref a2), .val (.int p2), .val (.int p3), .val (.int cn)] [(.int cn)])) (fun t k => XS.iload X1.here hx rfl (hb hby d7_19) rfl k) ?_
    refine own_st (B := T1.setTop (mkF m 22 #[.val (.ref a1), .val (.ref a2), .val (.int p2), .val (.int p3), .val (.int cn)] [(.int (1 : Int32)), (.int cn)])) (fun t k => XS.iconst X1.here hx rfl (hb hby d7_21) k) ?_
    by_cases hc5 : (1 : Int32) < cn
    · refine own_st (B := T1.setTop (mkF m 25 #[.val (.ref a1), .val (.ref a2), .val (.int p2), .val (.int p3), .val (.int cn)] [])) (fun t k => XS.icmpNo X1.here hx rfl (hb hby d7_22) rfl (XT.ii_le_f hc5) k) ?_
      refine own_st (B := T1.setTop (mkF m 26 #[.val (.ref a1), .val (.ref a2), .val (.int p2), .val (.int p3), .val (.int cn)] [(.ref a1)])) (fun t k => XS.aloadN X1.here hx rfl (hb hby d7_25) rfl rfl k) ?_
      refine own_st (B := T1.setTop (mkF m 27 #[.val (.ref a1), .val (.ref a2), .val (.int p2), .val (.int p3), .val (.int cn)] [(.int (1 : Int32)), (.ref a1)])) (fun t k => XS.iconst X1.here hx rfl (hb hby d7_26) k) ?_
      refine own_st (B := T1.setTop (mkF m 28 #[.val (.ref a1), .val (.ref a2), .val (.int p2), .val (.int p3), .val (.int cn)] [(.int (SE.getD 1 0))])) (fun t k => own_ldI X1 hx hZ e1 lf1_0 (g := (mkF m 27 #[.val (.ref a1), .val (.ref a2), .val (.int p2), .val (.int p3), .val (.int cn)] [(.int (1 : Int32)), (.ref a1)])) (i := 1) (by decide) (own_getI (by omega)) rfl rfl (hb hby d7_27) k) ?_
      refine own_st (B := T1.setTop (mkF m 29 #[.val (.ref a1), .val (.ref a2), .val (.int p2), .val (.int p3), .val (.int cn)] [(.int p2), (.int (SE.getD 1 0))])) (fun t k => XS.iloadN X1.here hx rfl (hb hby d7_28) rfl k) ?_
      by_cases hc6 : (SE.getD 1 0) = p2
      · refine own_st (B := T1.setTop (mkF m 32 #[.val (.ref a1), .val (.ref a2), .val (.int p2), .val (.int p3), .val (.int cn)] [])) (fun t k => XS.icmpNo X1.here hx rfl (hb hby d7_29) rfl (XT.ii_ne_f hc6) k) ?_
        refine own_st (B := T1.setTop (mkF m 33 #[.val (.ref a1), .val (.ref a2), .val (.int p2), .val (.int p3), .val (.int cn)] [(.int (1 : Int32))])) (fun t k => XS.iconst X1.here hx rfl (hb hby d7_32) k) ?_
        refine own_retI X1 hx hlk Bd.returns (hb hby d7_33) (by decide) (by decide) ?_
        show Q7 Z a1 a2 p2 p3 cn SE n cap h0 n0 _ T1.heap _
        rw [e1]
        exact ⟨(1 : Int32), n, SE, cn, rfl, N1, kp1, lf1_0, lf1_1, (Or.inl ⟨1, by have h9 := Int32.lt_iff_toInt_lt.mp hc5; have z : (1 : Int32).toInt = 1 := rfl; omega, hc6, rfl, rfl, rfl⟩), hcn⟩
      · refine own_st (B := T1.setTop (mkF m 34 #[.val (.ref a1), .val (.ref a2), .val (.int p2), .val (.int p3), .val (.int cn)] [])) (fun t k => XS.icmpYes X1.here hx rfl (pc0 := 29) (pc' := 34) rfl (hb hby d7_29) rfl (XT.ii_ne_t hc6) (by decide) (by decide) k) ?_
        exact J4 T1 _ _  X1 e1 N1 z1 kp1 lf1_0 lf1_1 (show ∀ i, i < 2 → i < n → SE.getD i 0 ≠ p2 by intro i hi hn; exact (Nat.lt_or_ge i 1).elim (fun g => hq1 i g hn) (fun g => by have e9 : i = 1 := (by omega); subst e9; exact hc6))
    · refine own_st (B := T1.setTop (mkF m 34 #[.val (.ref a1), .val (.ref a2), .val (.int p2), .val (.int p3), .val (.int cn)] [])) (fun t k => XS.icmpYes X1.here hx rfl (pc0 := 22) (pc' := 34) rfl (hb hby d7_22) rfl (XT.ii_le_t hc5) (by decide) (by decide) k) ?_
      exact J4 T1 _ _  X1 e1 N1 z1 kp1 lf1_0 lf1_1 (show ∀ i, i < 2 → i < n → SE.getD i 0 ≠ p2 by intro i hi hn; exact (Nat.lt_or_ge i 1).elim (fun g => hq1 i g hn) (fun g => by have e9 : i = 1 := (by omega); subst e9; exact absurd (Int32.lt_iff_toInt_lt.mpr (show (1 : Int32).toInt < cn.toInt by have z : (1 : Int32).toInt = 1 := rfl; omega)) hc5))
  intro T4 lo4 h4  X4 e4 N4 z4 kp4 lf4_0 lf4_1 hq2
  refine own_cut (P := ∀ (T7 : State) (lo7 : List Loc) (h7 : Heap), Stand p l e ({ frames := 0, cells := 0, slots := 0, locals := 0 } : Room) s m #[(.ref a1), (.ref a2), (.int p2), (.int p3)] below meth c T7 lo7 0 0 → T7.heap = h7 → Fr n0 lo7 → n0 ≤ h7.size → Keep h0 h7 [a1, a2] → own_A Z h7 a1 .int (SE.map Value.int) → own_A Z h7 a2 .int [(.int cn)] → (∀ i, i < 3 → i < n → SE.getD i 0 ≠ p2) → own_Go p e below s (Q7 Z a1 a2 p2 p3 cn SE n cap h0 n0) ({ frames := 0, cells := 0, slots := 0, locals := 0 } : Room).cells ({ frames := 0, cells := 0, slots := 0, locals := 0 } : Room).slots (T7.setTop (mkF m 49 #[.val (.ref a1), .val (.ref a2), .val (.int p2), .val (.int p3), .val (.int cn)] []))) (fun J7 => ?_) ?_
  · refine own_st (B := T4.setTop (mkF m 36 #[.val (.ref a1), .val (.ref a2), .val (.int p2), .val (.int p3), .val (.int cn)] [(.int cn)])) (fun t k => XS.iload X4.here hx rfl (hb hby d7_34) rfl k) ?_
    refine own_st (B := T4.setTop (mkF m 37 #[.val (.ref a1), .val (.ref a2), .val (.int p2), .val (.int p3), .val (.int cn)] [(.int (2 : Int32)), (.int cn)])) (fun t k => XS.iconst X4.here hx rfl (hb hby d7_36) k) ?_
    by_cases hc8 : (2 : Int32) < cn
    · refine own_st (B := T4.setTop (mkF m 40 #[.val (.ref a1), .val (.ref a2), .val (.int p2), .val (.int p3), .val (.int cn)] [])) (fun t k => XS.icmpNo X4.here hx rfl (hb hby d7_37) rfl (XT.ii_le_f hc8) k) ?_
      refine own_st (B := T4.setTop (mkF m 41 #[.val (.ref a1), .val (.ref a2), .val (.int p2), .val (.int p3), .val (.int cn)] [(.ref a1)])) (fun t k => XS.aloadN X4.here hx rfl (hb hby d7_40) rfl rfl k) ?_
      refine own_st (B := T4.setTop (mkF m 42 #[.val (.ref a1), .val (.ref a2), .val (.int p2), .val (.int p3), .val (.int cn)] [(.int (2 : Int32)), (.ref a1)])) (fun t k => XS.iconst X4.here hx rfl (hb hby d7_41) k) ?_
      refine own_st (B := T4.setTop (mkF m 43 #[.val (.ref a1), .val (.ref a2), .val (.int p2), .val (.int p3), .val (.int cn)] [(.int (SE.getD 2 0))])) (fun t k => own_ldI X4 hx hZ e4 lf4_0 (g := (mkF m 42 #[.val (.ref a1), .val (.ref a2), .val (.int p2), .val (.int p3), .val (.int cn)] [(.int (2 : Int32)), (.ref a1)])) (i := 2) (by decide) (own_getI (by omega)) rfl rfl (hb hby d7_42) k) ?_
      refine own_st (B := T4.setTop (mkF m 44 #[.val (.ref a1), .val (.ref a2), .val (.int p2), .val (.int p3), .val (.int cn)] [(.int p2), (.int (SE.getD 2 0))])) (fun t k => XS.iloadN X4.here hx rfl (hb hby d7_43) rfl k) ?_
      by_cases hc9 : (SE.getD 2 0) = p2
      · refine own_st (B := T4.setTop (mkF m 47 #[.val (.ref a1), .val (.ref a2), .val (.int p2), .val (.int p3), .val (.int cn)] [])) (fun t k => XS.icmpNo X4.here hx rfl (hb hby d7_44) rfl (XT.ii_ne_f hc9) k) ?_
        refine own_st (B := T4.setTop (mkF m 48 #[.val (.ref a1), .val (.ref a2), .val (.int p2), .val (.int p3), .val (.int cn)] [(.int (2 : Int32))])) (fun t k => XS.iconst X4.here hx rfl (hb hby d7_47) k) ?_
        refine own_retI X4 hx hlk Bd.returns (hb hby d7_48) (by decide) (by decide) ?_
        show Q7 Z a1 a2 p2 p3 cn SE n cap h0 n0 _ T4.heap _
        rw [e4]
        exact ⟨(2 : Int32), n, SE, cn, rfl, N4, kp4, lf4_0, lf4_1, (Or.inl ⟨2, by have h9 := Int32.lt_iff_toInt_lt.mp hc8; have z : (2 : Int32).toInt = 2 := rfl; omega, hc9, rfl, rfl, rfl⟩), hcn⟩
      · refine own_st (B := T4.setTop (mkF m 49 #[.val (.ref a1), .val (.ref a2), .val (.int p2), .val (.int p3), .val (.int cn)] [])) (fun t k => XS.icmpYes X4.here hx rfl (pc0 := 44) (pc' := 49) rfl (hb hby d7_44) rfl (XT.ii_ne_t hc9) (by decide) (by decide) k) ?_
        exact J7 T4 _ _  X4 e4 N4 z4 kp4 lf4_0 lf4_1 (show ∀ i, i < 3 → i < n → SE.getD i 0 ≠ p2 by intro i hi hn; exact (Nat.lt_or_ge i 2).elim (fun g => hq2 i g hn) (fun g => by have e9 : i = 2 := (by omega); subst e9; exact hc9))
    · refine own_st (B := T4.setTop (mkF m 49 #[.val (.ref a1), .val (.ref a2), .val (.int p2), .val (.int p3), .val (.int cn)] [])) (fun t k => XS.icmpYes X4.here hx rfl (pc0 := 37) (pc' := 49) rfl (hb hby d7_37) rfl (XT.ii_le_t hc8) (by decide) (by decide) k) ?_
      exact J7 T4 _ _  X4 e4 N4 z4 kp4 lf4_0 lf4_1 (show ∀ i, i < 3 → i < n → SE.getD i 0 ≠ p2 by intro i hi hn; exact (Nat.lt_or_ge i 2).elim (fun g => hq2 i g hn) (fun g => by have e9 : i = 2 := (by omega); subst e9; exact absurd (Int32.lt_iff_toInt_lt.mpr (show (2 : Int32).toInt < cn.toInt by have z : (2 : Int32).toInt = 2 := rfl; omega)) hc8))
  intro T7 lo7 h7  X7 e7 N7 z7 kp7 lf7_0 lf7_1 hq3
  refine own_cut (P := ∀ (T10 : State) (lo10 : List Loc) (h10 : Heap), Stand p l e ({ frames := 0, cells := 0, slots := 0, locals := 0 } : Room) s m #[(.ref a1), (.ref a2), (.int p2), (.int p3)] below meth c T10 lo10 0 0 → T10.heap = h10 → Fr n0 lo10 → n0 ≤ h10.size → Keep h0 h10 [a1, a2] → own_A Z h10 a1 .int (SE.map Value.int) → own_A Z h10 a2 .int [(.int cn)] → (∀ i, i < 4 → i < n → SE.getD i 0 ≠ p2) → own_Go p e below s (Q7 Z a1 a2 p2 p3 cn SE n cap h0 n0) ({ frames := 0, cells := 0, slots := 0, locals := 0 } : Room).cells ({ frames := 0, cells := 0, slots := 0, locals := 0 } : Room).slots (T10.setTop (mkF m 64 #[.val (.ref a1), .val (.ref a2), .val (.int p2), .val (.int p3), .val (.int cn)] []))) (fun J10 => ?_) ?_
  · refine own_st (B := T7.setTop (mkF m 51 #[.val (.ref a1), .val (.ref a2), .val (.int p2), .val (.int p3), .val (.int cn)] [(.int cn)])) (fun t k => XS.iload X7.here hx rfl (hb hby d7_49) rfl k) ?_
    refine own_st (B := T7.setTop (mkF m 52 #[.val (.ref a1), .val (.ref a2), .val (.int p2), .val (.int p3), .val (.int cn)] [(.int (3 : Int32)), (.int cn)])) (fun t k => XS.iconst X7.here hx rfl (hb hby d7_51) k) ?_
    by_cases hc11 : (3 : Int32) < cn
    · refine own_st (B := T7.setTop (mkF m 55 #[.val (.ref a1), .val (.ref a2), .val (.int p2), .val (.int p3), .val (.int cn)] [])) (fun t k => XS.icmpNo X7.here hx rfl (hb hby d7_52) rfl (XT.ii_le_f hc11) k) ?_
      refine own_st (B := T7.setTop (mkF m 56 #[.val (.ref a1), .val (.ref a2), .val (.int p2), .val (.int p3), .val (.int cn)] [(.ref a1)])) (fun t k => XS.aloadN X7.here hx rfl (hb hby d7_55) rfl rfl k) ?_
      refine own_st (B := T7.setTop (mkF m 57 #[.val (.ref a1), .val (.ref a2), .val (.int p2), .val (.int p3), .val (.int cn)] [(.int (3 : Int32)), (.ref a1)])) (fun t k => XS.iconst X7.here hx rfl (hb hby d7_56) k) ?_
      refine own_st (B := T7.setTop (mkF m 58 #[.val (.ref a1), .val (.ref a2), .val (.int p2), .val (.int p3), .val (.int cn)] [(.int (SE.getD 3 0))])) (fun t k => own_ldI X7 hx hZ e7 lf7_0 (g := (mkF m 57 #[.val (.ref a1), .val (.ref a2), .val (.int p2), .val (.int p3), .val (.int cn)] [(.int (3 : Int32)), (.ref a1)])) (i := 3) (by decide) (own_getI (by omega)) rfl rfl (hb hby d7_57) k) ?_
      refine own_st (B := T7.setTop (mkF m 59 #[.val (.ref a1), .val (.ref a2), .val (.int p2), .val (.int p3), .val (.int cn)] [(.int p2), (.int (SE.getD 3 0))])) (fun t k => XS.iloadN X7.here hx rfl (hb hby d7_58) rfl k) ?_
      by_cases hc12 : (SE.getD 3 0) = p2
      · refine own_st (B := T7.setTop (mkF m 62 #[.val (.ref a1), .val (.ref a2), .val (.int p2), .val (.int p3), .val (.int cn)] [])) (fun t k => XS.icmpNo X7.here hx rfl (hb hby d7_59) rfl (XT.ii_ne_f hc12) k) ?_
        refine own_st (B := T7.setTop (mkF m 63 #[.val (.ref a1), .val (.ref a2), .val (.int p2), .val (.int p3), .val (.int cn)] [(.int (3 : Int32))])) (fun t k => XS.iconst X7.here hx rfl (hb hby d7_62) k) ?_
        refine own_retI X7 hx hlk Bd.returns (hb hby d7_63) (by decide) (by decide) ?_
        show Q7 Z a1 a2 p2 p3 cn SE n cap h0 n0 _ T7.heap _
        rw [e7]
        exact ⟨(3 : Int32), n, SE, cn, rfl, N7, kp7, lf7_0, lf7_1, (Or.inl ⟨3, by have h9 := Int32.lt_iff_toInt_lt.mp hc11; have z : (3 : Int32).toInt = 3 := rfl; omega, hc12, rfl, rfl, rfl⟩), hcn⟩
      · refine own_st (B := T7.setTop (mkF m 64 #[.val (.ref a1), .val (.ref a2), .val (.int p2), .val (.int p3), .val (.int cn)] [])) (fun t k => XS.icmpYes X7.here hx rfl (pc0 := 59) (pc' := 64) rfl (hb hby d7_59) rfl (XT.ii_ne_t hc12) (by decide) (by decide) k) ?_
        exact J10 T7 _ _  X7 e7 N7 z7 kp7 lf7_0 lf7_1 (show ∀ i, i < 4 → i < n → SE.getD i 0 ≠ p2 by intro i hi hn; exact (Nat.lt_or_ge i 3).elim (fun g => hq3 i g hn) (fun g => by have e9 : i = 3 := (by omega); subst e9; exact hc12))
    · refine own_st (B := T7.setTop (mkF m 64 #[.val (.ref a1), .val (.ref a2), .val (.int p2), .val (.int p3), .val (.int cn)] [])) (fun t k => XS.icmpYes X7.here hx rfl (pc0 := 52) (pc' := 64) rfl (hb hby d7_52) rfl (XT.ii_le_t hc11) (by decide) (by decide) k) ?_
      exact J10 T7 _ _  X7 e7 N7 z7 kp7 lf7_0 lf7_1 (show ∀ i, i < 4 → i < n → SE.getD i 0 ≠ p2 by intro i hi hn; exact (Nat.lt_or_ge i 3).elim (fun g => hq3 i g hn) (fun g => by have e9 : i = 3 := (by omega); subst e9; exact absurd (Int32.lt_iff_toInt_lt.mpr (show (3 : Int32).toInt < cn.toInt by have z : (3 : Int32).toInt = 3 := rfl; omega)) hc11))
  intro T10 lo10 h10  X10 e10 N10 z10 kp10 lf10_0 lf10_1 hq4
  refine own_st (B := T10.setTop (mkF m 66 #[.val (.ref a1), .val (.ref a2), .val (.int p2), .val (.int p3), .val (.int cn)] [(.int cn)])) (fun t k => XS.iload X10.here hx rfl (hb hby d7_64) rfl k) ?_
  refine own_st (B := T10.setTop (mkF m 67 #[.val (.ref a1), .val (.ref a2), .val (.int p2), .val (.int p3), .val (.int cn)] [(.int p3), (.int cn)])) (fun t k => XS.iloadN X10.here hx rfl (hb hby d7_66) rfl k) ?_
  by_cases hc13 : cn < p3
  · refine own_st (B := T10.setTop (mkF m 72 #[.val (.ref a1), .val (.ref a2), .val (.int p2), .val (.int p3), .val (.int cn)] [])) (fun t k => XS.icmpYes X10.here hx rfl (pc0 := 67) (pc' := 72) rfl (hb hby d7_67) rfl (XT.ii_lt_t hc13) (by decide) (by decide) k) ?_
    refine own_st (B := T10.setTop (mkF m 73 #[.val (.ref a1), .val (.ref a2), .val (.int p2), .val (.int p3), .val (.int cn)] [(.ref a1)])) (fun t k => XS.aloadN X10.here hx rfl (hb hby d7_72) rfl rfl k) ?_
    refine own_st (B := T10.setTop (mkF m 75 #[.val (.ref a1), .val (.ref a2), .val (.int p2), .val (.int p3), .val (.int cn)] [(.int cn), (.ref a1)])) (fun t k => XS.iload X10.here hx rfl (hb hby d7_73) rfl k) ?_
    refine own_st (B := T10.setTop (mkF m 76 #[.val (.ref a1), .val (.ref a2), .val (.int p2), .val (.int p3), .val (.int cn)] [(.int p2), (.int cn), (.ref a1)])) (fun t k => XS.iloadN X10.here hx rfl (hb hby d7_75) rfl k) ?_
    obtain ⟨T14, h14, X14, e14, W14, A14, st14⟩ := own_stI X10 hx hZ e10 lf10_0 (j := cn) (x := p2) (i := (cn.toInt.toNat)) (own_nat (by omega)) (by rw [List.length_map]; have h9 := Int32.lt_iff_toInt_lt.mp hc13; omega) (g := (mkF m 76 #[.val (.ref a1), .val (.ref a2), .val (.int p2), .val (.int p3), .val (.int cn)] [(.int p2), (.int cn), (.ref a1)])) rfl rfl (hb hby d7_76)
    have f14_ : own_A Z h14 a1 .int ((SE.map Value.int).set (cn.toInt.toNat) (.int p2)) := A14
    have z15 : n0 ≤ h14.size := Nat.le_trans z10 (Keep.of_wr W14).1
    have kp15 : Keep h0 h14 [a1, a2] := kp10.wr W14 (Or.inl (List.mem_of_getElem? (i := 0) rfl))
    have n16 := Fr.snoc X14 N10 g1
    refine own_st (B := T14.setTop (mkF m 77 #[.val (.ref a1), .val (.ref a2), .val (.int p2), .val (.int p3), .val (.int cn)] [])) (fun t k => st14 t k) ?_
    have f17 : own_A Z h14 a1 .int ((SE.set (cn.toInt.toNat) p2).map Value.int) := by rw [List.map_set]; exact f14_
    refine own_st (B := T14.setTop (mkF m 78 #[.val (.ref a1), .val (.ref a2), .val (.int p2), .val (.int p3), .val (.int cn)] [(.ref a2)])) (fun t k => XS.aloadN X14.here hx rfl (hb hby d7_77) rfl rfl k) ?_
    refine own_st (B := T14.setTop (mkF m 79 #[.val (.ref a1), .val (.ref a2), .val (.int p2), .val (.int p3), .val (.int cn)] [(.int (0 : Int32)), (.ref a2)])) (fun t k => XS.iconst X14.here hx rfl (hb hby d7_78) k) ?_
    refine own_st (B := T14.setTop (mkF m 81 #[.val (.ref a1), .val (.ref a2), .val (.int p2), .val (.int p3), .val (.int cn)] [(.int cn), (.int (0 : Int32)), (.ref a2)])) (fun t k => XS.iload X14.here hx rfl (hb hby d7_79) rfl k) ?_
    refine own_st (B := T14.setTop (mkF m 82 #[.val (.ref a1), .val (.ref a2), .val (.int p2), .val (.int p3), .val (.int cn)] [(.int (1 : Int32)), (.int cn), (.int (0 : Int32)), (.ref a2)])) (fun t k => XS.iconst X14.here hx rfl (hb hby d7_81) k) ?_
    refine own_st (B := T14.setTop (mkF m 83 #[.val (.ref a1), .val (.ref a2), .val (.int p2), .val (.int p3), .val (.int cn)] [(.int (cn + (1 : Int32))), (.int (0 : Int32)), (.ref a2)])) (fun t k => XS.iadd X14.here hx rfl (hb hby d7_82) rfl k) ?_
    have f18 : own_A Z h14 a2 .int [(.int cn)] := (lf10_1.other W14 (Ne.symm na))
    obtain ⟨T19, h19, X19, e19, W19, A19, st19⟩ := own_stI X14 hx hZ e14 f18 (j := (0 : Int32)) (x := (cn + (1 : Int32))) (i := 0) (by decide) (show 0 < 1 from by decide) (g := (mkF m 83 #[.val (.ref a1), .val (.ref a2), .val (.int p2), .val (.int p3), .val (.int cn)] [(.int (cn + (1 : Int32))), (.int (0 : Int32)), (.ref a2)])) rfl rfl (hb hby d7_83)
    have f19_ : own_A Z h19 a2 .int [(.int (cn + (1 : Int32)))] := A19
    have z20 : n0 ≤ h19.size := Nat.le_trans z15 (Keep.of_wr W19).1
    have kp20 : Keep h0 h19 [a1, a2] := kp15.wr W19 (Or.inl (List.mem_of_getElem? (i := 1) rfl))
    have n21 := Fr.snoc X19 n16 g2
    refine own_st (B := T19.setTop (mkF m 84 #[.val (.ref a1), .val (.ref a2), .val (.int p2), .val (.int p3), .val (.int cn)] [])) (fun t k => st19 t k) ?_
    refine own_st (B := T19.setTop (mkF m 86 #[.val (.ref a1), .val (.ref a2), .val (.int p2), .val (.int p3), .val (.int cn)] [(.int cn)])) (fun t k => XS.iload X19.here hx rfl (hb hby d7_84) rfl k) ?_
    refine own_retI X19 hx hlk Bd.returns (hb hby d7_86) (by decide) (by decide) ?_
    show Q7 Z a1 a2 p2 p3 cn SE n cap h0 n0 _ T19.heap _
    rw [e19]
    have f22 : own_A Z h19 a1 .int ((SE.set (cn.toInt.toNat) p2).map Value.int) := (f17.other W19 na)
    exact ⟨cn, (n + 1), (SE.set (cn.toInt.toNat) p2), (cn + (1 : Int32)), rfl, n21, kp20, f22, f19_, (by have h9 := (Int32.lt_iff_toInt_lt.mp hc13); exact Or.inr ⟨fun i hi => hq4 i (by omega) hi, Or.inr ⟨by omega, hcn, rfl, by rw [show cn.toInt.toNat = n from by omega]⟩⟩), (by have h1 := c_iadd cn 1; have h2 := rng32 (cn + 1); have h3 : (1 : Int32).toInt = 1 := rfl; omega)⟩
  · refine own_st (B := T10.setTop (mkF m 70 #[.val (.ref a1), .val (.ref a2), .val (.int p2), .val (.int p3), .val (.int cn)] [])) (fun t k => XS.icmpNo X10.here hx rfl (hb hby d7_67) rfl (XT.ii_lt_f hc13) k) ?_
    refine own_st (B := T10.setTop (mkF m 71 #[.val (.ref a1), .val (.ref a2), .val (.int p2), .val (.int p3), .val (.int cn)] [(.int (-1 : Int32))])) (fun t k => XS.iconst X10.here hx rfl (hb hby d7_70) k) ?_
    refine own_retI X10 hx hlk Bd.returns (hb hby d7_71) (by decide) (by decide) ?_
    show Q7 Z a1 a2 p2 p3 cn SE n cap h0 n0 _ T10.heap _
    rw [e10]
    exact ⟨(-1 : Int32), n, SE, cn, rfl, N10, kp10, lf10_0, lf10_1, (by have h9 : ¬ _ := fun q => hc13 (Int32.lt_iff_toInt_lt.mpr q); exact Or.inr ⟨fun i hi => hq4 i (by omega) hi, Or.inl ⟨by omega, rfl, rfl, rfl⟩⟩), hcn⟩
theorem d8_0 : decode prog_3_method_3_code 0 = .ok (.iload_n 1, 1) := by decide +kernel
theorem d8_1 : decode prog_3_method_3_code 1 = .ok (.ldc 42, 2) := by decide +kernel
theorem d8_3 : decode prog_3_method_3_code 3 = .ok (.imul, 1) := by decide +kernel
theorem d8_4 : decode prog_3_method_3_code 4 = .ok (.bipush 32, 2) := by decide +kernel
theorem d8_6 : decode prog_3_method_3_code 6 = .ok (.aload_n 0, 1) := by decide +kernel
theorem d8_7 : decode prog_3_method_3_code 7 = .ok (.getfield 19, 3) := by decide +kernel
theorem d8_10 : decode prog_3_method_3_code 10 = .ok (.isub, 1) := by decide +kernel
theorem d8_11 : decode prog_3_method_3_code 11 = .ok (.iushr, 1) := by decide +kernel
theorem d8_12 : decode prog_3_method_3_code 12 = .ok (.istore_n 2, 1) := by decide +kernel
theorem d8_13 : decode prog_3_method_3_code 13 = .ok (.aload_n 0, 1) := by decide +kernel
theorem d8_14 : decode prog_3_method_3_code 14 = .ok (.getfield 26, 3) := by decide +kernel
theorem d8_17 : decode prog_3_method_3_code 17 = .ok (.iload_n 2, 1) := by decide +kernel
theorem d8_18 : decode prog_3_method_3_code 18 = .ok (.saload, 1) := by decide +kernel
theorem d8_19 : decode prog_3_method_3_code 19 = .ok (.iconst (-1), 1) := by decide +kernel
theorem d8_20 : decode prog_3_method_3_code 20 = .ok (.if_icmp .eq 28, 3) := by decide +kernel
theorem d8_23 : decode prog_3_method_3_code 23 = .ok (.aload_n 0, 1) := by decide +kernel
theorem d8_24 : decode prog_3_method_3_code 24 = .ok (.getfield 23, 3) := by decide +kernel
theorem d8_27 : decode prog_3_method_3_code 27 = .ok (.iload_n 2, 1) := by decide +kernel
theorem d8_28 : decode prog_3_method_3_code 28 = .ok (.iaload, 1) := by decide +kernel
theorem d8_29 : decode prog_3_method_3_code 29 = .ok (.iload_n 1, 1) := by decide +kernel
theorem d8_30 : decode prog_3_method_3_code 30 = .ok (.if_icmp .eq 18, 3) := by decide +kernel
theorem d8_33 : decode prog_3_method_3_code 33 = .ok (.iload_n 2, 1) := by decide +kernel
theorem d8_34 : decode prog_3_method_3_code 34 = .ok (.iconst 1, 1) := by decide +kernel
theorem d8_35 : decode prog_3_method_3_code 35 = .ok (.iadd, 1) := by decide +kernel
theorem d8_36 : decode prog_3_method_3_code 36 = .ok (.aload_n 0, 1) := by decide +kernel
theorem d8_37 : decode prog_3_method_3_code 37 = .ok (.getfield 26, 3) := by decide +kernel
theorem d8_40 : decode prog_3_method_3_code 40 = .ok (.arraylength, 1) := by decide +kernel
theorem d8_41 : decode prog_3_method_3_code 41 = .ok (.iconst 1, 1) := by decide +kernel
theorem d8_42 : decode prog_3_method_3_code 42 = .ok (.isub, 1) := by decide +kernel
theorem d8_43 : decode prog_3_method_3_code 43 = .ok (.iand, 1) := by decide +kernel
theorem d8_44 : decode prog_3_method_3_code 44 = .ok (.istore_n 2, 1) := by decide +kernel
theorem d8_45 : decode prog_3_method_3_code 45 = .ok (.goto (-32), 3) := by decide +kernel
theorem d8_48 : decode prog_3_method_3_code 48 = .ok (.aload_n 0, 1) := by decide +kernel
theorem d8_49 : decode prog_3_method_3_code 49 = .ok (.getfield 26, 3) := by decide +kernel
theorem d8_52 : decode prog_3_method_3_code 52 = .ok (.iload_n 2, 1) := by decide +kernel
theorem d8_53 : decode prog_3_method_3_code 53 = .ok (.saload, 1) := by decide +kernel
theorem d8_54 : decode prog_3_method_3_code 54 = .ok (.iconst (-1), 1) := by decide +kernel
theorem d8_55 : decode prog_3_method_3_code 55 = .ok (.if_icmp .eq 13, 3) := by decide +kernel
theorem d8_58 : decode prog_3_method_3_code 58 = .ok (.aload_n 0, 1) := by decide +kernel
theorem d8_59 : decode prog_3_method_3_code 59 = .ok (.getfield 26, 3) := by decide +kernel
theorem d8_62 : decode prog_3_method_3_code 62 = .ok (.iload_n 2, 1) := by decide +kernel
theorem d8_63 : decode prog_3_method_3_code 63 = .ok (.saload, 1) := by decide +kernel
theorem d8_64 : decode prog_3_method_3_code 64 = .ok (.istore_n 3, 1) := by decide +kernel
theorem d8_65 : decode prog_3_method_3_code 65 = .ok (.goto 57, 3) := by decide +kernel
theorem d8_68 : decode prog_3_method_3_code 68 = .ok (.aload_n 0, 1) := by decide +kernel
theorem d8_69 : decode prog_3_method_3_code 69 = .ok (.getfield 39, 3) := by decide +kernel
theorem d8_72 : decode prog_3_method_3_code 72 = .ok (.aload_n 0, 1) := by decide +kernel
theorem d8_73 : decode prog_3_method_3_code 73 = .ok (.getfield 7, 3) := by decide +kernel
theorem d8_76 : decode prog_3_method_3_code 76 = .ok (.arraylength, 1) := by decide +kernel
theorem d8_77 : decode prog_3_method_3_code 77 = .ok (.if_icmp .ne 8, 3) := by decide +kernel
theorem d8_80 : decode prog_3_method_3_code 80 = .ok (.iconst (-1), 1) := by decide +kernel
theorem d8_81 : decode prog_3_method_3_code 81 = .ok (.istore_n 3, 1) := by decide +kernel
theorem d8_82 : decode prog_3_method_3_code 82 = .ok (.goto 40, 3) := by decide +kernel
theorem d8_85 : decode prog_3_method_3_code 85 = .ok (.aload_n 0, 1) := by decide +kernel
theorem d8_86 : decode prog_3_method_3_code 86 = .ok (.getfield 39, 3) := by decide +kernel
theorem d8_89 : decode prog_3_method_3_code 89 = .ok (.istore_n 3, 1) := by decide +kernel
theorem d8_90 : decode prog_3_method_3_code 90 = .ok (.aload_n 0, 1) := by decide +kernel
theorem d8_91 : decode prog_3_method_3_code 91 = .ok (.getfield 7, 3) := by decide +kernel
theorem d8_94 : decode prog_3_method_3_code 94 = .ok (.aload_n 0, 1) := by decide +kernel
theorem d8_95 : decode prog_3_method_3_code 95 = .ok (.dup, 1) := by decide +kernel
theorem d8_96 : decode prog_3_method_3_code 96 = .ok (.getfield 39, 3) := by decide +kernel
theorem d8_99 : decode prog_3_method_3_code 99 = .ok (.dup_x1, 1) := by decide +kernel
theorem d8_100 : decode prog_3_method_3_code 100 = .ok (.iconst 1, 1) := by decide +kernel
theorem d8_101 : decode prog_3_method_3_code 101 = .ok (.iadd, 1) := by decide +kernel
theorem d8_102 : decode prog_3_method_3_code 102 = .ok (.putfield 39, 3) := by decide +kernel
theorem d8_105 : decode prog_3_method_3_code 105 = .ok (.iload_n 1, 1) := by decide +kernel
theorem d8_106 : decode prog_3_method_3_code 106 = .ok (.iastore, 1) := by decide +kernel
theorem d8_107 : decode prog_3_method_3_code 107 = .ok (.aload_n 0, 1) := by decide +kernel
theorem d8_108 : decode prog_3_method_3_code 108 = .ok (.getfield 23, 3) := by decide +kernel
theorem d8_111 : decode prog_3_method_3_code 111 = .ok (.iload_n 2, 1) := by decide +kernel
theorem d8_112 : decode prog_3_method_3_code 112 = .ok (.iload_n 1, 1) := by decide +kernel
theorem d8_113 : decode prog_3_method_3_code 113 = .ok (.iastore, 1) := by decide +kernel
theorem d8_114 : decode prog_3_method_3_code 114 = .ok (.aload_n 0, 1) := by decide +kernel
theorem d8_115 : decode prog_3_method_3_code 115 = .ok (.getfield 26, 3) := by decide +kernel
theorem d8_118 : decode prog_3_method_3_code 118 = .ok (.iload_n 2, 1) := by decide +kernel
theorem d8_119 : decode prog_3_method_3_code 119 = .ok (.iload_n 3, 1) := by decide +kernel
theorem d8_120 : decode prog_3_method_3_code 120 = .ok (.i2s, 1) := by decide +kernel
theorem d8_121 : decode prog_3_method_3_code 121 = .ok (.sastore, 1) := by decide +kernel
theorem d8_122 : decode prog_3_method_3_code 122 = .ok (.iload_n 3, 1) := by decide +kernel
theorem d8_123 : decode prog_3_method_3_code 123 = .ok (.ireturn, 1) := by decide +kernel
theorem ef_8 (m : MethodId) (x0 : Addr) (x1 : Int32) : entryFrame m #[(.ref x0), (.int x1)] 4 = mkF m 0 #[.val (.ref x0), .val (.int x1), .unset, .unset] [] := by first | (simp [entryFrame, mkF, argsToLocals, Value.category]; done) | rfl
def Q8 (Z : State) (a1 : Addr) (p1 : Int32) (ac : Addr) (asl : Addr) (ai : Addr) (B : Int32) (sz : Int32) (N : Nat) (cap : Nat) (n : Nat) (CO : List Int32) (SC : List Int32) (SI : List Int32) (h0 : Heap) (n0 : Nat) (v : Option Value) (h : Heap) (L : List Loc) : Prop := ∃ (r : Int32) (n2 : Nat) (sz2 : Int32) (CO2 : List Int32) (SC2 : List Int32) (SI2 : List Int32), v = some (.int r) ∧ Fr n0 L ∧ Keep h0 h [a1, ac, asl, ai] ∧ Fld Z h a1 "com/example/relayframe/relayframe/Palette" "colours" "[I" (.ref ac) ∧ Fld Z h a1 "com/example/relayframe/relayframe/Palette" "slotBits" "I" (.int B) ∧ Fld Z h a1 "com/example/relayframe/relayframe/Palette" "slotColours" "[I" (.ref asl) ∧ Fld Z h a1 "com/example/relayframe/relayframe/Palette" "slotIndices" "[S" (.ref ai) ∧ Fld Z h a1 "com/example/relayframe/relayframe/Palette" "size" "I" (.int sz2) ∧ own_A Z h ac .int (CO2.map Value.int) ∧ own_A Z h asl .int (SC2.map Value.int) ∧ own_A Z h ai .short (SI2.map Value.int) ∧ (own_I0 N cap n2 (own_H B) CO2 SC2 SI2) ∧ (sz2.toInt = (n2 : Int)) ∧ (own_Res n cap p1 CO r n2 CO2)
set_option maxHeartbeats 40000000 in
theorem rm8 (l : Launch) (Z : State) (a0 : Array Value) (hw : ∀ d ∈ tables_1, d.before a0 Z = true) (ws : List Jvm.Cond) (a1 : Addr) (p1 : Int32) (ac : Addr) (asl : Addr) (ai : Addr) (B : Int32) (sz : Int32) (N : Nat) (cap : Nat) (n : Nat) (CO : List Int32) (SC : List Int32) (SI : List Int32) (h0 : Heap) (n0 : Nat) (Z0 : n0 ≤ h0.size) (F0 : Exa Z h0 a1 "com/example/relayframe/relayframe/Palette") (F1 : Fld Z h0 a1 "com/example/relayframe/relayframe/Palette" "colours" "[I" (.ref ac)) (F2 : Fld Z h0 a1 "com/example/relayframe/relayframe/Palette" "slotBits" "I" (.int B)) (F3 : Fld Z h0 a1 "com/example/relayframe/relayframe/Palette" "slotColours" "[I" (.ref asl)) (F4 : Fld Z h0 a1 "com/example/relayframe/relayframe/Palette" "slotIndices" "[S" (.ref ai)) (F5 : Fld Z h0 a1 "com/example/relayframe/relayframe/Palette" "size" "I" (.int sz)) (F6 : own_A Z h0 ac .int (CO.map Value.int)) (F7 : own_A Z h0 asl .int (SC.map Value.int)) (F8 : own_A Z h0 ai .short (SI.map Value.int)) (F9 : Exa Z h0 ac "[I") (F10 : Exa Z h0 asl "[I") (F11 : Exa Z h0 ai "[S") (nca : ac ≠ asl) (g1 : n0 ≤ a1) (g2 : n0 ≤ ac) (g3 : n0 ≤ asl) (g4 : n0 ≤ ai) (hNB : own_NB N B) (hI : own_I0 N cap n (own_H B) CO SC SI) (hsz : sz.toInt = (n : Int)) (hcap : cap < N ∧ cap ≤ 4) :
    MetFree l (⟨"com/example/relayframe/relayframe/Palette", "indexOf", "(I)I"⟩ : MethodName) (head1 (Jvm.Cond.code (⟨"com/example/relayframe/relayframe/Palette", "indexOf", "(I)I"⟩ : MethodName) prog_3_method_3_code 4 (some .int) :: ws) ({ frames := 0, cells := 0, slots := 0, locals := 0 } : Room)) (fun a U => a = #[(.ref a1), (.int p1)] ∧ Z.Warmed39 U.vm ∧ U.heap = h0) (fun _ _ _ _ _ => True) (fun _ U o U' => ∃ v L, o = .returned v ∧ Q8 Z a1 p1 ac asl ai B sz N cap n CO SC SI h0 n0 v U'.heap L ∧ FrameEnd U o U' L ({ frames := 0, cells := 0, slots := 0, locals := 0 } : Room).cells ({ frames := 0, cells := 0, slots := 0, locals := 0 } : Room).slots) := by
  refine MetFree.of_bodySF (plainFor_of_name own_pn3) hisR ?_
  intro p e s m args below meth c s₁ Bd hml0 hP hK
  obtain ⟨rfl, hZ, hh⟩ := hP
  have hx := Bd.exec
  have hby := Bd.bytes
  have hml : c.maxLocals = 4 := hml0
  have hlk : meth.locks = false := BodyLoose.notSynchronized Bd
  have hown : s.vm.findClass "com/example/relayframe/relayframe/Palette" = some m.cls := findClass_of_methodNamed Bd.named
  have hnm := (name_of_methodNamed Bd.named Bd.method).1
  have X0 : Stand p l e ({ frames := 0, cells := 0, slots := 0, locals := 0 } : Room) s m #[(.ref a1), (.int p1)] below meth c s₁ [] 0 0 := Stand.of_body Bd
  have e0 : s₁.heap = h0 := by rw [← hh, Bd.state]; rfl
  have N0 := Fr.nil n0
  show own_Go p e below s (Q8 Z a1 p1 ac asl ai B sz N cap n CO SC SI h0 n0) ({ frames := 0, cells := 0, slots := 0, locals := 0 } : Room).cells ({ frames := 0, cells := 0, slots := 0, locals := 0 } : Room).slots _
  refine own_st (B := s₁.setTop (mkF m 0 #[.val (.ref a1), .val (.int p1), .unset, .unset] [])) (fun t k => castTop (ef_8 m (a1) (p1)) k) ?_
  refine own_st (B := s₁.setTop (mkF m 1 #[.val (.ref a1), .val (.int p1), .unset, .unset] [(.int p1)])) (fun t k => XS.iloadN X0.here hx rfl (hb hby d8_0) rfl k) ?_
  refine own_st (B := s₁.setTop (mkF m 3 #[.val (.ref a1), .val (.int p1), .unset, .unset] [(.int (-1640531527 : Int32)), (.int p1)])) (fun t k => X0.ldcInt hx hown (mvT hZ (w_47 hw)) (g := (mkF m 1 #[.val (.ref a1), .val (.int p1), .unset, .unset] [(.int p1)])) rfl (hb hby d8_1) _ k) ?_
  refine own_st (B := s₁.setTop (mkF m 4 #[.val (.ref a1), .val (.int p1), .unset, .unset] [(.int (p1 * (-1640531527 : Int32)))])) (fun t k => XS.imul X0.here hx rfl (hb hby d8_3) rfl k) ?_
  refine own_st (B := s₁.setTop (mkF m 6 #[.val (.ref a1), .val (.int p1), .unset, .unset] [(.int (32 : Int32)), (.int (p1 * (-1640531527 : Int32)))])) (fun t k => XS.bipush X0.here hx rfl (hb hby d8_4) k) ?_
  refine own_st (B := s₁.setTop (mkF m 7 #[.val (.ref a1), .val (.int p1), .unset, .unset] [(.ref a1), (.int (32 : Int32)), (.int (p1 * (-1640531527 : Int32)))])) (fun t k => XS.aloadN X0.here hx rfl (hb hby d8_6) rfl rfl k) ?_
  obtain ⟨T1, X1, e1, st1⟩ := getF X0 hx hZ hown (host := "") (Or.inl (w_17 hw)) Via.refl e0 F2 (g := (mkF m 7 #[.val (.ref a1), .val (.int p1), .unset, .unset] [(.ref a1), (.int (32 : Int32)), (.int (p1 * (-1640531527 : Int32)))])) rfl rfl (hb hby d8_7)
  refine own_st (B := T1.setTop (mkF m 10 #[.val (.ref a1), .val (.int p1), .unset, .unset] [(.int B), (.int (32 : Int32)), (.int (p1 * (-1640531527 : Int32)))])) (fun t k => st1 t k) ?_
  refine own_st (B := T1.setTop (mkF m 11 #[.val (.ref a1), .val (.int p1), .unset, .unset] [(.int ((32 : Int32) - B)), (.int (p1 * (-1640531527 : Int32)))])) (fun t k => XS.isub X1.here hx rfl (hb hby d8_10) rfl k) ?_
  refine own_st (B := T1.setTop (mkF m 12 #[.val (.ref a1), .val (.int p1), .unset, .unset] [(.int (((p1 * (-1640531527 : Int32)).toUInt32 >>> (((32 : Int32) - B) &&& 31).toUInt32).toInt32))])) (fun t k => XS.iushr X1.here hx rfl (hb hby d8_11) rfl k) ?_
  obtain ⟨v2, ev2⟩ : ∃ z : Int32, z = (((p1 * (-1640531527 : Int32)).toUInt32 >>> (((32 : Int32) - B) &&& 31).toUInt32).toInt32) := ⟨_, rfl⟩
  rw [← ev2]
  refine own_st (B := T1.setTop (mkF m 13 #[.val (.ref a1), .val (.int p1), .val (.int v2), .unset] [])) (fun t k => XS.istoreN X1.here hx rfl (hb hby d8_12) rfl (l' := #[.val (.ref a1), .val (.int p1), .val (.int v2), .unset]) rfl k) ?_
  obtain ⟨ee, hee, hem⟩ := own_emp hI hcap.1
  obtain ⟨⟨lCO, lSC, lSI, lnc⟩, hI2⟩ := id hI
  refine own_cut (P := ∀ (mu3 : Nat) (T3 : State) (lo3 : List Loc) (sl : Int32) (s3_13 : Slot), Stand p l e ({ frames := 0, cells := 0, slots := 0, locals := 0 } : Room) s m #[(.ref a1), (.int p1)] below meth c T3 lo3 0 0 → T3.heap = h0 → Fr n0 lo3 → One s3_13 → mu3 = (ee + N - sl.toInt.toNat) % N → (0 ≤ sl.toInt ∧ sl.toInt < (N : Int)) → (∃ T, sl.toInt.toNat = (own_H B p1 + T) % N ∧ ∀ u, u < T → SI.getD ((own_H B p1 + u) % N) 0 ≠ -1 ∧ SC.getD ((own_H B p1 + u) % N) 0 ≠ p1) → own_Go p e below s (Q8 Z a1 p1 ac asl ai B sz N cap n CO SC SI h0 n0) ({ frames := 0, cells := 0, slots := 0, locals := 0 } : Room).cells ({ frames := 0, cells := 0, slots := 0, locals := 0 } : Room).slots (T3.setTop (mkF m 13 #[.val (.ref a1), .val (.int p1), .val (.int sl), s3_13] []))) (fun J3 => ?_) ?_
  · exact J3 _ T1 _ v2 .unset X1 e1 N0 One.u rfl (show 0 ≤ v2.toInt ∧ v2.toInt < (N : Int) by rw [ev2]; exact own_hxr hNB p1) (show ∃ T, v2.toInt.toNat = (own_H B p1 + T) % N ∧ ∀ u, u < T → SI.getD ((own_H B p1 + u) % N) 0 ≠ -1 ∧ SC.getD ((own_H B p1 + u) % N) 0 ≠ p1 by rw [ev2]; exact ⟨0, by rw [Nat.add_zero]; exact (Nat.mod_eq_of_lt (own_Hlt hNB p1)).symm, fun u hu => absurd hu (Nat.not_lt_zero u)⟩)
  intro mu3
  induction mu3 using Nat.strongRecOn with
  | ind mu3 ih3 =>
    intro T3 lo3 sl s3_13 X3 e3 N3 hs3_13 hmu3 hsl hT
    refine own_st (B := T3.setTop (mkF m 14 #[.val (.ref a1), .val (.int p1), .val (.int sl), s3_13] [(.ref a1)])) (fun t k => XS.aloadN X3.here hx rfl (hb hby d8_13) rfl rfl k) ?_
    obtain ⟨T4, X4, e4, st4⟩ := getF X3 hx hZ hown (host := "") (Or.inl (w_22 hw)) Via.refl e3 F4 (g := (mkF m 14 #[.val (.ref a1), .val (.int p1), .val (.int sl), s3_13] [(.ref a1)])) rfl rfl (hb hby d8_14)
    refine own_st (B := T4.setTop (mkF m 17 #[.val (.ref a1), .val (.int p1), .val (.int sl), s3_13] [(.ref ai)])) (fun t k => st4 t k) ?_
    refine own_st (B := T4.setTop (mkF m 18 #[.val (.ref a1), .val (.int p1), .val (.int sl), s3_13] [(.int sl), (.ref ai)])) (fun t k => XS.iloadN X4.here hx rfl (hb hby d8_17) rfl k) ?_
    refine own_st (B := T4.setTop (mkF m 19 #[.val (.ref a1), .val (.int p1), .val (.int sl), s3_13] [(.int (SI.getD sl.toInt.toNat 0))])) (fun t k => own_ldS X4 hx hZ e4 F8 (g := (mkF m 18 #[.val (.ref a1), .val (.int p1), .val (.int sl), s3_13] [(.int sl), (.ref ai)])) (i := (sl.toInt.toNat)) (own_nat (by omega)) (own_getI (by omega)) rfl rfl (hb hby d8_18) k) ?_
    refine own_st (B := T4.setTop (mkF m 20 #[.val (.ref a1), .val (.int p1), .val (.int sl), s3_13] [(.int (-1 : Int32)), (.int (SI.getD sl.toInt.toNat 0))])) (fun t k => XS.iconst X4.here hx rfl (hb hby d8_19) k) ?_
    by_cases hc5 : (SI.getD sl.toInt.toNat 0) = (-1 : Int32)
    · refine own_st (B := T4.setTop (mkF m 48 #[.val (.ref a1), .val (.int p1), .val (.int sl), s3_13] [])) (fun t k => XS.icmpYes X4.here hx rfl (pc0 := 20) (pc' := 48) rfl (hb hby d8_20) rfl (XT.ii_eq_t hc5) (by decide) (by decide) k) ?_
      refine own_st (B := T4.setTop (mkF m 49 #[.val (.ref a1), .val (.int p1), .val (.int sl), s3_13] [(.ref a1)])) (fun t k => XS.aloadN X4.here hx rfl (hb hby d8_48) rfl rfl k) ?_
      obtain ⟨T6, X6, e6, st6⟩ := getF X4 hx hZ hown (host := "") (Or.inl (w_22 hw)) Via.refl e4 F4 (g := (mkF m 49 #[.val (.ref a1), .val (.int p1), .val (.int sl), s3_13] [(.ref a1)])) rfl rfl (hb hby d8_49)
      refine own_st (B := T6.setTop (mkF m 52 #[.val (.ref a1), .val (.int p1), .val (.int sl), s3_13] [(.ref ai)])) (fun t k => st6 t k) ?_
      refine own_st (B := T6.setTop (mkF m 53 #[.val (.ref a1), .val (.int p1), .val (.int sl), s3_13] [(.int sl), (.ref ai)])) (fun t k => XS.iloadN X6.here hx rfl (hb hby d8_52) rfl k) ?_
      refine own_st (B := T6.setTop (mkF m 54 #[.val (.ref a1), .val (.int p1), .val (.int sl), s3_13] [(.int (SI.getD sl.toInt.toNat 0))])) (fun t k => own_ldS X6 hx hZ e6 F8 (g := (mkF m 53 #[.val (.ref a1), .val (.int p1), .val (.int sl), s3_13] [(.int sl), (.ref ai)])) (i := (sl.toInt.toNat)) (own_nat (by omega)) (own_getI (by omega)) rfl rfl (hb hby d8_53) k) ?_
      refine own_st (B := T6.setTop (mkF m 55 #[.val (.ref a1), .val (.int p1), .val (.int sl), s3_13] [(.int (-1 : Int32)), (.int (SI.getD sl.toInt.toNat 0))])) (fun t k => XS.iconst X6.here hx rfl (hb hby d8_54) k) ?_
      refine own_st (B := T6.setTop (mkF m 68 #[.val (.ref a1), .val (.int p1), .val (.int sl), s3_13] [])) (fun t k => XS.icmpYes X6.here hx rfl (pc0 := 55) (pc' := 68) rfl (hb hby d8_55) rfl (XT.ii_eq_t hc5) (by decide) (by decide) k) ?_
      refine own_st (B := T6.setTop (mkF m 69 #[.val (.ref a1), .val (.int p1), .val (.int sl), s3_13] [(.ref a1)])) (fun t k => XS.aloadN X6.here hx rfl (hb hby d8_68) rfl rfl k) ?_
      obtain ⟨T7, X7, e7, st7⟩ := getF X6 hx hZ hown (host := "") (Or.inl (w_33 hw)) Via.refl e6 F5 (g := (mkF m 69 #[.val (.ref a1), .val (.int p1), .val (.int sl), s3_13] [(.ref a1)])) rfl rfl (hb hby d8_69)
      refine own_st (B := T7.setTop (mkF m 72 #[.val (.ref a1), .val (.int p1), .val (.int sl), s3_13] [(.int sz)])) (fun t k => st7 t k) ?_
      refine own_st (B := T7.setTop (mkF m 73 #[.val (.ref a1), .val (.int p1), .val (.int sl), s3_13] [(.ref a1), (.int sz)])) (fun t k => XS.aloadN X7.here hx rfl (hb hby d8_72) rfl rfl k) ?_
      obtain ⟨T8, X8, e8, st8⟩ := getF X7 hx hZ hown (host := "") (Or.inl (w_10 hw)) Via.refl e7 F1 (g := (mkF m 73 #[.val (.ref a1), .val (.int p1), .val (.int sl), s3_13] [(.ref a1), (.int sz)])) rfl rfl (hb hby d8_73)
      refine own_st (B := T8.setTop (mkF m 76 #[.val (.ref a1), .val (.int p1), .val (.int sl), s3_13] [(.ref ac), (.int sz)])) (fun t k => st8 t k) ?_
      refine own_st (B := T8.setTop (mkF m 77 #[.val (.ref a1), .val (.int p1), .val (.int sl), s3_13] [(.int (cap.toInt32)), (.int sz)])) (fun t k => own_len X8 hx hZ e8 F6 (g := (mkF m 76 #[.val (.ref a1), .val (.int p1), .val (.int sl), s3_13] [(.ref ac), (.int sz)])) (n := (cap.toInt32)) (by rw [List.length_map, lCO, len_toInt (by omega)]) rfl rfl (hb hby d8_76) k) ?_
      by_cases hc9 : sz = (cap.toInt32)
      · refine own_st (B := T8.setTop (mkF m 80 #[.val (.ref a1), .val (.int p1), .val (.int sl), s3_13] [])) (fun t k => XS.icmpNo X8.here hx rfl (hb hby d8_77) rfl (XT.ii_ne_f hc9) k) ?_
        refine own_st (B := T8.setTop (mkF m 81 #[.val (.ref a1), .val (.int p1), .val (.int sl), s3_13] [(.int (-1 : Int32))])) (fun t k => XS.iconst X8.here hx rfl (hb hby d8_80) k) ?_
        refine own_st (B := T8.setTop (mkF m 82 #[.val (.ref a1), .val (.int p1), .val (.int sl), .val (.int (-1 : Int32))] [])) (fun t k => XS.istoreNS X8.here hx rfl (hb hby d8_81) rfl rfl hs3_13 k) ?_
        refine own_st (B := T8.setTop (mkF m 122 #[.val (.ref a1), .val (.int p1), .val (.int sl), .val (.int (-1 : Int32))] [])) (fun t k => XS.goto X8.here hx rfl (pc0 := 82) (pc' := 122) rfl (hb hby d8_82) (by decide) (by decide) k) ?_
        refine own_st (B := T8.setTop (mkF m 123 #[.val (.ref a1), .val (.int p1), .val (.int sl), .val (.int (-1 : Int32))] [(.int (-1 : Int32))])) (fun t k => XS.iloadN X8.here hx rfl (hb hby d8_122) rfl k) ?_
        refine own_retI X8 hx hlk Bd.returns (hb hby d8_123) (by decide) (by decide) ?_
        show Q8 Z a1 p1 ac asl ai B sz N cap n CO SC SI h0 n0 _ T8.heap _
        rw [e8]
        exact ⟨(-1 : Int32), n, sz, CO, SC, SI, rfl, N3, (Keep.refl h0 [a1, ac, asl, ai]), F1, F2, F3, F4, F5, F6, F7, F8, hI, hsz, (by have hct : (cap.toInt32).toInt = (cap : Int) := len_toInt (by omega); have h9 := congrArg Int32.toInt hc9; exact Or.inr ⟨(own_nf hNB hI hT hc5), Or.inl ⟨by omega, rfl, rfl, rfl⟩⟩)⟩
      · refine own_st (B := T8.setTop (mkF m 85 #[.val (.ref a1), .val (.int p1), .val (.int sl), s3_13] [])) (fun t k => XS.icmpYes X8.here hx rfl (pc0 := 77) (pc' := 85) rfl (hb hby d8_77) rfl (XT.ii_ne_t hc9) (by decide) (by decide) k) ?_
        refine own_st (B := T8.setTop (mkF m 86 #[.val (.ref a1), .val (.int p1), .val (.int sl), s3_13] [(.ref a1)])) (fun t k => XS.aloadN X8.here hx rfl (hb hby d8_85) rfl rfl k) ?_
        obtain ⟨T10, X10, e10, st10⟩ := getF X8 hx hZ hown (host := "") (Or.inl (w_33 hw)) Via.refl e8 F5 (g := (mkF m 86 #[.val (.ref a1), .val (.int p1), .val (.int sl), s3_13] [(.ref a1)])) rfl rfl (hb hby d8_86)
        refine own_st (B := T10.setTop (mkF m 89 #[.val (.ref a1), .val (.int p1), .val (.int sl), s3_13] [(.int sz)])) (fun t k => st10 t k) ?_
        refine own_st (B := T10.setTop (mkF m 90 #[.val (.ref a1), .val (.int p1), .val (.int sl), .val (.int sz)] [])) (fun t k => XS.istoreNS X10.here hx rfl (hb hby d8_89) rfl rfl hs3_13 k) ?_
        refine own_st (B := T10.setTop (mkF m 91 #[.val (.ref a1), .val (.int p1), .val (.int sl), .val (.int sz)] [(.ref a1)])) (fun t k => XS.aloadN X10.here hx rfl (hb hby d8_90) rfl rfl k) ?_
        obtain ⟨T11, X11, e11, st11⟩ := getF X10 hx hZ hown (host := "") (Or.inl (w_10 hw)) Via.refl e10 F1 (g := (mkF m 91 #[.val (.ref a1), .val (.int p1), .val (.int sl), .val (.int sz)] [(.ref a1)])) rfl rfl (hb hby d8_91)
        refine own_st (B := T11.setTop (mkF m 94 #[.val (.ref a1), .val (.int p1), .val (.int sl), .val (.int sz)] [(.ref ac)])) (fun t k => st11 t k) ?_
        refine own_st (B := T11.setTop (mkF m 95 #[.val (.ref a1), .val (.int p1), .val (.int sl), .val (.int sz)] [(.ref a1), (.ref ac)])) (fun t k => XS.aloadN X11.here hx rfl (hb hby d8_94) rfl rfl k) ?_
        refine own_st (B := T11.setTop (mkF m 96 #[.val (.ref a1), .val (.int p1), .val (.int sl), .val (.int sz)] [(.ref a1), (.ref a1), (.ref ac)])) (fun t k => XS.dup X11.here hx rfl (hb hby d8_95) rfl rfl k) ?_
        obtain ⟨T12, X12, e12, st12⟩ := getF X11 hx hZ hown (host := "") (Or.inl (w_33 hw)) Via.refl e11 F5 (g := (mkF m 96 #[.val (.ref a1), .val (.int p1), .val (.int sl), .val (.int sz)] [(.ref a1), (.ref a1), (.ref ac)])) rfl rfl (hb hby d8_96)
        refine own_st (B := T12.setTop (mkF m 99 #[.val (.ref a1), .val (.int p1), .val (.int sl), .val (.int sz)] [(.int sz), (.ref a1), (.ref ac)])) (fun t k => st12 t k) ?_
        refine own_st (B := T12.setTop (mkF m 100 #[.val (.ref a1), .val (.int p1), .val (.int sl), .val (.int sz)] [(.int sz), (.ref a1), (.int sz), (.ref ac)])) (fun t k => XS.dupX1 X12.here hx rfl (hb hby d8_99) rfl rfl rfl k) ?_
        refine own_st (B := T12.setTop (mkF m 101 #[.val (.ref a1), .val (.int p1), .val (.int sl), .val (.int sz)] [(.int (1 : Int32)), (.int sz), (.ref a1), (.int sz), (.ref ac)])) (fun t k => XS.iconst X12.here hx rfl (hb hby d8_100) k) ?_
        refine own_st (B := T12.setTop (mkF m 102 #[.val (.ref a1), .val (.int p1), .val (.int sl), .val (.int sz)] [(.int (sz + (1 : Int32))), (.ref a1), (.int sz), (.ref ac)])) (fun t k => XS.iadd X12.here hx rfl (hb hby d8_101) rfl k) ?_
        obtain ⟨T13, h13, X13, e13, W13, st13⟩ := putF X12 hx hZ hown (host := "") (Or.inl (w_33 hw)) Via.refl e12 F5 F0 (Or.inl (w_34 hw)) (w_2 hw) (ty := .int) (by decide) rfl rfl (g := (mkF m 102 #[.val (.ref a1), .val (.int p1), .val (.int sl), .val (.int sz)] [(.int (sz + (1 : Int32))), (.ref a1), (.int sz), (.ref ac)])) rfl rfl (hb hby d8_102)
        have f13_ : Fld Z h13 a1 "com/example/relayframe/relayframe/Palette" "size" "I" (.int (sz + (1 : Int32))) := F5.same W13
        have z14 : n0 ≤ h13.size := Nat.le_trans Z0 (Keep.of_wr W13).1
        have kp14 : Keep h0 h13 [a1, ac, asl, ai] := (Keep.refl h0 [a1, ac, asl, ai]).wr W13 (Or.inl (List.mem_of_getElem? (i := 0) rfl))
        have n15 := Fr.snoc X13 N3 g1
        refine own_st (B := T13.setTop (mkF m 105 #[.val (.ref a1), .val (.int p1), .val (.int sl), .val (.int sz)] [(.int sz), (.ref ac)])) (fun t k => st13 t k) ?_
        refine own_st (B := T13.setTop (mkF m 106 #[.val (.ref a1), .val (.int p1), .val (.int sl), .val (.int sz)] [(.int p1), (.int sz), (.ref ac)])) (fun t k => XS.iloadN X13.here hx rfl (hb hby d8_105) rfl k) ?_
        have f16 : Exa Z h13 ac "[I" := (F9.wr W13)
        have f17 : Exa Z h13 a1 "com/example/relayframe/relayframe/Palette" := (F0.wr W13)
        have f18 : own_A Z h13 ac .int (CO.map Value.int) := (F6.other W13 (ne_exa f16 f17 (by decide)))
        obtain ⟨T19, h19, X19, e19, W19, A19, st19⟩ := own_stI X13 hx hZ e13 f18 (j := sz) (x := p1) (i := (sz.toInt.toNat)) (own_nat (by omega)) (by rw [List.length_map]; have hct : (cap.toInt32).toInt = (cap : Int) := len_toInt (by omega); have h9 : sz.toInt ≠ (cap : Int) := fun q => hc9 (Int32.toInt_inj.mp (by rw [hct]; exact q)); omega) (g := (mkF m 106 #[.val (.ref a1), .val (.int p1), .val (.int sl), .val (.int sz)] [(.int p1), (.int sz), (.ref ac)])) rfl rfl (hb hby d8_106)
        have f19_ : own_A Z h19 ac .int ((CO.map Value.int).set (sz.toInt.toNat) (.int p1)) := A19
        have z20 : n0 ≤ h19.size := Nat.le_trans z14 (Keep.of_wr W19).1
        have kp20 : Keep h0 h19 [a1, ac, asl, ai] := kp14.wr W19 (Or.inl (List.mem_of_getElem? (i := 1) rfl))
        have n21 := Fr.snoc X19 n15 g2
        refine own_st (B := T19.setTop (mkF m 107 #[.val (.ref a1), .val (.int p1), .val (.int sl), .val (.int sz)] [])) (fun t k => st19 t k) ?_
        have f22 : own_A Z h19 ac .int ((CO.set (sz.toInt.toNat) p1).map Value.int) := by rw [List.map_set]; exact f19_
        refine own_st (B := T19.setTop (mkF m 108 #[.val (.ref a1), .val (.int p1), .val (.int sl), .val (.int sz)] [(.ref a1)])) (fun t k => XS.aloadN X19.here hx rfl (hb hby d8_107) rfl rfl k) ?_
        have f23 : Exa Z h19 a1 "com/example/relayframe/relayframe/Palette" := (f17.wr W19)
        have f24 : Exa Z h19 ac "[I" := (f16.wr W19)
        have f25 : Fld Z h19 a1 "com/example/relayframe/relayframe/Palette" "slotColours" "[I" (.ref asl) := ((F3.other W13 (Or.inr (slot_ne (Or.inr (w_20 hw)) (Or.inl (w_34 hw)) (by decide) (t := (.array .int)) (t' := .int) (by decide) (by decide)))).other W19 (Or.inl (ne_exa f23 f24 (by decide))))
        obtain ⟨T26, X26, e26, st26⟩ := getF X19 hx hZ hown (host := "") (Or.inl (w_19 hw)) Via.refl e19 f25 (g := (mkF m 108 #[.val (.ref a1), .val (.int p1), .val (.int sl), .val (.int sz)] [(.ref a1)])) rfl rfl (hb hby d8_108)
        refine own_st (B := T26.setTop (mkF m 111 #[.val (.ref a1), .val (.int p1), .val (.int sl), .val (.int sz)] [(.ref asl)])) (fun t k => st26 t k) ?_
        refine own_st (B := T26.setTop (mkF m 112 #[.val (.ref a1), .val (.int p1), .val (.int sl), .val (.int sz)] [(.int sl), (.ref asl)])) (fun t k => XS.iloadN X26.here hx rfl (hb hby d8_111) rfl k) ?_
        refine own_st (B := T26.setTop (mkF m 113 #[.val (.ref a1), .val (.int p1), .val (.int sl), .val (.int sz)] [(.int p1), (.int sl), (.ref asl)])) (fun t k => XS.iloadN X26.here hx rfl (hb hby d8_112) rfl k) ?_
        have f27 : Exa Z h19 asl "[I" := ((F10.wr W13).wr W19)
        have f28 : own_A Z h19 asl .int (SC.map Value.int) := ((F7.other W13 (ne_exa f27 f23 (by decide))).other W19 (Ne.symm nca))
        obtain ⟨T29, h29, X29, e29, W29, A29, st29⟩ := own_stI X26 hx hZ e26 f28 (j := sl) (x := p1) (i := (sl.toInt.toNat)) (own_nat (by omega)) (by rw [List.length_map]; omega) (g := (mkF m 113 #[.val (.ref a1), .val (.int p1), .val (.int sl), .val (.int sz)] [(.int p1), (.int sl), (.ref asl)])) rfl rfl (hb hby d8_113)
        have f29_ : own_A Z h29 asl .int ((SC.map Value.int).set (sl.toInt.toNat) (.int p1)) := A29
        have z30 : n0 ≤ h29.size := Nat.le_trans z20 (Keep.of_wr W29).1
        have kp30 : Keep h0 h29 [a1, ac, asl, ai] := kp20.wr W29 (Or.inl (List.mem_of_getElem? (i := 2) rfl))
        have n31 := Fr.snoc X29 n21 g3
        refine own_st (B := T29.setTop (mkF m 114 #[.val (.ref a1), .val (.int p1), .val (.int sl), .val (.int sz)] [])) (fun t k => st29 t k) ?_
        have f32 : own_A Z h29 asl .int ((SC.set (sl.toInt.toNat) p1).map Value.int) := by rw [List.map_set]; exact f29_
        refine own_st (B := T29.setTop (mkF m 115 #[.val (.ref a1), .val (.int p1), .val (.int sl), .val (.int sz)] [(.ref a1)])) (fun t k => XS.aloadN X29.here hx rfl (hb hby d8_114) rfl rfl k) ?_
        have f33 : Exa Z h29 a1 "com/example/relayframe/relayframe/Palette" := (f23.wr W29)
        have f34 : Exa Z h29 ac "[I" := (f24.wr W29)
        have f35 : Exa Z h29 asl "[I" := (f27.wr W29)
        have f36 : Fld Z h29 a1 "com/example/relayframe/relayframe/Palette" "slotIndices" "[S" (.ref ai) := (((F4.other W13 (Or.inr (slot_ne (Or.inr (w_23 hw)) (Or.inl (w_34 hw)) (by decide) (t := (.array .short)) (t' := .int) (by decide) (by decide)))).other W19 (Or.inl (ne_exa f33 f34 (by decide)))).other W29 (Or.inl (ne_exa f33 f35 (by decide))))
        obtain ⟨T37, X37, e37, st37⟩ := getF X29 hx hZ hown (host := "") (Or.inl (w_22 hw)) Via.refl e29 f36 (g := (mkF m 115 #[.val (.ref a1), .val (.int p1), .val (.int sl), .val (.int sz)] [(.ref a1)])) rfl rfl (hb hby d8_115)
        refine own_st (B := T37.setTop (mkF m 118 #[.val (.ref a1), .val (.int p1), .val (.int sl), .val (.int sz)] [(.ref ai)])) (fun t k => st37 t k) ?_
        refine own_st (B := T37.setTop (mkF m 119 #[.val (.ref a1), .val (.int p1), .val (.int sl), .val (.int sz)] [(.int sl), (.ref ai)])) (fun t k => XS.iloadN X37.here hx rfl (hb hby d8_118) rfl k) ?_
        refine own_st (B := T37.setTop (mkF m 120 #[.val (.ref a1), .val (.int p1), .val (.int sl), .val (.int sz)] [(.int sz), (.int sl), (.ref ai)])) (fun t k => XS.iloadN X37.here hx rfl (hb hby d8_119) rfl k) ?_
        refine own_st (B := T37.setTop (mkF m 121 #[.val (.ref a1), .val (.int p1), .val (.int sl), .val (.int sz)] [(.int (sz.toInt16.toInt32)), (.int sl), (.ref ai)])) (fun t k => XS.i2s X37.here hx rfl (hb hby d8_120) rfl k) ?_
        have f38 : Exa Z h29 ai "[S" := (((F11.wr W13).wr W19).wr W29)
        have f39 : own_A Z h29 ai .short (SI.map Value.int) := (((F8.other W13 (ne_exa f38 f33 (by decide))).other W19 (ne_exa f38 f34 (by decide))).other W29 (ne_exa f38 f35 (by decide)))
        obtain ⟨T40, h40, X40, e40, W40, A40, st40⟩ := own_stS X37 hx hZ e37 f39 (j := sl) (x := (sz.toInt16.toInt32)) (i := (sl.toInt.toNat)) (own_nat (by omega)) (by rw [List.length_map]; omega) (g := (mkF m 121 #[.val (.ref a1), .val (.int p1), .val (.int sl), .val (.int sz)] [(.int (sz.toInt16.toInt32)), (.int sl), (.ref ai)])) rfl rfl (hb hby d8_121)
        have f40_ : own_A Z h40 ai .short ((SI.map Value.int).set (sl.toInt.toNat) (.int ((sz.toInt16.toInt32).toInt16.toInt32))) := A40
        have z41 : n0 ≤ h40.size := Nat.le_trans z30 (Keep.of_wr W40).1
        have kp41 : Keep h0 h40 [a1, ac, asl, ai] := kp30.wr W40 (Or.inl (List.mem_of_getElem? (i := 3) rfl))
        have n42 := Fr.snoc X40 n31 g4
        refine own_st (B := T40.setTop (mkF m 122 #[.val (.ref a1), .val (.int p1), .val (.int sl), .val (.int sz)] [])) (fun t k => st40 t k) ?_
        have f43 : own_A Z h40 ai .short ((SI.set (sl.toInt.toNat) ((sz.toInt16.toInt32).toInt16.toInt32)).map Value.int) := by rw [List.map_set]; exact f40_
        refine own_st (B := T40.setTop (mkF m 123 #[.val (.ref a1), .val (.int p1), .val (.int sl), .val (.int sz)] [(.int sz)])) (fun t k => XS.iloadN X40.here hx rfl (hb hby d8_122) rfl k) ?_
        refine own_retI X40 hx hlk Bd.returns (hb hby d8_123) (by decide) (by decide) ?_
        show Q8 Z a1 p1 ac asl ai B sz N cap n CO SC SI h0 n0 _ T40.heap _
        rw [e40]
        have f44 : Exa Z h40 a1 "com/example/relayframe/relayframe/Palette" := (f33.wr W40)
        have f45 : Exa Z h40 ac "[I" := (f34.wr W40)
        have f46 : Exa Z h40 asl "[I" := (f35.wr W40)
        have f47 : Exa Z h40 ai "[S" := (f38.wr W40)
        have f48 : Fld Z h40 a1 "com/example/relayframe/relayframe/Palette" "colours" "[I" (.ref ac) := ((((F1.other W13 (Or.inr (slot_ne (Or.inr (w_11 hw)) (Or.inl (w_34 hw)) (by decide) (t := (.array .int)) (t' := .int) (by decide) (by decide)))).other W19 (Or.inl (ne_exa f44 f45 (by decide)))).other W29 (Or.inl (ne_exa f44 f46 (by decide)))).other W40 (Or.inl (ne_exa f44 f47 (by decide))))
        have f49 : Fld Z h40 a1 "com/example/relayframe/relayframe/Palette" "slotBits" "I" (.int B) := ((((F2.other W13 (Or.inr (slot_ne (Or.inr (w_18 hw)) (Or.inl (w_34 hw)) (by decide) (t := .int) (t' := .int) (by decide) (by decide)))).other W19 (Or.inl (ne_exa f44 f45 (by decide)))).other W29 (Or.inl (ne_exa f44 f46 (by decide)))).other W40 (Or.inl (ne_exa f44 f47 (by decide))))
        have f50 : Fld Z h40 a1 "com/example/relayframe/relayframe/Palette" "slotColours" "[I" (.ref asl) := ((f25.other W29 (Or.inl (ne_exa f44 f46 (by decide)))).other W40 (Or.inl (ne_exa f44 f47 (by decide))))
        have f51 : Fld Z h40 a1 "com/example/relayframe/relayframe/Palette" "slotIndices" "[S" (.ref ai) := (f36.other W40 (Or.inl (ne_exa f44 f47 (by decide))))
        have f52 : Fld Z h40 a1 "com/example/relayframe/relayframe/Palette" "size" "I" (.int (sz + (1 : Int32))) := (((f13_.other W19 (Or.inl (ne_exa f44 f45 (by decide)))).other W29 (Or.inl (ne_exa f44 f46 (by decide)))).other W40 (Or.inl (ne_exa f44 f47 (by decide))))
        have f53 : own_A Z h40 ac .int ((CO.set (sz.toInt.toNat) p1).map Value.int) := ((f22.other W29 nca).other W40 (ne_exa f45 f47 (by decide)))
        have f54 : own_A Z h40 asl .int ((SC.set (sl.toInt.toNat) p1).map Value.int) := (f32.other W40 (ne_exa f46 f47 (by decide)))
        exact ⟨sz, (n + 1), (sz + (1 : Int32)), (CO.set (sz.toInt.toNat) p1), (SC.set (sl.toInt.toNat) p1), (SI.set (sl.toInt.toNat) ((sz.toInt16.toInt32).toInt16.toInt32)), rfl, n42, kp41, f48, f49, f50, f51, f52, f53, f54, f43, (by have hct : (cap.toInt32).toInt = (cap : Int) := len_toInt (by omega); have h9 : sz.toInt ≠ (cap : Int) := fun q => hc9 (Int32.toInt_inj.mp (by rw [hct]; exact q)); have hsn : sz.toInt.toNat = n := (by omega); rw [hsn]; exact own_ins hNB hI hT hc5 (by omega) (by rw [own_sh (by omega)]; exact hsz)), (by have h1 := c_iadd sz 1; have h2 := rng32 (sz + 1); have h3 : (1 : Int32).toInt = 1 := rfl; omega), (by have hct : (cap.toInt32).toInt = (cap : Int) := len_toInt (by omega); have h9 : sz.toInt ≠ (cap : Int) := fun q => hc9 (Int32.toInt_inj.mp (by rw [hct]; exact q)); have hsn : sz.toInt.toNat = n := (by omega); exact Or.inr ⟨(own_nf hNB hI hT hc5), Or.inr ⟨by omega, hsz, rfl, by rw [hsn]⟩⟩)⟩
    · refine own_st (B := T4.setTop (mkF m 23 #[.val (.ref a1), .val (.int p1), .val (.int sl), s3_13] [])) (fun t k => XS.icmpNo X4.here hx rfl (hb hby d8_20) rfl (XT.ii_eq_f hc5) k) ?_
      refine own_st (B := T4.setTop (mkF m 24 #[.val (.ref a1), .val (.int p1), .val (.int sl), s3_13] [(.ref a1)])) (fun t k => XS.aloadN X4.here hx rfl (hb hby d8_23) rfl rfl k) ?_
      obtain ⟨T55, X55, e55, st55⟩ := getF X4 hx hZ hown (host := "") (Or.inl (w_19 hw)) Via.refl e4 F3 (g := (mkF m 24 #[.val (.ref a1), .val (.int p1), .val (.int sl), s3_13] [(.ref a1)])) rfl rfl (hb hby d8_24)
      refine own_st (B := T55.setTop (mkF m 27 #[.val (.ref a1), .val (.int p1), .val (.int sl), s3_13] [(.ref asl)])) (fun t k => st55 t k) ?_
      refine own_st (B := T55.setTop (mkF m 28 #[.val (.ref a1), .val (.int p1), .val (.int sl), s3_13] [(.int sl), (.ref asl)])) (fun t k => XS.iloadN X55.here hx rfl (hb hby d8_27) rfl k) ?_
      refine own_st (B := T55.setTop (mkF m 29 #[.val (.ref a1), .val (.int p1), .val (.int sl), s3_13] [(.int (SC.getD sl.toInt.toNat 0))])) (fun t k => own_ldI X55 hx hZ e55 F7 (g := (mkF m 28 #[.val (.ref a1), .val (.int p1), .val (.int sl), s3_13] [(.int sl), (.ref asl)])) (i := (sl.toInt.toNat)) (own_nat (by omega)) (own_getI (by omega)) rfl rfl (hb hby d8_28) k) ?_
      refine own_st (B := T55.setTop (mkF m 30 #[.val (.ref a1), .val (.int p1), .val (.int sl), s3_13] [(.int p1), (.int (SC.getD sl.toInt.toNat 0))])) (fun t k => XS.iloadN X55.here hx rfl (hb hby d8_29) rfl k) ?_
      by_cases hc56 : (SC.getD sl.toInt.toNat 0) = p1
      · refine own_st (B := T55.setTop (mkF m 48 #[.val (.ref a1), .val (.int p1), .val (.int sl), s3_13] [])) (fun t k => XS.icmpYes X55.here hx rfl (pc0 := 30) (pc' := 48) rfl (hb hby d8_30) rfl (XT.ii_eq_t hc56) (by decide) (by decide) k) ?_
        refine own_st (B := T55.setTop (mkF m 49 #[.val (.ref a1), .val (.int p1), .val (.int sl), s3_13] [(.ref a1)])) (fun t k => XS.aloadN X55.here hx rfl (hb hby d8_48) rfl rfl k) ?_
        obtain ⟨T57, X57, e57, st57⟩ := getF X55 hx hZ hown (host := "") (Or.inl (w_22 hw)) Via.refl e55 F4 (g := (mkF m 49 #[.val (.ref a1), .val (.int p1), .val (.int sl), s3_13] [(.ref a1)])) rfl rfl (hb hby d8_49)
        refine own_st (B := T57.setTop (mkF m 52 #[.val (.ref a1), .val (.int p1), .val (.int sl), s3_13] [(.ref ai)])) (fun t k => st57 t k) ?_
        refine own_st (B := T57.setTop (mkF m 53 #[.val (.ref a1), .val (.int p1), .val (.int sl), s3_13] [(.int sl), (.ref ai)])) (fun t k => XS.iloadN X57.here hx rfl (hb hby d8_52) rfl k) ?_
        refine own_st (B := T57.setTop (mkF m 54 #[.val (.ref a1), .val (.int p1), .val (.int sl), s3_13] [(.int (SI.getD sl.toInt.toNat 0))])) (fun t k => own_ldS X57 hx hZ e57 F8 (g := (mkF m 53 #[.val (.ref a1), .val (.int p1), .val (.int sl), s3_13] [(.int sl), (.ref ai)])) (i := (sl.toInt.toNat)) (own_nat (by omega)) (own_getI (by omega)) rfl rfl (hb hby d8_53) k) ?_
        refine own_st (B := T57.setTop (mkF m 55 #[.val (.ref a1), .val (.int p1), .val (.int sl), s3_13] [(.int (-1 : Int32)), (.int (SI.getD sl.toInt.toNat 0))])) (fun t k => XS.iconst X57.here hx rfl (hb hby d8_54) k) ?_
        refine own_st (B := T57.setTop (mkF m 58 #[.val (.ref a1), .val (.int p1), .val (.int sl), s3_13] [])) (fun t k => XS.icmpNo X57.here hx rfl (hb hby d8_55) rfl (XT.ii_eq_f hc5) k) ?_
        refine own_st (B := T57.setTop (mkF m 59 #[.val (.ref a1), .val (.int p1), .val (.int sl), s3_13] [(.ref a1)])) (fun t k => XS.aloadN X57.here hx rfl (hb hby d8_58) rfl rfl k) ?_
        obtain ⟨T58, X58, e58, st58⟩ := getF X57 hx hZ hown (host := "") (Or.inl (w_22 hw)) Via.refl e57 F4 (g := (mkF m 59 #[.val (.ref a1), .val (.int p1), .val (.int sl), s3_13] [(.ref a1)])) rfl rfl (hb hby d8_59)
        refine own_st (B := T58.setTop (mkF m 62 #[.val (.ref a1), .val (.int p1), .val (.int sl), s3_13] [(.ref ai)])) (fun t k => st58 t k) ?_
        refine own_st (B := T58.setTop (mkF m 63 #[.val (.ref a1), .val (.int p1), .val (.int sl), s3_13] [(.int sl), (.ref ai)])) (fun t k => XS.iloadN X58.here hx rfl (hb hby d8_62) rfl k) ?_
        refine own_st (B := T58.setTop (mkF m 64 #[.val (.ref a1), .val (.int p1), .val (.int sl), s3_13] [(.int (SI.getD sl.toInt.toNat 0))])) (fun t k => own_ldS X58 hx hZ e58 F8 (g := (mkF m 63 #[.val (.ref a1), .val (.int p1), .val (.int sl), s3_13] [(.int sl), (.ref ai)])) (i := (sl.toInt.toNat)) (own_nat (by omega)) (own_getI (by omega)) rfl rfl (hb hby d8_63) k) ?_
        obtain ⟨v59, ev59⟩ : ∃ z : Int32, z = (SI.getD sl.toInt.toNat 0) := ⟨_, rfl⟩
        rw [← ev59]
        refine own_st (B := T58.setTop (mkF m 65 #[.val (.ref a1), .val (.int p1), .val (.int sl), .val (.int v59)] [])) (fun t k => XS.istoreNS X58.here hx rfl (hb hby d8_64) rfl rfl hs3_13 k) ?_
        refine own_st (B := T58.setTop (mkF m 122 #[.val (.ref a1), .val (.int p1), .val (.int sl), .val (.int v59)] [])) (fun t k => XS.goto X58.here hx rfl (pc0 := 65) (pc' := 122) rfl (hb hby d8_65) (by decide) (by decide) k) ?_
        refine own_st (B := T58.setTop (mkF m 123 #[.val (.ref a1), .val (.int p1), .val (.int sl), .val (.int v59)] [(.int v59)])) (fun t k => XS.iloadN X58.here hx rfl (hb hby d8_122) rfl k) ?_
        refine own_retI X58 hx hlk Bd.returns (hb hby d8_123) (by decide) (by decide) ?_
        show Q8 Z a1 p1 ac asl ai B sz N cap n CO SC SI h0 n0 _ T58.heap _
        rw [e58]
        exact ⟨v59, n, sz, CO, SC, SI, rfl, N3, (Keep.refl h0 [a1, ac, asl, ai]), F1, F2, F3, F4, F5, F6, F7, F8, hI, hsz, (by rw [ev59]; exact own_fnd hI (by omega) hc5 hc56)⟩
      · refine own_st (B := T55.setTop (mkF m 33 #[.val (.ref a1), .val (.int p1), .val (.int sl), s3_13] [])) (fun t k => XS.icmpNo X55.here hx rfl (hb hby d8_30) rfl (XT.ii_eq_f hc56) k) ?_
        refine own_st (B := T55.setTop (mkF m 34 #[.val (.ref a1), .val (.int p1), .val (.int sl), s3_13] [(.int sl)])) (fun t k => XS.iloadN X55.here hx rfl (hb hby d8_33) rfl k) ?_
        refine own_st (B := T55.setTop (mkF m 35 #[.val (.ref a1), .val (.int p1), .val (.int sl), s3_13] [(.int (1 : Int32)), (.int sl)])) (fun t k => XS.iconst X55.here hx rfl (hb hby d8_34) k) ?_
        refine own_st (B := T55.setTop (mkF m 36 #[.val (.ref a1), .val (.int p1), .val (.int sl), s3_13] [(.int (sl + (1 : Int32)))])) (fun t k => XS.iadd X55.here hx rfl (hb hby d8_35) rfl k) ?_
        refine own_st (B := T55.setTop (mkF m 37 #[.val (.ref a1), .val (.int p1), .val (.int sl), s3_13] [(.ref a1), (.int (sl + (1 : Int32)))])) (fun t k => XS.aloadN X55.here hx rfl (hb hby d8_36) rfl rfl k) ?_
        obtain ⟨T60, X60, e60, st60⟩ := getF X55 hx hZ hown (host := "") (Or.inl (w_22 hw)) Via.refl e55 F4 (g := (mkF m 37 #[.val (.ref a1), .val (.int p1), .val (.int sl), s3_13] [(.ref a1), (.int (sl + (1 : Int32)))])) rfl rfl (hb hby d8_37)
        refine own_st (B := T60.setTop (mkF m 40 #[.val (.ref a1), .val (.int p1), .val (.int sl), s3_13] [(.ref ai), (.int (sl + (1 : Int32)))])) (fun t k => st60 t k) ?_
        refine own_st (B := T60.setTop (mkF m 41 #[.val (.ref a1), .val (.int p1), .val (.int sl), s3_13] [(.int (N.toInt32)), (.int (sl + (1 : Int32)))])) (fun t k => own_len X60 hx hZ e60 F8 (g := (mkF m 40 #[.val (.ref a1), .val (.int p1), .val (.int sl), s3_13] [(.ref ai), (.int (sl + (1 : Int32)))])) (n := (N.toInt32)) (by rw [List.length_map, lSI, len_toInt (by have := own_N3 hNB; omega)]) rfl rfl (hb hby d8_40) k) ?_
        refine own_st (B := T60.setTop (mkF m 42 #[.val (.ref a1), .val (.int p1), .val (.int sl), s3_13] [(.int (1 : Int32)), (.int (N.toInt32)), (.int (sl + (1 : Int32)))])) (fun t k => XS.iconst X60.here hx rfl (hb hby d8_41) k) ?_
        refine own_st (B := T60.setTop (mkF m 43 #[.val (.ref a1), .val (.int p1), .val (.int sl), s3_13] [(.int ((N.toInt32) - (1 : Int32))), (.int (sl + (1 : Int32)))])) (fun t k => XS.isub X60.here hx rfl (hb hby d8_42) rfl k) ?_
        refine own_st (B := T60.setTop (mkF m 44 #[.val (.ref a1), .val (.int p1), .val (.int sl), s3_13] [(.int ((sl + (1 : Int32)) &&& ((N.toInt32) - (1 : Int32))))])) (fun t k => XS.iand X60.here hx rfl (hb hby d8_43) rfl k) ?_
        obtain ⟨v61, ev61⟩ : ∃ z : Int32, z = ((sl + (1 : Int32)) &&& ((N.toInt32) - (1 : Int32))) := ⟨_, rfl⟩
        rw [← ev61]
        refine own_st (B := T60.setTop (mkF m 45 #[.val (.ref a1), .val (.int p1), .val (.int v61), s3_13] [])) (fun t k => XS.istoreN X60.here hx rfl (hb hby d8_44) rfl (l' := #[.val (.ref a1), .val (.int p1), .val (.int v61), s3_13]) rfl k) ?_
        refine own_st (B := T60.setTop (mkF m 13 #[.val (.ref a1), .val (.int p1), .val (.int v61), s3_13] [])) (fun t k => XS.goto X60.here hx rfl (pc0 := 45) (pc' := 13) rfl (hb hby d8_45) (by decide) (by decide) k) ?_
        have hst := own_msk hNB hsl ev61
        have hne : sl.toInt.toNat ≠ ee := fun q => hc5 (by rw [q]; exact hem)
        exact ih3 _ (by have h9 := own_md4 (own_N3 hNB) hee (by omega) hne hst.2; omega) T60 _ v61 s3_13 X60 e60 N3 hs3_13 rfl (show 0 ≤ v61.toInt ∧ v61.toInt < (N : Int) by exact hst.1) (show ∃ T, v61.toInt.toNat = (own_H B p1 + T) % N ∧ ∀ u, u < T → SI.getD ((own_H B p1 + u) % N) 0 ≠ -1 ∧ SC.getD ((own_H B p1 + u) % N) 0 ≠ p1 by obtain ⟨T, t1, t2⟩ := hT; exact ⟨T + 1, own_md3 (own_N3 hNB) (own_Hlt hNB p1) (by rw [← t1]; exact hst.2), fun u hu => (Nat.lt_or_ge u T).elim (fun g => t2 u g) (fun g => by have e9 : u = T := (by omega); rw [e9, ← t1]; exact ⟨hc5, hc56⟩)⟩)
theorem own_pd7 : parseMethodDescriptor "([I[III)I" = some ⟨[(.array .int), (.array .int), .int, .int], some .int⟩ := by decide +kernel
theorem d6_0 : decode method_4_code 0 = .ok (.aload_n 2, 1) := by decide +kernel
theorem d6_1 : decode method_4_code 1 = .ok (.aload_n 3, 1) := by decide +kernel
theorem d6_2 : decode method_4_code 2 = .ok (.iload_n 1, 1) := by decide +kernel
theorem d6_3 : decode method_4_code 3 = .ok (.iload 4, 2) := by decide +kernel
theorem d6_5 : decode method_4_code 5 = .ok (.invokestatic 30, 3) := by decide +kernel
theorem d6_8 : decode method_4_code 8 = .ok (.istore 5, 2) := by decide +kernel
theorem d6_10 : decode method_4_code 10 = .ok (.aload_n 0, 1) := by decide +kernel
theorem d6_11 : decode method_4_code 11 = .ok (.iload_n 1, 1) := by decide +kernel
theorem d6_12 : decode method_4_code 12 = .ok (.invokevirtual 34, 3) := by decide +kernel
theorem d6_15 : decode method_4_code 15 = .ok (.iload 5, 2) := by decide +kernel
theorem d6_17 : decode method_4_code 17 = .ok (.if_icmp .ne 7, 3) := by decide +kernel
theorem d6_20 : decode method_4_code 20 = .ok (.iconst 1, 1) := by decide +kernel
theorem d6_21 : decode method_4_code 21 = .ok (.goto 4, 3) := by decide +kernel
theorem d6_25 : decode method_4_code 25 = .ok (.ireturn, 1) := by decide +kernel
theorem ef_6 (m : MethodId) (x0 : Addr) (x1 : Int32) (x2 : Addr) (x3 : Addr) (x4 : Int32) : entryFrame m #[(.ref x0), (.int x1), (.ref x2), (.ref x3), (.int x4)] 6 = mkF m 0 #[.val (.ref x0), .val (.int x1), .val (.ref x2), .val (.ref x3), .val (.int x4), .unset] [] := by first | (simp [entryFrame, mkF, argsToLocals, Value.category]; done) | rfl
def Q6 (Z : State) (a1 : Addr) (p1 : Int32) (a2 : Addr) (a3 : Addr) (p4 : Int32) (ac : Addr) (asl : Addr) (ai : Addr) (B : Int32) (sz : Int32) (N : Nat) (cap : Nat) (n : Nat) (CO : List Int32) (SC : List Int32) (SI : List Int32) (SE : List Int32) (cn : Int32) (h0 : Heap) (n0 : Nat) (v : Option Value) (h : Heap) (L : List Loc) : Prop := ∃ (n2 : Nat) (sz2 : Int32) (CO2 : List Int32) (SC2 : List Int32) (SI2 : List Int32) (SE2 : List Int32) (cn2 : Int32), v = some (.int (1 : Int32)) ∧ Fr n0 L ∧ Keep h0 h [a1, ac, asl, ai, a2, a3] ∧ Fld Z h a1 "com/example/relayframe/relayframe/Palette" "colours" "[I" (.ref ac) ∧ Fld Z h a1 "com/example/relayframe/relayframe/Palette" "slotBits" "I" (.int B) ∧ Fld Z h a1 "com/example/relayframe/relayframe/Palette" "slotColours" "[I" (.ref asl) ∧ Fld Z h a1 "com/example/relayframe/relayframe/Palette" "slotIndices" "[S" (.ref ai) ∧ Fld Z h a1 "com/example/relayframe/relayframe/Palette" "size" "I" (.int sz2) ∧ own_A Z h ac .int (CO2.map Value.int) ∧ own_A Z h asl .int (SC2.map Value.int) ∧ own_A Z h ai .short (SI2.map Value.int) ∧ own_A Z h a2 .int (SE2.map Value.int) ∧ own_A Z h a3 .int [(.int cn2)] ∧ (own_I0 N cap n2 (own_H B) CO2 SC2 SI2) ∧ (sz2.toInt = (n2 : Int)) ∧ (cn2.toInt = (n2 : Int)) ∧ (own_Ag n2 CO2 SE2) ∧ (SE2.length = 5)
set_option maxHeartbeats 40000000 in
theorem rm6 (l : Launch) (Z : State) (a0 : Array Value) (hw : ∀ d ∈ tables_1, d.before a0 Z = true) (ws : List Jvm.Cond) (a1 : Addr) (p1 : Int32) (a2 : Addr) (a3 : Addr) (p4 : Int32) (ac : Addr) (asl : Addr) (ai : Addr) (B : Int32) (sz : Int32) (N : Nat) (cap : Nat) (n : Nat) (CO : List Int32) (SC : List Int32) (SI : List Int32) (SE : List Int32) (cn : Int32) (h0 : Heap) (n0 : Nat) (Z0 : n0 ≤ h0.size) (F0 : Exa Z h0 a1 "com/example/relayframe/relayframe/Palette") (F1 : Fld Z h0 a1 "com/example/relayframe/relayframe/Palette" "colours" "[I" (.ref ac)) (F2 : Fld Z h0 a1 "com/example/relayframe/relayframe/Palette" "slotBits" "I" (.int B)) (F3 : Fld Z h0 a1 "com/example/relayframe/relayframe/Palette" "slotColours" "[I" (.ref asl)) (F4 : Fld Z h0 a1 "com/example/relayframe/relayframe/Palette" "slotIndices" "[S" (.ref ai)) (F5 : Fld Z h0 a1 "com/example/relayframe/relayframe/Palette" "size" "I" (.int sz)) (F6 : own_A Z h0 ac .int (CO.map Value.int)) (F7 : own_A Z h0 asl .int (SC.map Value.int)) (F8 : own_A Z h0 ai .short (SI.map Value.int)) (F9 : Exa Z h0 ac "[I") (F10 : Exa Z h0 asl "[I") (F11 : Exa Z h0 ai "[S") (F12 : own_A Z h0 a2 .int (SE.map Value.int)) (F13 : own_A Z h0 a3 .int [(.int cn)]) (F14 : Exa Z h0 a2 "[I") (F15 : Exa Z h0 a3 "[I") (nca : ac ≠ asl) (g1 : n0 ≤ a1) (g2 : n0 ≤ ac) (g3 : n0 ≤ asl) (g4 : n0 ≤ ai) (hNB : own_NB N B) (hI : own_I0 N cap n (own_H B) CO SC SI) (hsz : sz.toInt = (n : Int)) (hcap : cap < N ∧ cap ≤ 4) (nx0 : ac ≠ a2) (nx1 : ac ≠ a3) (nx2 : asl ≠ a2) (nx3 : asl ≠ a3) (nx4 : a2 ≠ a3) (g5 : n0 ≤ a2) (g6 : n0 ≤ a3) (hl5 : SE.length = 5) (hcn : cn.toInt = (n : Int)) (hp4 : p4.toInt = (cap : Int)) (hag : own_Ag n CO SE) :
    MetFree l (⟨"com/example/relayframe/relayframe/PaletteIndexOfPinLaw", "step", "(Lcom/example/relayframe/relayframe/Palette;I[I[II)Z"⟩ : MethodName) (head1 (Jvm.Cond.code (⟨"com/example/relayframe/relayframe/PaletteIndexOfPinLaw", "step", "(Lcom/example/relayframe/relayframe/Palette;I[I[II)Z"⟩ : MethodName) method_4_code 6 (some .boolean) :: ws) ({ frames := 1, cells := 0, slots := 0, locals := 16 } : Room)) (fun a U => a = #[(.ref a1), (.int p1), (.ref a2), (.ref a3), (.int p4)] ∧ Z.Warmed39 U.vm ∧ U.heap = h0) (fun _ _ _ _ _ => True) (fun _ U o U' => ∃ v L, o = .returned v ∧ Q6 Z a1 p1 a2 a3 p4 ac asl ai B sz N cap n CO SC SI SE cn h0 n0 v U'.heap L ∧ FrameEnd U o U' L ({ frames := 1, cells := 0, slots := 0, locals := 16 } : Room).cells ({ frames := 1, cells := 0, slots := 0, locals := 16 } : Room).slots) := by
  refine MetFree.of_bodySF (plainFor_of_name own_pn4) hisR ?_
  intro p e s m args below meth c s₁ Bd hml0 hP hK
  obtain ⟨rfl, hZ, hh⟩ := hP
  have hx := Bd.exec
  have hby := Bd.bytes
  have hml : c.maxLocals = 6 := hml0
  have hlk : meth.locks = false := BodyLoose.notSynchronized Bd
  have hown : s.vm.findClass "com/example/relayframe/relayframe/PaletteIndexOfPinLaw" = some m.cls := findClass_of_methodNamed Bd.named
  have hnm := (name_of_methodNamed Bd.named Bd.method).1
  have X0 : Stand p l e ({ frames := 1, cells := 0, slots := 0, locals := 16 } : Room) s m #[(.ref a1), (.int p1), (.ref a2), (.ref a3), (.int p4)] below meth c s₁ [] 0 0 := Stand.of_body Bd
  have e0 : s₁.heap = h0 := by rw [← hh, Bd.state]; rfl
  have N0 := Fr.nil n0
  show own_Go p e below s (Q6 Z a1 p1 a2 a3 p4 ac asl ai B sz N cap n CO SC SI SE cn h0 n0) ({ frames := 1, cells := 0, slots := 0, locals := 16 } : Room).cells ({ frames := 1, cells := 0, slots := 0, locals := 16 } : Room).slots _
  refine own_st (B := s₁.setTop (mkF m 0 #[.val (.ref a1), .val (.int p1), .val (.ref a2), .val (.ref a3), .val (.int p4), .unset] [])) (fun t k => castTop (ef_6 m (a1) (p1) (a2) (a3) (p4)) k) ?_
  refine own_st (B := s₁.setTop (mkF m 1 #[.val (.ref a1), .val (.int p1), .val (.ref a2), .val (.ref a3), .val (.int p4), .unset] [(.ref a2)])) (fun t k => XS.aloadN X0.here hx rfl (hb hby d6_0) rfl rfl k) ?_
  refine own_st (B := s₁.setTop (mkF m 2 #[.val (.ref a1), .val (.int p1), .val (.ref a2), .val (.ref a3), .val (.int p4), .unset] [(.ref a3), (.ref a2)])) (fun t k => XS.aloadN X0.here hx rfl (hb hby d6_1) rfl rfl k) ?_
  refine own_st (B := s₁.setTop (mkF m 3 #[.val (.ref a1), .val (.int p1), .val (.ref a2), .val (.ref a3), .val (.int p4), .unset] [(.int p1), (.ref a3), (.ref a2)])) (fun t k => XS.iloadN X0.here hx rfl (hb hby d6_2) rfl k) ?_
  refine own_st (B := s₁.setTop (mkF m 5 #[.val (.ref a1), .val (.int p1), .val (.ref a2), .val (.ref a3), .val (.int p4), .unset] [(.int p4), (.int p1), (.ref a3), (.ref a2)])) (fun t k => XS.iload X0.here hx rfl (hb hby d6_3) rfl k) ?_
  obtain ⟨_, _, ⟨T1, L1, k1, j1⟩, -, X1, ⟨Lc1, hQ1, l1, y1_, z1_⟩, st1⟩ := Jvm.LawKit.callS X0 hx (y := (⟨"com/example/relayframe/relayframe/PaletteIndexOfPinLaw", "expected", "([I[III)I"⟩ : MethodName)) hown (mvT hZ (w_39 hw)) (mvT hZ (w_40 hw)) (mvT hZ (w_37 hw)) (mvT hZ (w_41 hw)) (by decide) (backOf (W := 0) (rm7 l Z a0 hw [] a2 a3 p1 p4 cn SE n cap h0 n0 Z0 F12 F13 nx4 g5 g6 hl5 hcn hp4 ⟨hI.1.2.2.2, hcap.2⟩) hZ (w_41 hw) (w_37 hw) (by decide) (by decide)) (g := (mkF m 5 #[.val (.ref a1), .val (.int p1), .val (.ref a2), .val (.ref a3), .val (.int p4), .unset] [(.int p4), (.int p1), (.ref a3), (.ref a2)])) rfl (by rw [hml]; rfl) (argsL := [(.ref a2), (.ref a3), (.int p1), (.int p4)]) (rest := []) (lenOf own_pd7 rfl) rfl (by show 2 * 0 + _ ≤ _; exact Nat.le_of_eq rfl) (hb hby d6_5) (fun _ _ => ⟨rfl, e0, (by decide : 0 + 0 ≤ _), (by decide : 0 + 0 ≤ _)⟩)
  dsimp only [Pt.U, Pt.locs, Pt.cells, Pt.slots] at X1 l1 y1_ z1_ st1 hQ1
  subst l1 y1_ z1_
  obtain ⟨r_1, n2_1, SE2_1, cn2_1, rfl, N1q, K1, p1_0, p1_1, r1_0, r1_1⟩ := hQ1
  have N1 := Fr.app N0 N1q
  have z2 : n0 ≤ T1.heap.size := Nat.le_trans Z0 K1.1
  have kp2 : Keep h0 T1.heap [a1, ac, asl, ai, a2, a3] := (Keep.refl h0 [a1, ac, asl, ai, a2, a3]).trans K1 (allS (Or.inl (List.mem_of_getElem? (i := 4) rfl)) (allS (Or.inl (List.mem_of_getElem? (i := 5) rfl)) all0))
  refine own_st (B := T1.setTop (mkF m 8 #[.val (.ref a1), .val (.int p1), .val (.ref a2), .val (.ref a3), .val (.int p4), .unset] [(.int r_1)])) (fun t k => st1 t k) ?_
  refine own_st (B := T1.setTop (mkF m 10 #[.val (.ref a1), .val (.int p1), .val (.ref a2), .val (.ref a3), .val (.int p4), .val (.int r_1)] [])) (fun t k => XS.istore X1.here hx rfl (hb hby d6_8) rfl (l' := #[.val (.ref a1), .val (.int p1), .val (.ref a2), .val (.ref a3), .val (.int p4), .val (.int r_1)]) rfl k) ?_
  refine own_st (B := T1.setTop (mkF m 11 #[.val (.ref a1), .val (.int p1), .val (.ref a2), .val (.ref a3), .val (.int p4), .val (.int r_1)] [(.ref a1)])) (fun t k => XS.aloadN X1.here hx rfl (hb hby d6_10) rfl rfl k) ?_
  refine own_st (B := T1.setTop (mkF m 12 #[.val (.ref a1), .val (.int p1), .val (.ref a2), .val (.ref a3), .val (.int p4), .val (.int r_1)] [(.int p1), (.ref a1)])) (fun t k => XS.iloadN X1.here hx rfl (hb hby d6_11) rfl k) ?_
  have f3 : Exa Z T1.heap a1 "com/example/relayframe/relayframe/Palette" := (F0.keep K1)
  have f4 : Exa Z T1.heap a2 "[I" := (F14.keep K1)
  have f5 : Exa Z T1.heap a3 "[I" := (F15.keep K1)
  have f6 : Fld Z T1.heap a1 "com/example/relayframe/relayframe/Palette" "colours" "[I" (.ref ac) := (F1.keep K1 (ninS (ne_exa f3 f4 (by decide)) (ninS (ne_exa f3 f5 (by decide)) nin0)))
  have f7 : Fld Z T1.heap a1 "com/example/relayframe/relayframe/Palette" "slotBits" "I" (.int B) := (F2.keep K1 (ninS (ne_exa f3 f4 (by decide)) (ninS (ne_exa f3 f5 (by decide)) nin0)))
  have f8 : Fld Z T1.heap a1 "com/example/relayframe/relayframe/Palette" "slotColours" "[I" (.ref asl) := (F3.keep K1 (ninS (ne_exa f3 f4 (by decide)) (ninS (ne_exa f3 f5 (by decide)) nin0)))
  have f9 : Fld Z T1.heap a1 "com/example/relayframe/relayframe/Palette" "slotIndices" "[S" (.ref ai) := (F4.keep K1 (ninS (ne_exa f3 f4 (by decide)) (ninS (ne_exa f3 f5 (by decide)) nin0)))
  have f10 : Fld Z T1.heap a1 "com/example/relayframe/relayframe/Palette" "size" "I" (.int sz) := (F5.keep K1 (ninS (ne_exa f3 f4 (by decide)) (ninS (ne_exa f3 f5 (by decide)) nin0)))
  have f11 : own_A Z T1.heap ac .int (CO.map Value.int) := (F6.keep K1 (ninS nx0 (ninS nx1 nin0)))
  have f12 : own_A Z T1.heap asl .int (SC.map Value.int) := (F7.keep K1 (ninS nx2 (ninS nx3 nin0)))
  have f13 : Exa Z T1.heap ai "[S" := (F11.keep K1)
  have f14 : own_A Z T1.heap ai .short (SI.map Value.int) := (F8.keep K1 (ninS (ne_exa f13 f4 (by decide)) (ninS (ne_exa f13 f5 (by decide)) nin0)))
  have f15 : Exa Z T1.heap ac "[I" := (F9.keep K1)
  have f16 : Exa Z T1.heap asl "[I" := (F10.keep K1)
  obtain ⟨cq17, kq17, q17a, q17b, q17c⟩ := isOf hZ rfl f3
  obtain ⟨_, _, ⟨T17, L17, k17, j17⟩, -, X17, ⟨Lc17, hQ17, l17, y17_, z17_⟩, st17⟩ := X1.virtualBack hx (y := (⟨"com/example/relayframe/relayframe/Palette", "indexOf", "(I)I"⟩ : MethodName)) (z := (⟨"com/example/relayframe/relayframe/Palette", "indexOf", "(I)I"⟩ : MethodName)) hown (mvT hZ (w_42 hw)) (mvT hZ (w_43 hw)) (notFace_of_selects (args := #[]) (mvT hZ (w_45 hw))) (mvT hZ (w_45 hw)) (mvT hZ (w_44 hw)) (by decide) (backOf (W := 0) (rm8 l Z a0 hw [] a1 p1 ac asl ai B sz N cap n CO SC SI T1.heap n0 z2 f3 f6 f7 f8 f9 f10 f11 f12 f14 f15 f16 f13 nca g1 g2 g3 g4 hNB hI hsz hcap) hZ (w_46 hw) (w_3 hw) (by decide) (by decide)) q17a q17c (g := (mkF m 12 #[.val (.ref a1), .val (.int p1), .val (.ref a2), .val (.ref a3), .val (.int p4), .val (.int r_1)] [(.int p1), (.ref a1)])) rfl (by rw [hml]; rfl) (Steps.refl _) (argsL := [(.int p1)]) (rest := []) (lenOf own_pd4 rfl) rfl (by show 2 * 0 + _ ≤ _; exact Nat.le_of_eq rfl) (hb hby d6_12) (fun _ _ => ⟨rfl, rfl, (by decide : 0 + 0 ≤ _), (by decide : 0 + 0 ≤ _)⟩)
  dsimp only [Pt.U, Pt.locs, Pt.cells, Pt.slots] at X17 l17 y17_ z17_ st17 hQ17
  subst l17 y17_ z17_
  obtain ⟨r_17, n2_17, sz2_17, CO2_17, SC2_17, SI2_17, rfl, N17q, K17, p17_0, p17_1, p17_2, p17_3, p17_4, p17_5, p17_6, p17_7, r17_0, r17_1, r17_2⟩ := hQ17
  have N17 := Fr.app N1 N17q
  have z18 : n0 ≤ T17.heap.size := Nat.le_trans z2 K17.1
  have kp18 : Keep h0 T17.heap [a1, ac, asl, ai, a2, a3] := kp2.trans K17 (allS (Or.inl (List.mem_of_getElem? (i := 0) rfl)) (allS (Or.inl (List.mem_of_getElem? (i := 1) rfl)) (allS (Or.inl (List.mem_of_getElem? (i := 2) rfl)) (allS (Or.inl (List.mem_of_getElem? (i := 3) rfl)) all0))))
  refine own_ss (B := T17.setTop (mkF m 15 #[.val (.ref a1), .val (.int p1), .val (.ref a2), .val (.ref a3), .val (.int p4), .val (.int r_1)] [(.int r_17)])) st17 ?_
  refine own_st (B := T17.setTop (mkF m 17 #[.val (.ref a1), .val (.int p1), .val (.ref a2), .val (.ref a3), .val (.int p4), .val (.int r_1)] [(.int r_1), (.int r_17)])) (fun t k => XS.iload X17.here hx rfl (hb hby d6_15) rfl k) ?_
  have hbo := own_both hI.1.1 hl5 hcap.2 hag hI.2.2.2.2.1 r17_2 r1_0
  have hc19 : r_17 = r_1 := by
    exact hbo.1
  refine own_st (B := T17.setTop (mkF m 20 #[.val (.ref a1), .val (.int p1), .val (.ref a2), .val (.ref a3), .val (.int p4), .val (.int r_1)] [])) (fun t k => XS.icmpNo X17.here hx rfl (hb hby d6_17) rfl (XT.ii_ne_f hc19) k) ?_
  refine own_st (B := T17.setTop (mkF m 21 #[.val (.ref a1), .val (.int p1), .val (.ref a2), .val (.ref a3), .val (.int p4), .val (.int r_1)] [(.int (1 : Int32))])) (fun t k => XS.iconst X17.here hx rfl (hb hby d6_20) k) ?_
  refine own_st (B := T17.setTop (mkF m 25 #[.val (.ref a1), .val (.int p1), .val (.ref a2), .val (.ref a3), .val (.int p4), .val (.int r_1)] [(.int (1 : Int32))])) (fun t k => XS.goto X17.here hx rfl (pc0 := 21) (pc' := 25) rfl (hb hby d6_21) (by decide) (by decide) k) ?_
  refine own_retN X17 hx hlk (t := .boolean) Bd.returns (by simp) (z' := (1 : Int32)) rfl (hb hby d6_25) (by decide) (by decide) ?_
  show Q6 Z a1 p1 a2 a3 p4 ac asl ai B sz N cap n CO SC SI SE cn h0 n0 _ T17.heap _
  have f20 : Exa Z T17.heap a2 "[I" := (f4.keep K17)
  have f21 : Exa Z T17.heap a1 "com/example/relayframe/relayframe/Palette" := (f3.keep K17)
  have f22 : Exa Z T17.heap ai "[S" := (f13.keep K17)
  have f23 : own_A Z T17.heap a2 .int (SE2_1.map Value.int) := (p1_0.keep K17 (ninS (ne_exa f20 f21 (by decide)) (ninS (Ne.symm nx0) (ninS (Ne.symm nx2) (ninS (ne_exa f20 f22 (by decide)) nin0)))))
  have f24 : Exa Z T17.heap a3 "[I" := (f5.keep K17)
  have f25 : own_A Z T17.heap a3 .int [(.int cn2_1)] := (p1_1.keep K17 (ninS (ne_exa f24 f21 (by decide)) (ninS (Ne.symm nx1) (ninS (Ne.symm nx3) (ninS (ne_exa f24 f22 (by decide)) nin0)))))
  exact ⟨n2_17, sz2_17, CO2_17, SC2_17, SI2_17, SE2_1, cn2_1, rfl, N17, kp18, p17_0, p17_1, p17_2, p17_3, p17_4, p17_5, p17_6, p17_7, f23, f25, r17_0, r17_1, (by rw [hbo.2.1]; exact r1_1), hbo.2.2.1, hbo.2.2.2⟩
theorem d9_0 : decode prog_3_method_4_code 0 = .ok (.aload_n 0, 1) := by decide +kernel
theorem d9_1 : decode prog_3_method_4_code 1 = .ok (.getfield 39, 3) := by decide +kernel
theorem d9_4 : decode prog_3_method_4_code 4 = .ok (.ireturn, 1) := by decide +kernel
theorem ef_9 (m : MethodId) (x0 : Addr) : entryFrame m #[(.ref x0)] 1 = mkF m 0 #[.val (.ref x0)] [] := by first | (simp [entryFrame, mkF, argsToLocals, Value.category]; done) | rfl
def Q9 (Z : State) (a1 : Addr) (p1 : Int32) (h0 : Heap) (n0 : Nat) (v : Option Value) (h : Heap) (L : List Loc) : Prop := v = some (.int p1) ∧ Fr n0 L ∧ h = h0
set_option maxHeartbeats 40000000 in
theorem rm9 (l : Launch) (Z : State) (a0 : Array Value) (hw : ∀ d ∈ tables_1, d.before a0 Z = true) (ws : List Jvm.Cond) (a1 : Addr) (p1 : Int32) (h0 : Heap) (n0 : Nat) (Z0 : n0 ≤ h0.size) (F0 : Fld Z h0 a1 "com/example/relayframe/relayframe/Palette" "size" "I" (.int p1)) :
    MetFree l (⟨"com/example/relayframe/relayframe/Palette", "size", "()I"⟩ : MethodName) (head1 (Jvm.Cond.code (⟨"com/example/relayframe/relayframe/Palette", "size", "()I"⟩ : MethodName) prog_3_method_4_code 1 (some .int) :: ws) ({ frames := 0, cells := 0, slots := 0, locals := 0 } : Room)) (fun a U => a = #[(.ref a1)] ∧ Z.Warmed39 U.vm ∧ U.heap = h0) (fun _ _ _ _ _ => True) (fun _ U o U' => ∃ v L, o = .returned v ∧ Q9 Z a1 p1 h0 n0 v U'.heap L ∧ FrameEnd U o U' L ({ frames := 0, cells := 0, slots := 0, locals := 0 } : Room).cells ({ frames := 0, cells := 0, slots := 0, locals := 0 } : Room).slots) := by
  refine MetFree.of_bodySF (plainFor_of_name own_pn3) hisR ?_
  intro p e s m args below meth c s₁ Bd hml0 hP hK
  obtain ⟨rfl, hZ, hh⟩ := hP
  have hx := Bd.exec
  have hby := Bd.bytes
  have hml : c.maxLocals = 1 := hml0
  have hlk : meth.locks = false := BodyLoose.notSynchronized Bd
  have hown : s.vm.findClass "com/example/relayframe/relayframe/Palette" = some m.cls := findClass_of_methodNamed Bd.named
  have hnm := (name_of_methodNamed Bd.named Bd.method).1
  have X0 : Stand p l e ({ frames := 0, cells := 0, slots := 0, locals := 0 } : Room) s m #[(.ref a1)] below meth c s₁ [] 0 0 := Stand.of_body Bd
  have e0 : s₁.heap = h0 := by rw [← hh, Bd.state]; rfl
  have N0 := Fr.nil n0
  show own_Go p e below s (Q9 Z a1 p1 h0 n0) ({ frames := 0, cells := 0, slots := 0, locals := 0 } : Room).cells ({ frames := 0, cells := 0, slots := 0, locals := 0 } : Room).slots _
  refine own_st (B := s₁.setTop (mkF m 0 #[.val (.ref a1)] [])) (fun t k => castTop (ef_9 m (a1)) k) ?_
  refine own_st (B := s₁.setTop (mkF m 1 #[.val (.ref a1)] [(.ref a1)])) (fun t k => XS.aloadN X0.here hx rfl (hb hby d9_0) rfl rfl k) ?_
  obtain ⟨T1, X1, e1, st1⟩ := getF X0 hx hZ hown (host := "") (Or.inl (w_33 hw)) Via.refl e0 F0 (g := (mkF m 1 #[.val (.ref a1)] [(.ref a1)])) rfl rfl (hb hby d9_1)
  refine own_st (B := T1.setTop (mkF m 4 #[.val (.ref a1)] [(.int p1)])) (fun t k => st1 t k) ?_
  refine own_retI X1 hx hlk Bd.returns (hb hby d9_4) (by decide) (by decide) ?_
  show Q9 Z a1 p1 h0 n0 _ T1.heap _
  rw [e1]
  exact ⟨rfl, N0, rfl⟩
theorem d10_0 : decode prog_3_method_5_code 0 = .ok (.aload_n 0, 1) := by decide +kernel
theorem d10_1 : decode prog_3_method_5_code 1 = .ok (.getfield 7, 3) := by decide +kernel
theorem d10_4 : decode prog_3_method_5_code 4 = .ok (.areturn, 1) := by decide +kernel
theorem ef_10 (m : MethodId) (x0 : Addr) : entryFrame m #[(.ref x0)] 1 = mkF m 0 #[.val (.ref x0)] [] := by first | (simp [entryFrame, mkF, argsToLocals, Value.category]; done) | rfl
def Q10 (Z : State) (a1 : Addr) (a2 : Addr) (h0 : Heap) (n0 : Nat) (v : Option Value) (h : Heap) (L : List Loc) : Prop := v = some (.ref a2) ∧ Fr n0 L ∧ h = h0
set_option maxHeartbeats 40000000 in
theorem rm10 (l : Launch) (Z : State) (a0 : Array Value) (hw : ∀ d ∈ tables_1, d.before a0 Z = true) (ws : List Jvm.Cond) (a1 : Addr) (a2 : Addr) (h0 : Heap) (n0 : Nat) (Z0 : n0 ≤ h0.size) (F0 : Fld Z h0 a1 "com/example/relayframe/relayframe/Palette" "colours" "[I" (.ref a2)) :
    MetFree l (⟨"com/example/relayframe/relayframe/Palette", "colours", "()[I"⟩ : MethodName) (head1 (Jvm.Cond.code (⟨"com/example/relayframe/relayframe/Palette", "colours", "()[I"⟩ : MethodName) prog_3_method_5_code 1 (some (.array .int)) :: ws) ({ frames := 0, cells := 0, slots := 0, locals := 0 } : Room)) (fun a U => a = #[(.ref a1)] ∧ Z.Warmed39 U.vm ∧ U.heap = h0) (fun _ _ _ _ _ => True) (fun _ U o U' => ∃ v L, o = .returned v ∧ Q10 Z a1 a2 h0 n0 v U'.heap L ∧ FrameEnd U o U' L ({ frames := 0, cells := 0, slots := 0, locals := 0 } : Room).cells ({ frames := 0, cells := 0, slots := 0, locals := 0 } : Room).slots) := by
  refine MetFree.of_bodySF (plainFor_of_name own_pn3) hisR ?_
  intro p e s m args below meth c s₁ Bd hml0 hP hK
  obtain ⟨rfl, hZ, hh⟩ := hP
  have hx := Bd.exec
  have hby := Bd.bytes
  have hml : c.maxLocals = 1 := hml0
  have hlk : meth.locks = false := BodyLoose.notSynchronized Bd
  have hown : s.vm.findClass "com/example/relayframe/relayframe/Palette" = some m.cls := findClass_of_methodNamed Bd.named
  have hnm := (name_of_methodNamed Bd.named Bd.method).1
  have X0 : Stand p l e ({ frames := 0, cells := 0, slots := 0, locals := 0 } : Room) s m #[(.ref a1)] below meth c s₁ [] 0 0 := Stand.of_body Bd
  have e0 : s₁.heap = h0 := by rw [← hh, Bd.state]; rfl
  have N0 := Fr.nil n0
  show own_Go p e below s (Q10 Z a1 a2 h0 n0) ({ frames := 0, cells := 0, slots := 0, locals := 0 } : Room).cells ({ frames := 0, cells := 0, slots := 0, locals := 0 } : Room).slots _
  refine own_st (B := s₁.setTop (mkF m 0 #[.val (.ref a1)] [])) (fun t k => castTop (ef_10 m (a1)) k) ?_
  refine own_st (B := s₁.setTop (mkF m 1 #[.val (.ref a1)] [(.ref a1)])) (fun t k => XS.aloadN X0.here hx rfl (hb hby d10_0) rfl rfl k) ?_
  obtain ⟨T1, X1, e1, st1⟩ := getF X0 hx hZ hown (host := "") (Or.inl (w_10 hw)) Via.refl e0 F0 (g := (mkF m 1 #[.val (.ref a1)] [(.ref a1)])) rfl rfl (hb hby d10_1)
  refine own_st (B := T1.setTop (mkF m 4 #[.val (.ref a1)] [(.ref a2)])) (fun t k => st1 t k) ?_
  refine own_retR X1 hx hlk (t := (.array .int)) Bd.returns rfl rfl rfl (hb hby d10_4) (by decide) (by decide) ?_
  show Q10 Z a1 a2 h0 n0 _ T1.heap _
  rw [e1]
  exact ⟨rfl, N0, rfl⟩
theorem d11_0 : decode method_5_code 0 = .ok (.iload_n 3, 1) := by decide +kernel
theorem d11_1 : decode method_5_code 1 = .ok (.iload_n 2, 1) := by decide +kernel
theorem d11_2 : decode method_5_code 2 = .ok (.if_icmp .lt 5, 3) := by decide +kernel
theorem d11_5 : decode method_5_code 5 = .ok (.iconst 1, 1) := by decide +kernel
theorem d11_6 : decode method_5_code 6 = .ok (.ireturn, 1) := by decide +kernel
theorem d11_7 : decode method_5_code 7 = .ok (.iload_n 3, 1) := by decide +kernel
theorem d11_8 : decode method_5_code 8 = .ok (.aload_n 0, 1) := by decide +kernel
theorem d11_9 : decode method_5_code 9 = .ok (.arraylength, 1) := by decide +kernel
theorem d11_10 : decode method_5_code 10 = .ok (.if_icmp .ge 16, 3) := by decide +kernel
theorem d11_13 : decode method_5_code 13 = .ok (.aload_n 0, 1) := by decide +kernel
theorem d11_14 : decode method_5_code 14 = .ok (.iload_n 3, 1) := by decide +kernel
theorem d11_15 : decode method_5_code 15 = .ok (.iaload, 1) := by decide +kernel
theorem d11_16 : decode method_5_code 16 = .ok (.aload_n 1, 1) := by decide +kernel
theorem d11_17 : decode method_5_code 17 = .ok (.iload_n 3, 1) := by decide +kernel
theorem d11_18 : decode method_5_code 18 = .ok (.iaload, 1) := by decide +kernel
theorem d11_19 : decode method_5_code 19 = .ok (.if_icmp .ne 7, 3) := by decide +kernel
theorem d11_22 : decode method_5_code 22 = .ok (.iconst 1, 1) := by decide +kernel
theorem d11_23 : decode method_5_code 23 = .ok (.goto 4, 3) := by decide +kernel
theorem d11_27 : decode method_5_code 27 = .ok (.ireturn, 1) := by decide +kernel
theorem ef_11 (m : MethodId) (x0 : Addr) (x1 : Addr) (x2 : Int32) (x3 : Int32) : entryFrame m #[(.ref x0), (.ref x1), (.int x2), (.int x3)] 4 = mkF m 0 #[.val (.ref x0), .val (.ref x1), .val (.int x2), .val (.int x3)] [] := by first | (simp [entryFrame, mkF, argsToLocals, Value.category]; done) | rfl
def Q11 (Z : State) (a1 : Addr) (a2 : Addr) (p3 : Int32) (p4 : Int32) (CO : List Int32) (SE : List Int32) (n : Nat) (cap : Nat) (K : Nat) (h0 : Heap) (n0 : Nat) (v : Option Value) (h : Heap) (L : List Loc) : Prop := v = some (.int (1 : Int32)) ∧ Fr n0 L ∧ h = h0
set_option maxHeartbeats 40000000 in
theorem rm11 (l : Launch) (Z : State) (a0 : Array Value) (hw : ∀ d ∈ tables_1, d.before a0 Z = true) (ws : List Jvm.Cond) (a1 : Addr) (a2 : Addr) (p3 : Int32) (p4 : Int32) (CO : List Int32) (SE : List Int32) (n : Nat) (cap : Nat) (K : Nat) (h0 : Heap) (n0 : Nat) (Z0 : n0 ≤ h0.size) (F0 : own_A Z h0 a1 .int (CO.map Value.int)) (F1 : own_A Z h0 a2 .int (SE.map Value.int)) (hk : p4.toInt = (K : Int)) (hn : p3.toInt = (n : Int)) (hlC : CO.length = cap) (hl5 : SE.length = 5) (hnc : n ≤ cap ∧ cap ≤ 4) (hag : own_Ag n CO SE) :
    MetFree l (⟨"com/example/relayframe/relayframe/PaletteIndexOfPinLaw", "sameAt", "([I[III)Z"⟩ : MethodName) (head1 (Jvm.Cond.code (⟨"com/example/relayframe/relayframe/PaletteIndexOfPinLaw", "sameAt", "([I[III)Z"⟩ : MethodName) method_5_code 4 (some .boolean) :: ws) ({ frames := 0, cells := 0, slots := 0, locals := 0 } : Room)) (fun a U => a = #[(.ref a1), (.ref a2), (.int p3), (.int p4)] ∧ Z.Warmed39 U.vm ∧ U.heap = h0) (fun _ _ _ _ _ => True) (fun _ U o U' => ∃ v L, o = .returned v ∧ Q11 Z a1 a2 p3 p4 CO SE n cap K h0 n0 v U'.heap L ∧ FrameEnd U o U' L ({ frames := 0, cells := 0, slots := 0, locals := 0 } : Room).cells ({ frames := 0, cells := 0, slots := 0, locals := 0 } : Room).slots) := by
  refine MetFree.of_bodySF (plainFor_of_name own_pn4) hisR ?_
  intro p e s m args below meth c s₁ Bd hml0 hP hK
  obtain ⟨rfl, hZ, hh⟩ := hP
  have hx := Bd.exec
  have hby := Bd.bytes
  have hml : c.maxLocals = 4 := hml0
  have hlk : meth.locks = false := BodyLoose.notSynchronized Bd
  have hown : s.vm.findClass "com/example/relayframe/relayframe/PaletteIndexOfPinLaw" = some m.cls := findClass_of_methodNamed Bd.named
  have hnm := (name_of_methodNamed Bd.named Bd.method).1
  have X0 : Stand p l e ({ frames := 0, cells := 0, slots := 0, locals := 0 } : Room) s m #[(.ref a1), (.ref a2), (.int p3), (.int p4)] below meth c s₁ [] 0 0 := Stand.of_body Bd
  have e0 : s₁.heap = h0 := by rw [← hh, Bd.state]; rfl
  have N0 := Fr.nil n0
  show own_Go p e below s (Q11 Z a1 a2 p3 p4 CO SE n cap K h0 n0) ({ frames := 0, cells := 0, slots := 0, locals := 0 } : Room).cells ({ frames := 0, cells := 0, slots := 0, locals := 0 } : Room).slots _
  refine own_st (B := s₁.setTop (mkF m 0 #[.val (.ref a1), .val (.ref a2), .val (.int p3), .val (.int p4)] [])) (fun t k => castTop (ef_11 m (a1) (a2) (p3) (p4)) k) ?_
  refine own_st (B := s₁.setTop (mkF m 1 #[.val (.ref a1), .val (.ref a2), .val (.int p3), .val (.int p4)] [(.int p4)])) (fun t k => XS.iloadN X0.here hx rfl (hb hby d11_0) rfl k) ?_
  refine own_st (B := s₁.setTop (mkF m 2 #[.val (.ref a1), .val (.ref a2), .val (.int p3), .val (.int p4)] [(.int p3), (.int p4)])) (fun t k => XS.iloadN X0.here hx rfl (hb hby d11_1) rfl k) ?_
  by_cases hc1 : p4 < p3
  · refine own_st (B := s₁.setTop (mkF m 7 #[.val (.ref a1), .val (.ref a2), .val (.int p3), .val (.int p4)] [])) (fun t k => XS.icmpYes X0.here hx rfl (pc0 := 2) (pc' := 7) rfl (hb hby d11_2) rfl (XT.ii_lt_t hc1) (by decide) (by decide) k) ?_
    refine own_st (B := s₁.setTop (mkF m 8 #[.val (.ref a1), .val (.ref a2), .val (.int p3), .val (.int p4)] [(.int p4)])) (fun t k => XS.iloadN X0.here hx rfl (hb hby d11_7) rfl k) ?_
    refine own_st (B := s₁.setTop (mkF m 9 #[.val (.ref a1), .val (.ref a2), .val (.int p3), .val (.int p4)] [(.ref a1), (.int p4)])) (fun t k => XS.aloadN X0.here hx rfl (hb hby d11_8) rfl rfl k) ?_
    refine own_st (B := s₁.setTop (mkF m 10 #[.val (.ref a1), .val (.ref a2), .val (.int p3), .val (.int p4)] [(.int (cap.toInt32)), (.int p4)])) (fun t k => own_len X0 hx hZ e0 F0 (g := (mkF m 9 #[.val (.ref a1), .val (.ref a2), .val (.int p3), .val (.int p4)] [(.ref a1), (.int p4)])) (n := (cap.toInt32)) (by rw [List.length_map, hlC, len_toInt (by omega)]) rfl rfl (hb hby d11_9) k) ?_
    have hc2 : p4 < (cap.toInt32) := by
      have h9 := Int32.lt_iff_toInt_lt.mp hc1; exact Int32.lt_iff_toInt_lt.mpr (by rw [len_toInt (by omega)]; omega)
    refine own_st (B := s₁.setTop (mkF m 13 #[.val (.ref a1), .val (.ref a2), .val (.int p3), .val (.int p4)] [])) (fun t k => XS.icmpNo X0.here hx rfl (hb hby d11_10) rfl (XT.ii_ge_f hc2) k) ?_
    refine own_st (B := s₁.setTop (mkF m 14 #[.val (.ref a1), .val (.ref a2), .val (.int p3), .val (.int p4)] [(.ref a1)])) (fun t k => XS.aloadN X0.here hx rfl (hb hby d11_13) rfl rfl k) ?_
    refine own_st (B := s₁.setTop (mkF m 15 #[.val (.ref a1), .val (.ref a2), .val (.int p3), .val (.int p4)] [(.int p4), (.ref a1)])) (fun t k => XS.iloadN X0.here hx rfl (hb hby d11_14) rfl k) ?_
    refine own_st (B := s₁.setTop (mkF m 16 #[.val (.ref a1), .val (.ref a2), .val (.int p3), .val (.int p4)] [(.int (CO.getD K 0))])) (fun t k => own_ldI X0 hx hZ e0 F0 (g := (mkF m 15 #[.val (.ref a1), .val (.ref a2), .val (.int p3), .val (.int p4)] [(.int p4), (.ref a1)])) (i := K) hk (own_getI (by have h9 := Int32.lt_iff_toInt_lt.mp hc1; omega)) rfl rfl (hb hby d11_15) k) ?_
    refine own_st (B := s₁.setTop (mkF m 17 #[.val (.ref a1), .val (.ref a2), .val (.int p3), .val (.int p4)] [(.ref a2), (.int (CO.getD K 0))])) (fun t k => XS.aloadN X0.here hx rfl (hb hby d11_16) rfl rfl k) ?_
    refine own_st (B := s₁.setTop (mkF m 18 #[.val (.ref a1), .val (.ref a2), .val (.int p3), .val (.int p4)] [(.int p4), (.ref a2), (.int (CO.getD K 0))])) (fun t k => XS.iloadN X0.here hx rfl (hb hby d11_17) rfl k) ?_
    refine own_st (B := s₁.setTop (mkF m 19 #[.val (.ref a1), .val (.ref a2), .val (.int p3), .val (.int p4)] [(.int (SE.getD K 0)), (.int (CO.getD K 0))])) (fun t k => own_ldI X0 hx hZ e0 F1 (g := (mkF m 18 #[.val (.ref a1), .val (.ref a2), .val (.int p3), .val (.int p4)] [(.int p4), (.ref a2), (.int (CO.getD K 0))])) (i := K) hk (own_getI (by have h9 := Int32.lt_iff_toInt_lt.mp hc1; omega)) rfl rfl (hb hby d11_18) k) ?_
    have hc3 : (CO.getD K 0) = (SE.getD K 0) := by
      have h9 := Int32.lt_iff_toInt_lt.mp hc1; exact (hag K (by omega)).symm
    refine own_st (B := s₁.setTop (mkF m 22 #[.val (.ref a1), .val (.ref a2), .val (.int p3), .val (.int p4)] [])) (fun t k => XS.icmpNo X0.here hx rfl (hb hby d11_19) rfl (XT.ii_ne_f hc3) k) ?_
    refine own_st (B := s₁.setTop (mkF m 23 #[.val (.ref a1), .val (.ref a2), .val (.int p3), .val (.int p4)] [(.int (1 : Int32))])) (fun t k => XS.iconst X0.here hx rfl (hb hby d11_22) k) ?_
    refine own_st (B := s₁.setTop (mkF m 27 #[.val (.ref a1), .val (.ref a2), .val (.int p3), .val (.int p4)] [(.int (1 : Int32))])) (fun t k => XS.goto X0.here hx rfl (pc0 := 23) (pc' := 27) rfl (hb hby d11_23) (by decide) (by decide) k) ?_
    refine own_retN X0 hx hlk (t := .boolean) Bd.returns (by simp) (z' := (1 : Int32)) rfl (hb hby d11_27) (by decide) (by decide) ?_
    show Q11 Z a1 a2 p3 p4 CO SE n cap K h0 n0 _ s₁.heap _
    rw [e0]
    exact ⟨rfl, N0, rfl⟩
  · refine own_st (B := s₁.setTop (mkF m 5 #[.val (.ref a1), .val (.ref a2), .val (.int p3), .val (.int p4)] [])) (fun t k => XS.icmpNo X0.here hx rfl (hb hby d11_2) rfl (XT.ii_lt_f hc1) k) ?_
    refine own_st (B := s₁.setTop (mkF m 6 #[.val (.ref a1), .val (.ref a2), .val (.int p3), .val (.int p4)] [(.int (1 : Int32))])) (fun t k => XS.iconst X0.here hx rfl (hb hby d11_5) k) ?_
    refine own_retN X0 hx hlk (t := .boolean) Bd.returns (by simp) (z' := (1 : Int32)) rfl (hb hby d11_6) (by decide) (by decide) ?_
    show Q11 Z a1 a2 p3 p4 CO SE n cap K h0 n0 _ s₁.heap _
    rw [e0]
    exact ⟨rfl, N0, rfl⟩
theorem own_cap4 {x v : Int32} (e : v = ((x &&& 3) + 1)) : v = 1 ∨ v = 2 ∨ v = 3 ∨ v = 4 := by
  have h1 := c_mask x 3 2 (by decide) (by decide)
  have h2 := c_iadd (x &&& 3) 1
  have h3 := rng32 ((x &&& 3) + 1)
  have h4 : (1 : Int32).toInt = 1 := rfl
  rw [← e] at h2 h3
  rcases (by omega : v.toInt = 1 ∨ v.toInt = 2 ∨ v.toInt = 3 ∨ v.toInt = 4) with h | h | h | h
  · exact Or.inl (Int32.toInt_inj.mp (h.trans (show (1 : Int) = (1 : Int32).toInt from rfl)))
  · exact Or.inr (Or.inl (Int32.toInt_inj.mp (h.trans (show (2 : Int) = (2 : Int32).toInt from rfl))))
  · exact Or.inr (Or.inr (Or.inl (Int32.toInt_inj.mp (h.trans (show (3 : Int) = (3 : Int32).toInt from rfl)))))
  · exact Or.inr (Or.inr (Or.inr (Int32.toInt_inj.mp (h.trans (show (4 : Int) = (4 : Int32).toInt from rfl)))))
theorem own_a3 (x : Int32) : 0 ≤ (x &&& (3 : Int32)).toInt ∧ (x &&& (3 : Int32)).toInt < 4 := by
  have h1 := c_mask x 3 2 (by decide) (by decide)
  rw [h1]; omega
theorem own_I00 {N cap : Nat} {H : Int32 → Nat} {CO SC SI : List Int32} (h1 : CO.length = cap ∧ SC.length = N ∧ SI.length = N) (h2 : ∀ j, j < N → SI.getD j 0 = (-1 : Int32)) (h3 : SI.countP (fun x => x == (-1 : Int32)) = N) : own_I0 N cap 0 H CO SC SI :=
  ⟨⟨h1.1, h1.2.1, h1.2.2, Nat.zero_le _⟩, fun j hj => Or.inl (h2 j hj), fun i hi => absurd hi (Nat.not_lt_zero i), fun j hj hn => absurd (h2 j hj) hn, fun i _ hi => absurd hi (Nat.not_lt_zero i), by omega⟩
theorem own_pd8 : parseMethodDescriptor "(I)V" = some ⟨[.int], none⟩ := by decide +kernel
theorem own_pd9 : parseMethodDescriptor "(Lcom/example/relayframe/relayframe/Palette;I[I[II)Z" = some ⟨[(.object "com/example/relayframe/relayframe/Palette"), .int, (.array .int), (.array .int), .int], some .boolean⟩ := by decide +kernel
theorem own_pd10 : parseMethodDescriptor "()I" = some ⟨[], some .int⟩ := by decide +kernel
theorem own_pd11 : parseMethodDescriptor "()[I" = some ⟨[], some (.array .int)⟩ := by decide +kernel
theorem own_pd12 : parseMethodDescriptor "([I[III)Z" = some ⟨[(.array .int), (.array .int), .int, .int], some .boolean⟩ := by decide +kernel
theorem ef_0 (m : MethodId) (x0 : Int32) (x1 : Int32) (x2 : Int32) (x3 : Int32) (x4 : Int32) (x5 : Int32) : entryFrame m #[(.int x0), (.int x1), (.int x2), (.int x3), (.int x4), (.int x5)] maxLocals = mkF m 0 #[.val (.int x0), .val (.int x1), .val (.int x2), .val (.int x3), .val (.int x4), .val (.int x5), .unset, .unset, .unset, .unset, .unset, .unset, .unset, .unset] [] := by first | (simp [entryFrame, mkF, argsToLocals, Value.category, maxLocals]; done) | rfl
def Q0 (Z : State) (arg0 : Int32) (arg1 : Int32) (arg2 : Int32) (arg3 : Int32) (arg4 : Int32) (arg5 : Int32) (h0 : Heap) (n0 : Nat) (v : Option Value) (h : Heap) (L : List Loc) : Prop := v = some (.int 1) ∧ Fr n0 L
set_option maxHeartbeats 40000000 in
theorem rm0 (l : Launch) (Z : State) (a0 : Array Value) (hw : ∀ d ∈ tables_1, d.before a0 Z = true) (ws : List Jvm.Cond) (arg0 : Int32) (arg1 : Int32) (arg2 : Int32) (arg3 : Int32) (arg4 : Int32) (arg5 : Int32) (h0 : Heap) (n0 : Nat) (Z0 : n0 ≤ h0.size) :
    MetFree l x (head1 (Jvm.Cond.code x code maxLocals ret :: ws) room_1) (fun a U => a = #[(.int arg0), (.int arg1), (.int arg2), (.int arg3), (.int arg4), (.int arg5)] ∧ Z.Warmed39 U.vm ∧ U.heap = h0) (fun _ _ _ _ _ => True) (fun _ U o U' => ∃ v L, o = .returned v ∧ Q0 Z arg0 arg1 arg2 arg3 arg4 arg5 h0 n0 v U'.heap L ∧ FrameEnd U o U' L 24 192) := by
  refine MetFree.of_bodySF (plainFor_of_name own_pn4) hisR ?_
  intro p e s m args below meth c s₁ Bd hml0 hP hK
  obtain ⟨rfl, hZ, hh⟩ := hP
  have hx := Bd.exec
  have hby := Bd.bytes
  have hml : c.maxLocals = 14 := hml0
  have hlk : meth.locks = false := BodyLoose.notSynchronized Bd
  have hown : s.vm.findClass "com/example/relayframe/relayframe/PaletteIndexOfPinLaw" = some m.cls := findClass_of_methodNamed Bd.named
  have hnm := (name_of_methodNamed Bd.named Bd.method).1
  have X0 : Stand p l e room_1 s m #[(.int arg0), (.int arg1), (.int arg2), (.int arg3), (.int arg4), (.int arg5)] below meth c s₁ [] 0 0 := Stand.of_body Bd
  have e0 : s₁.heap = h0 := by rw [← hh, Bd.state]; rfl
  have N0 := Fr.nil n0
  show own_Go p e below s (Q0 Z arg0 arg1 arg2 arg3 arg4 arg5 h0 n0) 24 192 _
  refine own_st (B := s₁.setTop (mkF m 0 #[.val (.int arg0), .val (.int arg1), .val (.int arg2), .val (.int arg3), .val (.int arg4), .val (.int arg5), .unset, .unset, .unset, .unset, .unset, .unset, .unset, .unset] [])) (fun t k => castTop (ef_0 m (arg0) (arg1) (arg2) (arg3) (arg4) (arg5)) k) ?_
  refine own_st (B := s₁.setTop (mkF m 1 #[.val (.int arg0), .val (.int arg1), .val (.int arg2), .val (.int arg3), .val (.int arg4), .val (.int arg5), .unset, .unset, .unset, .unset, .unset, .unset, .unset, .unset] [(.int arg0)])) (fun t k => XS.iloadN X0.here hx rfl (hb hby at_0) rfl k) ?_
  refine own_st (B := s₁.setTop (mkF m 2 #[.val (.int arg0), .val (.int arg1), .val (.int arg2), .val (.int arg3), .val (.int arg4), .val (.int arg5), .unset, .unset, .unset, .unset, .unset, .unset, .unset, .unset] [(.int (3 : Int32)), (.int arg0)])) (fun t k => XS.iconst X0.here hx rfl (hb hby at_1) k) ?_
  refine own_st (B := s₁.setTop (mkF m 3 #[.val (.int arg0), .val (.int arg1), .val (.int arg2), .val (.int arg3), .val (.int arg4), .val (.int arg5), .unset, .unset, .unset, .unset, .unset, .unset, .unset, .unset] [(.int (arg0 &&& (3 : Int32)))])) (fun t k => XS.iand X0.here hx rfl (hb hby at_2) rfl k) ?_
  refine own_st (B := s₁.setTop (mkF m 4 #[.val (.int arg0), .val (.int arg1), .val (.int arg2), .val (.int arg3), .val (.int arg4), .val (.int arg5), .unset, .unset, .unset, .unset, .unset, .unset, .unset, .unset] [(.int (1 : Int32)), (.int (arg0 &&& (3 : Int32)))])) (fun t k => XS.iconst X0.here hx rfl (hb hby at_3) k) ?_
  refine own_st (B := s₁.setTop (mkF m 5 #[.val (.int arg0), .val (.int arg1), .val (.int arg2), .val (.int arg3), .val (.int arg4), .val (.int arg5), .unset, .unset, .unset, .unset, .unset, .unset, .unset, .unset] [(.int ((arg0 &&& (3 : Int32)) + (1 : Int32)))])) (fun t k => XS.iadd X0.here hx rfl (hb hby at_4) rfl k) ?_
  obtain ⟨v1, ev1⟩ : ∃ z : Int32, z = ((arg0 &&& (3 : Int32)) + (1 : Int32)) := ⟨_, rfl⟩
  rw [← ev1]
  refine own_st (B := s₁.setTop (mkF m 7 #[.val (.int arg0), .val (.int arg1), .val (.int arg2), .val (.int arg3), .val (.int arg4), .val (.int arg5), .val (.int v1), .unset, .unset, .unset, .unset, .unset, .unset, .unset] [])) (fun t k => XS.istore X0.here hx rfl (hb hby at_5) rfl (l' := #[.val (.int arg0), .val (.int arg1), .val (.int arg2), .val (.int arg3), .val (.int arg4), .val (.int arg5), .val (.int v1), .unset, .unset, .unset, .unset, .unset, .unset, .unset]) rfl k) ?_
  refine own_st (B := s₁.setTop (mkF m 8 #[.val (.int arg0), .val (.int arg1), .val (.int arg2), .val (.int arg3), .val (.int arg4), .val (.int arg5), .val (.int v1), .unset, .unset, .unset, .unset, .unset, .unset, .unset] [(.int (4 : Int32))])) (fun t k => XS.iconst X0.here hx rfl (hb hby at_7) k) ?_
  obtain ⟨T2, h2, X2, e2, E2, A2, x2, st2⟩ := own_newP X0 hx hZ (aty := .int) (w_0 hw) e0 (g := (mkF m 8 #[.val (.int arg0), .val (.int arg1), .val (.int arg2), .val (.int arg3), .val (.int arg4), .val (.int arg5), .val (.int v1), .unset, .unset, .unset, .unset, .unset, .unset, .unset] [(.int (4 : Int32))])) rfl (hb hby at_8) (n := (4 : Int32)) (rest := []) rfl (k := 4) (cap := 4) (by decide) (Nat.le_refl _) (by decide) (by decide) (by decide) (ad := "[I") rfl
  obtain ⟨b2, g2⟩ : ∃ z, z = h0.size := ⟨_, rfl⟩
  rw [← g2] at A2 x2 st2
  have u2 : n0 ≤ b2 := Nat.le_trans Z0 (Nat.le_of_eq g2.symm)
  have z3 : n0 ≤ h2.size := Nat.le_trans Z0 E2.1
  have f2_ : own_A Z h2 b2 .int [(.int (0 : Int32)), (.int (0 : Int32)), (.int (0 : Int32)), (.int (0 : Int32))] := A2
  refine own_st (B := T2.setTop (mkF m 10 #[.val (.int arg0), .val (.int arg1), .val (.int arg2), .val (.int arg3), .val (.int arg4), .val (.int arg5), .val (.int v1), .unset, .unset, .unset, .unset, .unset, .unset, .unset] [(.ref b2)])) (fun t k => st2 t k) ?_
  refine own_st (B := T2.setTop (mkF m 11 #[.val (.int arg0), .val (.int arg1), .val (.int arg2), .val (.int arg3), .val (.int arg4), .val (.int arg5), .val (.int v1), .unset, .unset, .unset, .unset, .unset, .unset, .unset] [(.ref b2), (.ref b2)])) (fun t k => XS.dup X2.here hx rfl (hb hby at_10) rfl rfl k) ?_
  refine own_st (B := T2.setTop (mkF m 12 #[.val (.int arg0), .val (.int arg1), .val (.int arg2), .val (.int arg3), .val (.int arg4), .val (.int arg5), .val (.int v1), .unset, .unset, .unset, .unset, .unset, .unset, .unset] [(.int (0 : Int32)), (.ref b2), (.ref b2)])) (fun t k => XS.iconst X2.here hx rfl (hb hby at_11) k) ?_
  refine own_st (B := T2.setTop (mkF m 13 #[.val (.int arg0), .val (.int arg1), .val (.int arg2), .val (.int arg3), .val (.int arg4), .val (.int arg5), .val (.int v1), .unset, .unset, .unset, .unset, .unset, .unset, .unset] [(.int arg2), (.int (0 : Int32)), (.ref b2), (.ref b2)])) (fun t k => XS.iloadN X2.here hx rfl (hb hby at_12) rfl k) ?_
  obtain ⟨T4, h4, X4, e4, W4, A4, st4⟩ := own_stI X2 hx hZ e2 f2_ (j := (0 : Int32)) (x := arg2) (i := 0) (by decide) (show 0 < 4 from by decide) (g := (mkF m 13 #[.val (.int arg0), .val (.int arg1), .val (.int arg2), .val (.int arg3), .val (.int arg4), .val (.int arg5), .val (.int v1), .unset, .unset, .unset, .unset, .unset, .unset, .unset] [(.int arg2), (.int (0 : Int32)), (.ref b2), (.ref b2)])) rfl rfl (hb hby at_13)
  have f4_ : own_A Z h4 b2 .int [(.int arg2), (.int (0 : Int32)), (.int (0 : Int32)), (.int (0 : Int32))] := A4
  have z5 : n0 ≤ h4.size := Nat.le_trans z3 (Keep.of_wr W4).1
  have n6 := Fr.snoc X4 N0 u2
  refine own_st (B := T4.setTop (mkF m 14 #[.val (.int arg0), .val (.int arg1), .val (.int arg2), .val (.int arg3), .val (.int arg4), .val (.int arg5), .val (.int v1), .unset, .unset, .unset, .unset, .unset, .unset, .unset] [(.ref b2)])) (fun t k => st4 t k) ?_
  refine own_st (B := T4.setTop (mkF m 15 #[.val (.int arg0), .val (.int arg1), .val (.int arg2), .val (.int arg3), .val (.int arg4), .val (.int arg5), .val (.int v1), .unset, .unset, .unset, .unset, .unset, .unset, .unset] [(.ref b2), (.ref b2)])) (fun t k => XS.dup X4.here hx rfl (hb hby at_14) rfl rfl k) ?_
  refine own_st (B := T4.setTop (mkF m 16 #[.val (.int arg0), .val (.int arg1), .val (.int arg2), .val (.int arg3), .val (.int arg4), .val (.int arg5), .val (.int v1), .unset, .unset, .unset, .unset, .unset, .unset, .unset] [(.int (1 : Int32)), (.ref b2), (.ref b2)])) (fun t k => XS.iconst X4.here hx rfl (hb hby at_15) k) ?_
  refine own_st (B := T4.setTop (mkF m 17 #[.val (.int arg0), .val (.int arg1), .val (.int arg2), .val (.int arg3), .val (.int arg4), .val (.int arg5), .val (.int v1), .unset, .unset, .unset, .unset, .unset, .unset, .unset] [(.int arg3), (.int (1 : Int32)), (.ref b2), (.ref b2)])) (fun t k => XS.iloadN X4.here hx rfl (hb hby at_16) rfl k) ?_
  obtain ⟨T7, h7, X7, e7, W7, A7, st7⟩ := own_stI X4 hx hZ e4 f4_ (j := (1 : Int32)) (x := arg3) (i := 1) (by decide) (show 1 < 4 from by decide) (g := (mkF m 17 #[.val (.int arg0), .val (.int arg1), .val (.int arg2), .val (.int arg3), .val (.int arg4), .val (.int arg5), .val (.int v1), .unset, .unset, .unset, .unset, .unset, .unset, .unset] [(.int arg3), (.int (1 : Int32)), (.ref b2), (.ref b2)])) rfl rfl (hb hby at_17)
  have f7_ : own_A Z h7 b2 .int [(.int arg2), (.int arg3), (.int (0 : Int32)), (.int (0 : Int32))] := A7
  have z8 : n0 ≤ h7.size := Nat.le_trans z5 (Keep.of_wr W7).1
  have n9 := Fr.snoc X7 n6 u2
  refine own_st (B := T7.setTop (mkF m 18 #[.val (.int arg0), .val (.int arg1), .val (.int arg2), .val (.int arg3), .val (.int arg4), .val (.int arg5), .val (.int v1), .unset, .unset, .unset, .unset, .unset, .unset, .unset] [(.ref b2)])) (fun t k => st7 t k) ?_
  refine own_st (B := T7.setTop (mkF m 19 #[.val (.int arg0), .val (.int arg1), .val (.int arg2), .val (.int arg3), .val (.int arg4), .val (.int arg5), .val (.int v1), .unset, .unset, .unset, .unset, .unset, .unset, .unset] [(.ref b2), (.ref b2)])) (fun t k => XS.dup X7.here hx rfl (hb hby at_18) rfl rfl k) ?_
  refine own_st (B := T7.setTop (mkF m 20 #[.val (.int arg0), .val (.int arg1), .val (.int arg2), .val (.int arg3), .val (.int arg4), .val (.int arg5), .val (.int v1), .unset, .unset, .unset, .unset, .unset, .unset, .unset] [(.int (2 : Int32)), (.ref b2), (.ref b2)])) (fun t k => XS.iconst X7.here hx rfl (hb hby at_19) k) ?_
  refine own_st (B := T7.setTop (mkF m 22 #[.val (.int arg0), .val (.int arg1), .val (.int arg2), .val (.int arg3), .val (.int arg4), .val (.int arg5), .val (.int v1), .unset, .unset, .unset, .unset, .unset, .unset, .unset] [(.int arg4), (.int (2 : Int32)), (.ref b2), (.ref b2)])) (fun t k => XS.iload X7.here hx rfl (hb hby at_20) rfl k) ?_
  obtain ⟨T10, h10, X10, e10, W10, A10, st10⟩ := own_stI X7 hx hZ e7 f7_ (j := (2 : Int32)) (x := arg4) (i := 2) (by decide) (show 2 < 4 from by decide) (g := (mkF m 22 #[.val (.int arg0), .val (.int arg1), .val (.int arg2), .val (.int arg3), .val (.int arg4), .val (.int arg5), .val (.int v1), .unset, .unset, .unset, .unset, .unset, .unset, .unset] [(.int arg4), (.int (2 : Int32)), (.ref b2), (.ref b2)])) rfl rfl (hb hby at_22)
  have f10_ : own_A Z h10 b2 .int [(.int arg2), (.int arg3), (.int arg4), (.int (0 : Int32))] := A10
  have z11 : n0 ≤ h10.size := Nat.le_trans z8 (Keep.of_wr W10).1
  have n12 := Fr.snoc X10 n9 u2
  refine own_st (B := T10.setTop (mkF m 23 #[.val (.int arg0), .val (.int arg1), .val (.int arg2), .val (.int arg3), .val (.int arg4), .val (.int arg5), .val (.int v1), .unset, .unset, .unset, .unset, .unset, .unset, .unset] [(.ref b2)])) (fun t k => st10 t k) ?_
  refine own_st (B := T10.setTop (mkF m 24 #[.val (.int arg0), .val (.int arg1), .val (.int arg2), .val (.int arg3), .val (.int arg4), .val (.int arg5), .val (.int v1), .unset, .unset, .unset, .unset, .unset, .unset, .unset] [(.ref b2), (.ref b2)])) (fun t k => XS.dup X10.here hx rfl (hb hby at_23) rfl rfl k) ?_
  refine own_st (B := T10.setTop (mkF m 25 #[.val (.int arg0), .val (.int arg1), .val (.int arg2), .val (.int arg3), .val (.int arg4), .val (.int arg5), .val (.int v1), .unset, .unset, .unset, .unset, .unset, .unset, .unset] [(.int (3 : Int32)), (.ref b2), (.ref b2)])) (fun t k => XS.iconst X10.here hx rfl (hb hby at_24) k) ?_
  refine own_st (B := T10.setTop (mkF m 27 #[.val (.int arg0), .val (.int arg1), .val (.int arg2), .val (.int arg3), .val (.int arg4), .val (.int arg5), .val (.int v1), .unset, .unset, .unset, .unset, .unset, .unset, .unset] [(.int arg5), (.int (3 : Int32)), (.ref b2), (.ref b2)])) (fun t k => XS.iload X10.here hx rfl (hb hby at_25) rfl k) ?_
  obtain ⟨T13, h13, X13, e13, W13, A13, st13⟩ := own_stI X10 hx hZ e10 f10_ (j := (3 : Int32)) (x := arg5) (i := 3) (by decide) (show 3 < 4 from by decide) (g := (mkF m 27 #[.val (.int arg0), .val (.int arg1), .val (.int arg2), .val (.int arg3), .val (.int arg4), .val (.int arg5), .val (.int v1), .unset, .unset, .unset, .unset, .unset, .unset, .unset] [(.int arg5), (.int (3 : Int32)), (.ref b2), (.ref b2)])) rfl rfl (hb hby at_27)
  have f13_ : own_A Z h13 b2 .int [(.int arg2), (.int arg3), (.int arg4), (.int arg5)] := A13
  have z14 : n0 ≤ h13.size := Nat.le_trans z11 (Keep.of_wr W13).1
  have n15 := Fr.snoc X13 n12 u2
  refine own_st (B := T13.setTop (mkF m 28 #[.val (.int arg0), .val (.int arg1), .val (.int arg2), .val (.int arg3), .val (.int arg4), .val (.int arg5), .val (.int v1), .unset, .unset, .unset, .unset, .unset, .unset, .unset] [(.ref b2)])) (fun t k => st13 t k) ?_
  refine own_st (B := T13.setTop (mkF m 30 #[.val (.int arg0), .val (.int arg1), .val (.int arg2), .val (.int arg3), .val (.int arg4), .val (.int arg5), .val (.int v1), .val (.ref b2), .unset, .unset, .unset, .unset, .unset, .unset] [])) (fun t k => XS.astore X13.here hx rfl (hb hby at_28) rfl rfl (l' := #[.val (.int arg0), .val (.int arg1), .val (.int arg2), .val (.int arg3), .val (.int arg4), .val (.int arg5), .val (.int v1), .val (.ref b2), .unset, .unset, .unset, .unset, .unset, .unset]) rfl k) ?_
  refine own_st (B := T13.setTop (mkF m 31 #[.val (.int arg0), .val (.int arg1), .val (.int arg2), .val (.int arg3), .val (.int arg4), .val (.int arg5), .val (.int v1), .val (.ref b2), .unset, .unset, .unset, .unset, .unset, .unset] [(.int (5 : Int32))])) (fun t k => XS.iconst X13.here hx rfl (hb hby at_30) k) ?_
  obtain ⟨T16, h16, X16, e16, E16, A16, x16, st16⟩ := own_newP X13 hx hZ (aty := .int) (w_0 hw) e13 (g := (mkF m 31 #[.val (.int arg0), .val (.int arg1), .val (.int arg2), .val (.int arg3), .val (.int arg4), .val (.int arg5), .val (.int v1), .val (.ref b2), .unset, .unset, .unset, .unset, .unset, .unset] [(.int (5 : Int32))])) rfl (hb hby at_31) (n := (5 : Int32)) (rest := []) rfl (k := 5) (cap := 5) (by decide) (Nat.le_refl _) (by decide) (by decide) (by decide) (ad := "[I") rfl
  obtain ⟨b16, g16⟩ : ∃ z, z = h13.size := ⟨_, rfl⟩
  rw [← g16] at A16 x16 st16
  have q16_b2 : b2 ≠ b16 := Nat.ne_of_lt (Nat.lt_of_lt_of_le f13_.lt (Nat.le_of_eq g16.symm))
  have u16 : n0 ≤ b16 := Nat.le_trans z14 (Nat.le_of_eq g16.symm)
  have z17 : n0 ≤ h16.size := Nat.le_trans z14 E16.1
  have f16_ : own_A Z h16 b16 .int [(.int (0 : Int32)), (.int (0 : Int32)), (.int (0 : Int32)), (.int (0 : Int32)), (.int (0 : Int32))] := A16
  refine own_st (B := T16.setTop (mkF m 33 #[.val (.int arg0), .val (.int arg1), .val (.int arg2), .val (.int arg3), .val (.int arg4), .val (.int arg5), .val (.int v1), .val (.ref b2), .unset, .unset, .unset, .unset, .unset, .unset] [(.ref b16)])) (fun t k => st16 t k) ?_
  refine own_st (B := T16.setTop (mkF m 35 #[.val (.int arg0), .val (.int arg1), .val (.int arg2), .val (.int arg3), .val (.int arg4), .val (.int arg5), .val (.int v1), .val (.ref b2), .val (.ref b16), .unset, .unset, .unset, .unset, .unset] [])) (fun t k => XS.astore X16.here hx rfl (hb hby at_33) rfl rfl (l' := #[.val (.int arg0), .val (.int arg1), .val (.int arg2), .val (.int arg3), .val (.int arg4), .val (.int arg5), .val (.int v1), .val (.ref b2), .val (.ref b16), .unset, .unset, .unset, .unset, .unset]) rfl k) ?_
  refine own_st (B := T16.setTop (mkF m 36 #[.val (.int arg0), .val (.int arg1), .val (.int arg2), .val (.int arg3), .val (.int arg4), .val (.int arg5), .val (.int v1), .val (.ref b2), .val (.ref b16), .unset, .unset, .unset, .unset, .unset] [(.int (1 : Int32))])) (fun t k => XS.iconst X16.here hx rfl (hb hby at_35) k) ?_
  obtain ⟨T18, h18, X18, e18, E18, A18, x18, st18⟩ := own_newP X16 hx hZ (aty := .int) (w_0 hw) e16 (g := (mkF m 36 #[.val (.int arg0), .val (.int arg1), .val (.int arg2), .val (.int arg3), .val (.int arg4), .val (.int arg5), .val (.int v1), .val (.ref b2), .val (.ref b16), .unset, .unset, .unset, .unset, .unset] [(.int (1 : Int32))])) rfl (hb hby at_36) (n := (1 : Int32)) (rest := []) rfl (k := 1) (cap := 1) (by decide) (Nat.le_refl _) (by decide) (by decide) (by decide) (ad := "[I") rfl
  obtain ⟨b18, g18⟩ : ∃ z, z = h16.size := ⟨_, rfl⟩
  rw [← g18] at A18 x18 st18
  have f19 : own_A Z h16 b2 .int [(.int arg2), (.int arg3), (.int arg4), (.int arg5)] := (f13_.ext E16)
  have q18_b2 : b2 ≠ b18 := Nat.ne_of_lt (Nat.lt_of_lt_of_le f19.lt (Nat.le_of_eq g18.symm))
  have q18_b16 : b16 ≠ b18 := Nat.ne_of_lt (Nat.lt_of_lt_of_le f16_.lt (Nat.le_of_eq g18.symm))
  have u18 : n0 ≤ b18 := Nat.le_trans z17 (Nat.le_of_eq g18.symm)
  have z20 : n0 ≤ h18.size := Nat.le_trans z17 E18.1
  have f18_ : own_A Z h18 b18 .int [(.int (0 : Int32))] := A18
  refine own_st (B := T18.setTop (mkF m 38 #[.val (.int arg0), .val (.int arg1), .val (.int arg2), .val (.int arg3), .val (.int arg4), .val (.int arg5), .val (.int v1), .val (.ref b2), .val (.ref b16), .unset, .unset, .unset, .unset, .unset] [(.ref b18)])) (fun t k => st18 t k) ?_
  refine own_st (B := T18.setTop (mkF m 40 #[.val (.int arg0), .val (.int arg1), .val (.int arg2), .val (.int arg3), .val (.int arg4), .val (.int arg5), .val (.int v1), .val (.ref b2), .val (.ref b16), .val (.ref b18), .unset, .unset, .unset, .unset] [])) (fun t k => XS.astore X18.here hx rfl (hb hby at_38) rfl rfl (l' := #[.val (.int arg0), .val (.int arg1), .val (.int arg2), .val (.int arg3), .val (.int arg4), .val (.int arg5), .val (.int v1), .val (.ref b2), .val (.ref b16), .val (.ref b18), .unset, .unset, .unset, .unset]) rfl k) ?_
  refine own_cut (P := ∀ (T21 : State) (lo21 : List Loc) (h21 : Heap) (pa : Addr) (ac : Addr) (asl : Addr) (ai : Addr) (B : Int32) (N : Nat) (cap : Nat) (CO : List Int32) (SC : List Int32) (SI : List Int32), Stand p l e room_1 s m #[(.int arg0), (.int arg1), (.int arg2), (.int arg3), (.int arg4), (.int arg5)] below meth c T21 lo21 7 35 → T21.heap = h21 → Fr n0 lo21 → n0 ≤ h21.size → Exa Z h21 pa "com/example/relayframe/relayframe/Palette" → Fld Z h21 pa "com/example/relayframe/relayframe/Palette" "colours" "[I" (.ref ac) → Fld Z h21 pa "com/example/relayframe/relayframe/Palette" "slotBits" "I" (.int B) → Fld Z h21 pa "com/example/relayframe/relayframe/Palette" "slotColours" "[I" (.ref asl) → Fld Z h21 pa "com/example/relayframe/relayframe/Palette" "slotIndices" "[S" (.ref ai) → Fld Z h21 pa "com/example/relayframe/relayframe/Palette" "size" "I" (.int (0 : Int32)) → own_A Z h21 ac .int (CO.map Value.int) → own_A Z h21 asl .int (SC.map Value.int) → own_A Z h21 ai .short (SI.map Value.int) → Exa Z h21 ac "[I" → Exa Z h21 asl "[I" → Exa Z h21 ai "[S" → own_A Z h21 b2 .int [(.int arg2), (.int arg3), (.int arg4), (.int arg5)] → own_A Z h21 b16 .int [(.int (0 : Int32)), (.int (0 : Int32)), (.int (0 : Int32)), (.int (0 : Int32)), (.int (0 : Int32))] → own_A Z h21 b18 .int [(.int (0 : Int32))] → Exa Z h21 b2 "[I" → Exa Z h21 b16 "[I" → Exa Z h21 b18 "[I" → (own_NB N B) → (cap < N ∧ cap ≤ 4) → (v1.toInt = (cap : Int)) → (own_I0 N cap 0 (own_H B) CO SC SI) → (ac ≠ asl) → (ac ≠ b16) → (ac ≠ b18) → (asl ≠ b16) → (asl ≠ b18) → (ac ≠ b2) → (asl ≠ b2) → (n0 ≤ pa) → (n0 ≤ ac) → (n0 ≤ asl) → (n0 ≤ ai) → own_Go p e below s (Q0 Z arg0 arg1 arg2 arg3 arg4 arg5 h0 n0) 24 192 (T21.setTop (mkF m 51 #[.val (.int arg0), .val (.int arg1), .val (.int arg2), .val (.int arg3), .val (.int arg4), .val (.int arg5), .val (.int v1), .val (.ref b2), .val (.ref b16), .val (.ref b18), .val (.ref pa), .unset, .unset, .unset] []))) (fun J21 => ?_) ?_
  · obtain ⟨T22, h22, X22, e22, E22, A22, D22, -, st22⟩ := newO X18 hx hZ hown (w_1 hw) (w_2 hw) (w_3 hw) e18 (g := (mkF m 40 #[.val (.int arg0), .val (.int arg1), .val (.int arg2), .val (.int arg3), .val (.int arg4), .val (.int arg5), .val (.int v1), .val (.ref b2), .val (.ref b16), .val (.ref b18), .unset, .unset, .unset, .unset] [])) rfl (hb hby at_40) (by decide) (by decide)
    obtain ⟨b22, g22⟩ : ∃ z, z = h18.size := ⟨_, rfl⟩
    rw [← g22] at A22 D22 st22
    have f23 : own_A Z h18 b2 .int [(.int arg2), (.int arg3), (.int arg4), (.int arg5)] := (f19.ext E18)
    have q22_b2 : b2 ≠ b22 := Nat.ne_of_lt (Nat.lt_of_lt_of_le f23.lt (Nat.le_of_eq g22.symm))
    have f24 : own_A Z h18 b16 .int [(.int (0 : Int32)), (.int (0 : Int32)), (.int (0 : Int32)), (.int (0 : Int32)), (.int (0 : Int32))] := (f16_.ext E18)
    have q22_b16 : b16 ≠ b22 := Nat.ne_of_lt (Nat.lt_of_lt_of_le f24.lt (Nat.le_of_eq g22.symm))
    have q22_b18 : b18 ≠ b22 := Nat.ne_of_lt (Nat.lt_of_lt_of_le f18_.lt (Nat.le_of_eq g22.symm))
    have u22 : n0 ≤ b22 := Nat.le_trans z20 (Nat.le_of_eq g22.symm)
    have z25 : n0 ≤ h22.size := Nat.le_trans z20 E22.1
    have f26 : Fld Z h22 b22 "com/example/relayframe/relayframe/Palette" "colours" "[I" .null := D22 (Or.inr (w_11 hw)) (ty := (.array .int)) (by decide)
    have f27 : Fld Z h22 b22 "com/example/relayframe/relayframe/Palette" "slotBits" "I" (.int (0 : Int32)) := D22 (Or.inr (w_18 hw)) (ty := .int) (by decide)
    have f28 : Fld Z h22 b22 "com/example/relayframe/relayframe/Palette" "slotColours" "[I" .null := D22 (Or.inr (w_20 hw)) (ty := (.array .int)) (by decide)
    have f29 : Fld Z h22 b22 "com/example/relayframe/relayframe/Palette" "slotIndices" "[S" .null := D22 (Or.inr (w_23 hw)) (ty := (.array .short)) (by decide)
    have f30 : Fld Z h22 b22 "com/example/relayframe/relayframe/Palette" "size" "I" (.int (0 : Int32)) := D22 (Or.inl (w_34 hw)) (ty := .int) (by decide)
    refine own_st (B := T22.setTop (mkF m 43 #[.val (.int arg0), .val (.int arg1), .val (.int arg2), .val (.int arg3), .val (.int arg4), .val (.int arg5), .val (.int v1), .val (.ref b2), .val (.ref b16), .val (.ref b18), .unset, .unset, .unset, .unset] [(.ref b22)])) (fun t k => st22 t k) ?_
    rcases own_cap4 ev1 with hq | hq | hq | hq
    · subst hq
      refine own_st (B := T22.setTop (mkF m 44 #[.val (.int arg0), .val (.int arg1), .val (.int arg2), .val (.int arg3), .val (.int arg4), .val (.int arg5), .val (.int (1 : Int32)), .val (.ref b2), .val (.ref b16), .val (.ref b18), .unset, .unset, .unset, .unset] [(.ref b22), (.ref b22)])) (fun t k => XS.dup X22.here hx rfl (hb hby at_43) rfl rfl k) ?_
      refine own_st (B := T22.setTop (mkF m 46 #[.val (.int arg0), .val (.int arg1), .val (.int arg2), .val (.int arg3), .val (.int arg4), .val (.int arg5), .val (.int (1 : Int32)), .val (.ref b2), .val (.ref b16), .val (.ref b18), .unset, .unset, .unset, .unset] [(.int (1 : Int32)), (.ref b22), (.ref b22)])) (fun t k => XS.iload X22.here hx rfl (hb hby at_44) rfl k) ?_
      obtain ⟨_, _, ⟨T31, L31, k31, j31⟩, -, X31, ⟨Lc31, hQ31, l31, y31_, z31_⟩, st31⟩ := X22.specialBack hx (y := (⟨"com/example/relayframe/relayframe/Palette", "<init>", "(I)V"⟩ : MethodName)) rfl hown (mvT hZ (w_4 hw)) (mvT hZ (w_5 hw)) (mvT hZ (w_6 hw)) (by decide) (backOf (W := 1) (rm1c1 l Z a0 hw [] b22 h22 n0 z25 A22 f26 f27 f28 f29 f30 u22) hZ (w_6 hw) (w_3 hw) (by decide) (by decide)) (g := (mkF m 46 #[.val (.int arg0), .val (.int arg1), .val (.int arg2), .val (.int arg3), .val (.int arg4), .val (.int arg5), .val (.int (1 : Int32)), .val (.ref b2), .val (.ref b16), .val (.ref b18), .unset, .unset, .unset, .unset] [(.int (1 : Int32)), (.ref b22), (.ref b22)])) rfl (by rw [hml]; rfl) (Steps.refl _) (a := b22) (argsL := [(.int (1 : Int32))]) (rest := [(.ref b22)]) (lenOf own_pd8 rfl) rfl (by show 2 * 0 + _ ≤ _; exact Nat.le_of_eq rfl) (hb hby at_46) (fun _ _ => ⟨rfl, e22, (by decide : 4 + 3 ≤ _), (by decide : 15 + 5 ≤ _)⟩)
      dsimp only [Pt.U, Pt.locs, Pt.cells, Pt.slots] at X31 l31 y31_ z31_ st31 hQ31
      subst l31 y31_ z31_
      obtain ⟨ac_31, asl_31, ai_31, rfl, N31q, K31, u31_ac, y31_ac, u31_asl, y31_asl, u31_ai, y31_ai, p31_0, p31_1, p31_2, p31_3, p31_4, p31_5, p31_6, p31_7, p31_8, p31_9, p31_10, p31_11, r31_0⟩ := hQ31
      have N31 := Fr.app n15 N31q
      have f32 : own_A Z h22 b2 .int [(.int arg2), (.int arg3), (.int arg4), (.int arg5)] := (f23.ext E22)
      have q31_ac_b2 : b2 ≠ ac_31 := Nat.ne_of_lt (Nat.lt_of_lt_of_le f32.lt y31_ac)
      have f33 : own_A Z h22 b16 .int [(.int (0 : Int32)), (.int (0 : Int32)), (.int (0 : Int32)), (.int (0 : Int32)), (.int (0 : Int32))] := (f24.ext E22)
      have q31_ac_b16 : b16 ≠ ac_31 := Nat.ne_of_lt (Nat.lt_of_lt_of_le f33.lt y31_ac)
      have f34 : own_A Z h22 b18 .int [(.int (0 : Int32))] := (f18_.ext E22)
      have q31_ac_b18 : b18 ≠ ac_31 := Nat.ne_of_lt (Nat.lt_of_lt_of_le f34.lt y31_ac)
      have q31_ac_b22 : b22 ≠ ac_31 := Nat.ne_of_lt (Nat.lt_of_lt_of_le A22.lt y31_ac)
      have q31_asl_b2 : b2 ≠ asl_31 := Nat.ne_of_lt (Nat.lt_of_lt_of_le f32.lt y31_asl)
      have q31_asl_b16 : b16 ≠ asl_31 := Nat.ne_of_lt (Nat.lt_of_lt_of_le f33.lt y31_asl)
      have q31_asl_b18 : b18 ≠ asl_31 := Nat.ne_of_lt (Nat.lt_of_lt_of_le f34.lt y31_asl)
      have q31_asl_b22 : b22 ≠ asl_31 := Nat.ne_of_lt (Nat.lt_of_lt_of_le A22.lt y31_asl)
      have q31_ai_b2 : b2 ≠ ai_31 := Nat.ne_of_lt (Nat.lt_of_lt_of_le f32.lt y31_ai)
      have q31_ai_b16 : b16 ≠ ai_31 := Nat.ne_of_lt (Nat.lt_of_lt_of_le f33.lt y31_ai)
      have q31_ai_b18 : b18 ≠ ai_31 := Nat.ne_of_lt (Nat.lt_of_lt_of_le f34.lt y31_ai)
      have q31_ai_b22 : b22 ≠ ai_31 := Nat.ne_of_lt (Nat.lt_of_lt_of_le A22.lt y31_ai)
      have z35 : n0 ≤ T31.heap.size := Nat.le_trans z25 K31.1
      refine own_ss (B := T31.setTop (mkF m 49 #[.val (.int arg0), .val (.int arg1), .val (.int arg2), .val (.int arg3), .val (.int arg4), .val (.int arg5), .val (.int (1 : Int32)), .val (.ref b2), .val (.ref b16), .val (.ref b18), .unset, .unset, .unset, .unset] [(.ref b22)])) st31 ?_
      refine own_st (B := T31.setTop (mkF m 51 #[.val (.int arg0), .val (.int arg1), .val (.int arg2), .val (.int arg3), .val (.int arg4), .val (.int arg5), .val (.int (1 : Int32)), .val (.ref b2), .val (.ref b16), .val (.ref b18), .val (.ref b22), .unset, .unset, .unset] [])) (fun t k => XS.astore X31.here hx rfl (hb hby at_49) rfl rfl (l' := #[.val (.int arg0), .val (.int arg1), .val (.int arg2), .val (.int arg3), .val (.int arg4), .val (.int arg5), .val (.int (1 : Int32)), .val (.ref b2), .val (.ref b16), .val (.ref b18), .val (.ref b22), .unset, .unset, .unset]) rfl k) ?_
      have x21_ := X31.more (cells' := 7) (slots' := 35) (by decide) (by decide)
      have f36 : own_A Z T31.heap b2 .int [(.int arg2), (.int arg3), (.int arg4), (.int arg5)] := (f32.keep K31 (ninS q22_b2 nin0))
      have f37 : own_A Z T31.heap b16 .int [(.int (0 : Int32)), (.int (0 : Int32)), (.int (0 : Int32)), (.int (0 : Int32)), (.int (0 : Int32))] := (f33.keep K31 (ninS q22_b16 nin0))
      have f38 : own_A Z T31.heap b18 .int [(.int (0 : Int32))] := (f34.keep K31 (ninS q22_b18 nin0))
      have f39 : Exa Z T31.heap b2 "[I" := ((((((((x2.wr W4).wr W7).wr W10).wr W13).ext E16).ext E18).ext E22).keep K31)
      have f40 : Exa Z T31.heap b16 "[I" := (((x16.ext E18).ext E22).keep K31)
      have f41 : Exa Z T31.heap b18 "[I" := ((x18.ext E22).keep K31)
      exact J21 T31 _ _ b22 ac_31 asl_31 ai_31 (((32 : Int32) - (31 : Int32))) 2 1 [(0 : Int32)] [(0 : Int32), (0 : Int32)] [((-1 : Int32).toInt16.toInt32), ((-1 : Int32).toInt16.toInt32)] x21_ rfl N31 z35 p31_0 p31_1 p31_2 p31_3 p31_4 p31_5 p31_6 p31_7 p31_8 p31_9 p31_10 p31_11 f36 f37 f38 f39 f40 f41 (show own_NB 2 ((32 : Int32) - (31 : Int32)) by exact Or.inl ⟨rfl, by decide⟩) (show 1 < 2 ∧ 1 ≤ 4 by decide) (show (1 : Int32).toInt = (1 : Int) by rfl) (show own_I0 2 1 0 (own_H ((32 : Int32) - (31 : Int32))) [(0 : Int32)] [(0 : Int32), (0 : Int32)] [((-1 : Int32).toInt16.toInt32), ((-1 : Int32).toInt16.toInt32)] by exact own_I00 (by decide) (by decide) (by decide)) (show ac_31 ≠ asl_31 by exact r31_0) (show ac_31 ≠ b16 by exact (Ne.symm q31_ac_b16)) (show ac_31 ≠ b18 by exact (Ne.symm q31_ac_b18)) (show asl_31 ≠ b16 by exact (Ne.symm q31_asl_b16)) (show asl_31 ≠ b18 by exact (Ne.symm q31_asl_b18)) (show ac_31 ≠ b2 by exact (Ne.symm q31_ac_b2)) (show asl_31 ≠ b2 by exact (Ne.symm q31_asl_b2)) (show n0 ≤ b22 by exact u22) (show n0 ≤ ac_31 by exact u31_ac) (show n0 ≤ asl_31 by exact u31_asl) (show n0 ≤ ai_31 by exact u31_ai)
    · subst hq
      refine own_st (B := T22.setTop (mkF m 44 #[.val (.int arg0), .val (.int arg1), .val (.int arg2), .val (.int arg3), .val (.int arg4), .val (.int arg5), .val (.int (2 : Int32)), .val (.ref b2), .val (.ref b16), .val (.ref b18), .unset, .unset, .unset, .unset] [(.ref b22), (.ref b22)])) (fun t k => XS.dup X22.here hx rfl (hb hby at_43) rfl rfl k) ?_
      refine own_st (B := T22.setTop (mkF m 46 #[.val (.int arg0), .val (.int arg1), .val (.int arg2), .val (.int arg3), .val (.int arg4), .val (.int arg5), .val (.int (2 : Int32)), .val (.ref b2), .val (.ref b16), .val (.ref b18), .unset, .unset, .unset, .unset] [(.int (2 : Int32)), (.ref b22), (.ref b22)])) (fun t k => XS.iload X22.here hx rfl (hb hby at_44) rfl k) ?_
      obtain ⟨_, _, ⟨T42, L42, k42, j42⟩, -, X42, ⟨Lc42, hQ42, l42, y42_, z42_⟩, st42⟩ := X22.specialBack hx (y := (⟨"com/example/relayframe/relayframe/Palette", "<init>", "(I)V"⟩ : MethodName)) rfl hown (mvT hZ (w_4 hw)) (mvT hZ (w_5 hw)) (mvT hZ (w_6 hw)) (by decide) (backOf (W := 1) (rm1c2 l Z a0 hw [] b22 h22 n0 z25 A22 f26 f27 f28 f29 f30 u22) hZ (w_6 hw) (w_3 hw) (by decide) (by decide)) (g := (mkF m 46 #[.val (.int arg0), .val (.int arg1), .val (.int arg2), .val (.int arg3), .val (.int arg4), .val (.int arg5), .val (.int (2 : Int32)), .val (.ref b2), .val (.ref b16), .val (.ref b18), .unset, .unset, .unset, .unset] [(.int (2 : Int32)), (.ref b22), (.ref b22)])) rfl (by rw [hml]; rfl) (Steps.refl _) (a := b22) (argsL := [(.int (2 : Int32))]) (rest := [(.ref b22)]) (lenOf own_pd8 rfl) rfl (by show 2 * 0 + _ ≤ _; exact Nat.le_of_eq rfl) (hb hby at_46) (fun _ _ => ⟨rfl, e22, (by decide : 4 + 3 ≤ _), (by decide : 15 + 10 ≤ _)⟩)
      dsimp only [Pt.U, Pt.locs, Pt.cells, Pt.slots] at X42 l42 y42_ z42_ st42 hQ42
      subst l42 y42_ z42_
      obtain ⟨ac_42, asl_42, ai_42, rfl, N42q, K42, u42_ac, y42_ac, u42_asl, y42_asl, u42_ai, y42_ai, p42_0, p42_1, p42_2, p42_3, p42_4, p42_5, p42_6, p42_7, p42_8, p42_9, p42_10, p42_11, r42_0⟩ := hQ42
      have N42 := Fr.app n15 N42q
      have f43 : own_A Z h22 b2 .int [(.int arg2), (.int arg3), (.int arg4), (.int arg5)] := (f23.ext E22)
      have q42_ac_b2 : b2 ≠ ac_42 := Nat.ne_of_lt (Nat.lt_of_lt_of_le f43.lt y42_ac)
      have f44 : own_A Z h22 b16 .int [(.int (0 : Int32)), (.int (0 : Int32)), (.int (0 : Int32)), (.int (0 : Int32)), (.int (0 : Int32))] := (f24.ext E22)
      have q42_ac_b16 : b16 ≠ ac_42 := Nat.ne_of_lt (Nat.lt_of_lt_of_le f44.lt y42_ac)
      have f45 : own_A Z h22 b18 .int [(.int (0 : Int32))] := (f18_.ext E22)
      have q42_ac_b18 : b18 ≠ ac_42 := Nat.ne_of_lt (Nat.lt_of_lt_of_le f45.lt y42_ac)
      have q42_ac_b22 : b22 ≠ ac_42 := Nat.ne_of_lt (Nat.lt_of_lt_of_le A22.lt y42_ac)
      have q42_asl_b2 : b2 ≠ asl_42 := Nat.ne_of_lt (Nat.lt_of_lt_of_le f43.lt y42_asl)
      have q42_asl_b16 : b16 ≠ asl_42 := Nat.ne_of_lt (Nat.lt_of_lt_of_le f44.lt y42_asl)
      have q42_asl_b18 : b18 ≠ asl_42 := Nat.ne_of_lt (Nat.lt_of_lt_of_le f45.lt y42_asl)
      have q42_asl_b22 : b22 ≠ asl_42 := Nat.ne_of_lt (Nat.lt_of_lt_of_le A22.lt y42_asl)
      have q42_ai_b2 : b2 ≠ ai_42 := Nat.ne_of_lt (Nat.lt_of_lt_of_le f43.lt y42_ai)
      have q42_ai_b16 : b16 ≠ ai_42 := Nat.ne_of_lt (Nat.lt_of_lt_of_le f44.lt y42_ai)
      have q42_ai_b18 : b18 ≠ ai_42 := Nat.ne_of_lt (Nat.lt_of_lt_of_le f45.lt y42_ai)
      have q42_ai_b22 : b22 ≠ ai_42 := Nat.ne_of_lt (Nat.lt_of_lt_of_le A22.lt y42_ai)
      have z46 : n0 ≤ T42.heap.size := Nat.le_trans z25 K42.1
      refine own_ss (B := T42.setTop (mkF m 49 #[.val (.int arg0), .val (.int arg1), .val (.int arg2), .val (.int arg3), .val (.int arg4), .val (.int arg5), .val (.int (2 : Int32)), .val (.ref b2), .val (.ref b16), .val (.ref b18), .unset, .unset, .unset, .unset] [(.ref b22)])) st42 ?_
      refine own_st (B := T42.setTop (mkF m 51 #[.val (.int arg0), .val (.int arg1), .val (.int arg2), .val (.int arg3), .val (.int arg4), .val (.int arg5), .val (.int (2 : Int32)), .val (.ref b2), .val (.ref b16), .val (.ref b18), .val (.ref b22), .unset, .unset, .unset] [])) (fun t k => XS.astore X42.here hx rfl (hb hby at_49) rfl rfl (l' := #[.val (.int arg0), .val (.int arg1), .val (.int arg2), .val (.int arg3), .val (.int arg4), .val (.int arg5), .val (.int (2 : Int32)), .val (.ref b2), .val (.ref b16), .val (.ref b18), .val (.ref b22), .unset, .unset, .unset]) rfl k) ?_
      have x21_ := X42.more (cells' := 7) (slots' := 35) (by decide) (by decide)
      have f47 : own_A Z T42.heap b2 .int [(.int arg2), (.int arg3), (.int arg4), (.int arg5)] := (f43.keep K42 (ninS q22_b2 nin0))
      have f48 : own_A Z T42.heap b16 .int [(.int (0 : Int32)), (.int (0 : Int32)), (.int (0 : Int32)), (.int (0 : Int32)), (.int (0 : Int32))] := (f44.keep K42 (ninS q22_b16 nin0))
      have f49 : own_A Z T42.heap b18 .int [(.int (0 : Int32))] := (f45.keep K42 (ninS q22_b18 nin0))
      have f50 : Exa Z T42.heap b2 "[I" := ((((((((x2.wr W4).wr W7).wr W10).wr W13).ext E16).ext E18).ext E22).keep K42)
      have f51 : Exa Z T42.heap b16 "[I" := (((x16.ext E18).ext E22).keep K42)
      have f52 : Exa Z T42.heap b18 "[I" := ((x18.ext E22).keep K42)
      exact J21 T42 _ _ b22 ac_42 asl_42 ai_42 (((32 : Int32) - (30 : Int32))) 4 2 [(0 : Int32), (0 : Int32)] [(0 : Int32), (0 : Int32), (0 : Int32), (0 : Int32)] [((-1 : Int32).toInt16.toInt32), ((-1 : Int32).toInt16.toInt32), ((-1 : Int32).toInt16.toInt32), ((-1 : Int32).toInt16.toInt32)] x21_ rfl N42 z46 p42_0 p42_1 p42_2 p42_3 p42_4 p42_5 p42_6 p42_7 p42_8 p42_9 p42_10 p42_11 f47 f48 f49 f50 f51 f52 (show own_NB 4 ((32 : Int32) - (30 : Int32)) by exact Or.inr (Or.inl ⟨rfl, by decide⟩)) (show 2 < 4 ∧ 2 ≤ 4 by decide) (show (2 : Int32).toInt = (2 : Int) by rfl) (show own_I0 4 2 0 (own_H ((32 : Int32) - (30 : Int32))) [(0 : Int32), (0 : Int32)] [(0 : Int32), (0 : Int32), (0 : Int32), (0 : Int32)] [((-1 : Int32).toInt16.toInt32), ((-1 : Int32).toInt16.toInt32), ((-1 : Int32).toInt16.toInt32), ((-1 : Int32).toInt16.toInt32)] by exact own_I00 (by decide) (by decide) (by decide)) (show ac_42 ≠ asl_42 by exact r42_0) (show ac_42 ≠ b16 by exact (Ne.symm q42_ac_b16)) (show ac_42 ≠ b18 by exact (Ne.symm q42_ac_b18)) (show asl_42 ≠ b16 by exact (Ne.symm q42_asl_b16)) (show asl_42 ≠ b18 by exact (Ne.symm q42_asl_b18)) (show ac_42 ≠ b2 by exact (Ne.symm q42_ac_b2)) (show asl_42 ≠ b2 by exact (Ne.symm q42_asl_b2)) (show n0 ≤ b22 by exact u22) (show n0 ≤ ac_42 by exact u42_ac) (show n0 ≤ asl_42 by exact u42_asl) (show n0 ≤ ai_42 by exact u42_ai)
    · subst hq
      refine own_st (B := T22.setTop (mkF m 44 #[.val (.int arg0), .val (.int arg1), .val (.int arg2), .val (.int arg3), .val (.int arg4), .val (.int arg5), .val (.int (3 : Int32)), .val (.ref b2), .val (.ref b16), .val (.ref b18), .unset, .unset, .unset, .unset] [(.ref b22), (.ref b22)])) (fun t k => XS.dup X22.here hx rfl (hb hby at_43) rfl rfl k) ?_
      refine own_st (B := T22.setTop (mkF m 46 #[.val (.int arg0), .val (.int arg1), .val (.int arg2), .val (.int arg3), .val (.int arg4), .val (.int arg5), .val (.int (3 : Int32)), .val (.ref b2), .val (.ref b16), .val (.ref b18), .unset, .unset, .unset, .unset] [(.int (3 : Int32)), (.ref b22), (.ref b22)])) (fun t k => XS.iload X22.here hx rfl (hb hby at_44) rfl k) ?_
      obtain ⟨_, _, ⟨T53, L53, k53, j53⟩, -, X53, ⟨Lc53, hQ53, l53, y53_, z53_⟩, st53⟩ := X22.specialBack hx (y := (⟨"com/example/relayframe/relayframe/Palette", "<init>", "(I)V"⟩ : MethodName)) rfl hown (mvT hZ (w_4 hw)) (mvT hZ (w_5 hw)) (mvT hZ (w_6 hw)) (by decide) (backOf (W := 1) (rm1c3 l Z a0 hw [] b22 h22 n0 z25 A22 f26 f27 f28 f29 f30 u22) hZ (w_6 hw) (w_3 hw) (by decide) (by decide)) (g := (mkF m 46 #[.val (.int arg0), .val (.int arg1), .val (.int arg2), .val (.int arg3), .val (.int arg4), .val (.int arg5), .val (.int (3 : Int32)), .val (.ref b2), .val (.ref b16), .val (.ref b18), .unset, .unset, .unset, .unset] [(.int (3 : Int32)), (.ref b22), (.ref b22)])) rfl (by rw [hml]; rfl) (Steps.refl _) (a := b22) (argsL := [(.int (3 : Int32))]) (rest := [(.ref b22)]) (lenOf own_pd8 rfl) rfl (by show 2 * 0 + _ ≤ _; exact Nat.le_of_eq rfl) (hb hby at_46) (fun _ _ => ⟨rfl, e22, (by decide : 4 + 3 ≤ _), (by decide : 15 + 19 ≤ _)⟩)
      dsimp only [Pt.U, Pt.locs, Pt.cells, Pt.slots] at X53 l53 y53_ z53_ st53 hQ53
      subst l53 y53_ z53_
      obtain ⟨ac_53, asl_53, ai_53, rfl, N53q, K53, u53_ac, y53_ac, u53_asl, y53_asl, u53_ai, y53_ai, p53_0, p53_1, p53_2, p53_3, p53_4, p53_5, p53_6, p53_7, p53_8, p53_9, p53_10, p53_11, r53_0⟩ := hQ53
      have N53 := Fr.app n15 N53q
      have f54 : own_A Z h22 b2 .int [(.int arg2), (.int arg3), (.int arg4), (.int arg5)] := (f23.ext E22)
      have q53_ac_b2 : b2 ≠ ac_53 := Nat.ne_of_lt (Nat.lt_of_lt_of_le f54.lt y53_ac)
      have f55 : own_A Z h22 b16 .int [(.int (0 : Int32)), (.int (0 : Int32)), (.int (0 : Int32)), (.int (0 : Int32)), (.int (0 : Int32))] := (f24.ext E22)
      have q53_ac_b16 : b16 ≠ ac_53 := Nat.ne_of_lt (Nat.lt_of_lt_of_le f55.lt y53_ac)
      have f56 : own_A Z h22 b18 .int [(.int (0 : Int32))] := (f18_.ext E22)
      have q53_ac_b18 : b18 ≠ ac_53 := Nat.ne_of_lt (Nat.lt_of_lt_of_le f56.lt y53_ac)
      have q53_ac_b22 : b22 ≠ ac_53 := Nat.ne_of_lt (Nat.lt_of_lt_of_le A22.lt y53_ac)
      have q53_asl_b2 : b2 ≠ asl_53 := Nat.ne_of_lt (Nat.lt_of_lt_of_le f54.lt y53_asl)
      have q53_asl_b16 : b16 ≠ asl_53 := Nat.ne_of_lt (Nat.lt_of_lt_of_le f55.lt y53_asl)
      have q53_asl_b18 : b18 ≠ asl_53 := Nat.ne_of_lt (Nat.lt_of_lt_of_le f56.lt y53_asl)
      have q53_asl_b22 : b22 ≠ asl_53 := Nat.ne_of_lt (Nat.lt_of_lt_of_le A22.lt y53_asl)
      have q53_ai_b2 : b2 ≠ ai_53 := Nat.ne_of_lt (Nat.lt_of_lt_of_le f54.lt y53_ai)
      have q53_ai_b16 : b16 ≠ ai_53 := Nat.ne_of_lt (Nat.lt_of_lt_of_le f55.lt y53_ai)
      have q53_ai_b18 : b18 ≠ ai_53 := Nat.ne_of_lt (Nat.lt_of_lt_of_le f56.lt y53_ai)
      have q53_ai_b22 : b22 ≠ ai_53 := Nat.ne_of_lt (Nat.lt_of_lt_of_le A22.lt y53_ai)
      have z57 : n0 ≤ T53.heap.size := Nat.le_trans z25 K53.1
      refine own_ss (B := T53.setTop (mkF m 49 #[.val (.int arg0), .val (.int arg1), .val (.int arg2), .val (.int arg3), .val (.int arg4), .val (.int arg5), .val (.int (3 : Int32)), .val (.ref b2), .val (.ref b16), .val (.ref b18), .unset, .unset, .unset, .unset] [(.ref b22)])) st53 ?_
      refine own_st (B := T53.setTop (mkF m 51 #[.val (.int arg0), .val (.int arg1), .val (.int arg2), .val (.int arg3), .val (.int arg4), .val (.int arg5), .val (.int (3 : Int32)), .val (.ref b2), .val (.ref b16), .val (.ref b18), .val (.ref b22), .unset, .unset, .unset] [])) (fun t k => XS.astore X53.here hx rfl (hb hby at_49) rfl rfl (l' := #[.val (.int arg0), .val (.int arg1), .val (.int arg2), .val (.int arg3), .val (.int arg4), .val (.int arg5), .val (.int (3 : Int32)), .val (.ref b2), .val (.ref b16), .val (.ref b18), .val (.ref b22), .unset, .unset, .unset]) rfl k) ?_
      have x21_ := X53.more (cells' := 7) (slots' := 35) (by decide) (by decide)
      have f58 : own_A Z T53.heap b2 .int [(.int arg2), (.int arg3), (.int arg4), (.int arg5)] := (f54.keep K53 (ninS q22_b2 nin0))
      have f59 : own_A Z T53.heap b16 .int [(.int (0 : Int32)), (.int (0 : Int32)), (.int (0 : Int32)), (.int (0 : Int32)), (.int (0 : Int32))] := (f55.keep K53 (ninS q22_b16 nin0))
      have f60 : own_A Z T53.heap b18 .int [(.int (0 : Int32))] := (f56.keep K53 (ninS q22_b18 nin0))
      have f61 : Exa Z T53.heap b2 "[I" := ((((((((x2.wr W4).wr W7).wr W10).wr W13).ext E16).ext E18).ext E22).keep K53)
      have f62 : Exa Z T53.heap b16 "[I" := (((x16.ext E18).ext E22).keep K53)
      have f63 : Exa Z T53.heap b18 "[I" := ((x18.ext E22).keep K53)
      exact J21 T53 _ _ b22 ac_53 asl_53 ai_53 (((32 : Int32) - (29 : Int32))) 8 3 [(0 : Int32), (0 : Int32), (0 : Int32)] [(0 : Int32), (0 : Int32), (0 : Int32), (0 : Int32), (0 : Int32), (0 : Int32), (0 : Int32), (0 : Int32)] [((-1 : Int32).toInt16.toInt32), ((-1 : Int32).toInt16.toInt32), ((-1 : Int32).toInt16.toInt32), ((-1 : Int32).toInt16.toInt32), ((-1 : Int32).toInt16.toInt32), ((-1 : Int32).toInt16.toInt32), ((-1 : Int32).toInt16.toInt32), ((-1 : Int32).toInt16.toInt32)] x21_ rfl N53 z57 p53_0 p53_1 p53_2 p53_3 p53_4 p53_5 p53_6 p53_7 p53_8 p53_9 p53_10 p53_11 f58 f59 f60 f61 f62 f63 (show own_NB 8 ((32 : Int32) - (29 : Int32)) by exact Or.inr (Or.inr ⟨rfl, by decide⟩)) (show 3 < 8 ∧ 3 ≤ 4 by decide) (show (3 : Int32).toInt = (3 : Int) by rfl) (show own_I0 8 3 0 (own_H ((32 : Int32) - (29 : Int32))) [(0 : Int32), (0 : Int32), (0 : Int32)] [(0 : Int32), (0 : Int32), (0 : Int32), (0 : Int32), (0 : Int32), (0 : Int32), (0 : Int32), (0 : Int32)] [((-1 : Int32).toInt16.toInt32), ((-1 : Int32).toInt16.toInt32), ((-1 : Int32).toInt16.toInt32), ((-1 : Int32).toInt16.toInt32), ((-1 : Int32).toInt16.toInt32), ((-1 : Int32).toInt16.toInt32), ((-1 : Int32).toInt16.toInt32), ((-1 : Int32).toInt16.toInt32)] by exact own_I00 (by decide) (by decide) (by decide)) (show ac_53 ≠ asl_53 by exact r53_0) (show ac_53 ≠ b16 by exact (Ne.symm q53_ac_b16)) (show ac_53 ≠ b18 by exact (Ne.symm q53_ac_b18)) (show asl_53 ≠ b16 by exact (Ne.symm q53_asl_b16)) (show asl_53 ≠ b18 by exact (Ne.symm q53_asl_b18)) (show ac_53 ≠ b2 by exact (Ne.symm q53_ac_b2)) (show asl_53 ≠ b2 by exact (Ne.symm q53_asl_b2)) (show n0 ≤ b22 by exact u22) (show n0 ≤ ac_53 by exact u53_ac) (show n0 ≤ asl_53 by exact u53_asl) (show n0 ≤ ai_53 by exact u53_ai)
    · subst hq
      refine own_st (B := T22.setTop (mkF m 44 #[.val (.int arg0), .val (.int arg1), .val (.int arg2), .val (.int arg3), .val (.int arg4), .val (.int arg5), .val (.int (4 : Int32)), .val (.ref b2), .val (.ref b16), .val (.ref b18), .unset, .unset, .unset, .unset] [(.ref b22), (.ref b22)])) (fun t k => XS.dup X22.here hx rfl (hb hby at_43) rfl rfl k) ?_
      refine own_st (B := T22.setTop (mkF m 46 #[.val (.int arg0), .val (.int arg1), .val (.int arg2), .val (.int arg3), .val (.int arg4), .val (.int arg5), .val (.int (4 : Int32)), .val (.ref b2), .val (.ref b16), .val (.ref b18), .unset, .unset, .unset, .unset] [(.int (4 : Int32)), (.ref b22), (.ref b22)])) (fun t k => XS.iload X22.here hx rfl (hb hby at_44) rfl k) ?_
      obtain ⟨_, _, ⟨T64, L64, k64, j64⟩, -, X64, ⟨Lc64, hQ64, l64, y64_, z64_⟩, st64⟩ := X22.specialBack hx (y := (⟨"com/example/relayframe/relayframe/Palette", "<init>", "(I)V"⟩ : MethodName)) rfl hown (mvT hZ (w_4 hw)) (mvT hZ (w_5 hw)) (mvT hZ (w_6 hw)) (by decide) (backOf (W := 1) (rm1c4 l Z a0 hw [] b22 h22 n0 z25 A22 f26 f27 f28 f29 f30 u22) hZ (w_6 hw) (w_3 hw) (by decide) (by decide)) (g := (mkF m 46 #[.val (.int arg0), .val (.int arg1), .val (.int arg2), .val (.int arg3), .val (.int arg4), .val (.int arg5), .val (.int (4 : Int32)), .val (.ref b2), .val (.ref b16), .val (.ref b18), .unset, .unset, .unset, .unset] [(.int (4 : Int32)), (.ref b22), (.ref b22)])) rfl (by rw [hml]; rfl) (Steps.refl _) (a := b22) (argsL := [(.int (4 : Int32))]) (rest := [(.ref b22)]) (lenOf own_pd8 rfl) rfl (by show 2 * 0 + _ ≤ _; exact Nat.le_of_eq rfl) (hb hby at_46) (fun _ _ => ⟨rfl, e22, (by decide : 4 + 3 ≤ _), (by decide : 15 + 20 ≤ _)⟩)
      dsimp only [Pt.U, Pt.locs, Pt.cells, Pt.slots] at X64 l64 y64_ z64_ st64 hQ64
      subst l64 y64_ z64_
      obtain ⟨ac_64, asl_64, ai_64, rfl, N64q, K64, u64_ac, y64_ac, u64_asl, y64_asl, u64_ai, y64_ai, p64_0, p64_1, p64_2, p64_3, p64_4, p64_5, p64_6, p64_7, p64_8, p64_9, p64_10, p64_11, r64_0⟩ := hQ64
      have N64 := Fr.app n15 N64q
      have f65 : own_A Z h22 b2 .int [(.int arg2), (.int arg3), (.int arg4), (.int arg5)] := (f23.ext E22)
      have q64_ac_b2 : b2 ≠ ac_64 := Nat.ne_of_lt (Nat.lt_of_lt_of_le f65.lt y64_ac)
      have f66 : own_A Z h22 b16 .int [(.int (0 : Int32)), (.int (0 : Int32)), (.int (0 : Int32)), (.int (0 : Int32)), (.int (0 : Int32))] := (f24.ext E22)
      have q64_ac_b16 : b16 ≠ ac_64 := Nat.ne_of_lt (Nat.lt_of_lt_of_le f66.lt y64_ac)
      have f67 : own_A Z h22 b18 .int [(.int (0 : Int32))] := (f18_.ext E22)
      have q64_ac_b18 : b18 ≠ ac_64 := Nat.ne_of_lt (Nat.lt_of_lt_of_le f67.lt y64_ac)
      have q64_ac_b22 : b22 ≠ ac_64 := Nat.ne_of_lt (Nat.lt_of_lt_of_le A22.lt y64_ac)
      have q64_asl_b2 : b2 ≠ asl_64 := Nat.ne_of_lt (Nat.lt_of_lt_of_le f65.lt y64_asl)
      have q64_asl_b16 : b16 ≠ asl_64 := Nat.ne_of_lt (Nat.lt_of_lt_of_le f66.lt y64_asl)
      have q64_asl_b18 : b18 ≠ asl_64 := Nat.ne_of_lt (Nat.lt_of_lt_of_le f67.lt y64_asl)
      have q64_asl_b22 : b22 ≠ asl_64 := Nat.ne_of_lt (Nat.lt_of_lt_of_le A22.lt y64_asl)
      have q64_ai_b2 : b2 ≠ ai_64 := Nat.ne_of_lt (Nat.lt_of_lt_of_le f65.lt y64_ai)
      have q64_ai_b16 : b16 ≠ ai_64 := Nat.ne_of_lt (Nat.lt_of_lt_of_le f66.lt y64_ai)
      have q64_ai_b18 : b18 ≠ ai_64 := Nat.ne_of_lt (Nat.lt_of_lt_of_le f67.lt y64_ai)
      have q64_ai_b22 : b22 ≠ ai_64 := Nat.ne_of_lt (Nat.lt_of_lt_of_le A22.lt y64_ai)
      have z68 : n0 ≤ T64.heap.size := Nat.le_trans z25 K64.1
      refine own_ss (B := T64.setTop (mkF m 49 #[.val (.int arg0), .val (.int arg1), .val (.int arg2), .val (.int arg3), .val (.int arg4), .val (.int arg5), .val (.int (4 : Int32)), .val (.ref b2), .val (.ref b16), .val (.ref b18), .unset, .unset, .unset, .unset] [(.ref b22)])) st64 ?_
      refine own_st (B := T64.setTop (mkF m 51 #[.val (.int arg0), .val (.int arg1), .val (.int arg2), .val (.int arg3), .val (.int arg4), .val (.int arg5), .val (.int (4 : Int32)), .val (.ref b2), .val (.ref b16), .val (.ref b18), .val (.ref b22), .unset, .unset, .unset] [])) (fun t k => XS.astore X64.here hx rfl (hb hby at_49) rfl rfl (l' := #[.val (.int arg0), .val (.int arg1), .val (.int arg2), .val (.int arg3), .val (.int arg4), .val (.int arg5), .val (.int (4 : Int32)), .val (.ref b2), .val (.ref b16), .val (.ref b18), .val (.ref b22), .unset, .unset, .unset]) rfl k) ?_
      have x21_ := X64.more (cells' := 7) (slots' := 35) (by decide) (by decide)
      have f69 : own_A Z T64.heap b2 .int [(.int arg2), (.int arg3), (.int arg4), (.int arg5)] := (f65.keep K64 (ninS q22_b2 nin0))
      have f70 : own_A Z T64.heap b16 .int [(.int (0 : Int32)), (.int (0 : Int32)), (.int (0 : Int32)), (.int (0 : Int32)), (.int (0 : Int32))] := (f66.keep K64 (ninS q22_b16 nin0))
      have f71 : own_A Z T64.heap b18 .int [(.int (0 : Int32))] := (f67.keep K64 (ninS q22_b18 nin0))
      have f72 : Exa Z T64.heap b2 "[I" := ((((((((x2.wr W4).wr W7).wr W10).wr W13).ext E16).ext E18).ext E22).keep K64)
      have f73 : Exa Z T64.heap b16 "[I" := (((x16.ext E18).ext E22).keep K64)
      have f74 : Exa Z T64.heap b18 "[I" := ((x18.ext E22).keep K64)
      exact J21 T64 _ _ b22 ac_64 asl_64 ai_64 (((32 : Int32) - (29 : Int32))) 8 4 [(0 : Int32), (0 : Int32), (0 : Int32), (0 : Int32)] [(0 : Int32), (0 : Int32), (0 : Int32), (0 : Int32), (0 : Int32), (0 : Int32), (0 : Int32), (0 : Int32)] [((-1 : Int32).toInt16.toInt32), ((-1 : Int32).toInt16.toInt32), ((-1 : Int32).toInt16.toInt32), ((-1 : Int32).toInt16.toInt32), ((-1 : Int32).toInt16.toInt32), ((-1 : Int32).toInt16.toInt32), ((-1 : Int32).toInt16.toInt32), ((-1 : Int32).toInt16.toInt32)] x21_ rfl N64 z68 p64_0 p64_1 p64_2 p64_3 p64_4 p64_5 p64_6 p64_7 p64_8 p64_9 p64_10 p64_11 f69 f70 f71 f72 f73 f74 (show own_NB 8 ((32 : Int32) - (29 : Int32)) by exact Or.inr (Or.inr ⟨rfl, by decide⟩)) (show 4 < 8 ∧ 4 ≤ 4 by decide) (show (4 : Int32).toInt = (4 : Int) by rfl) (show own_I0 8 4 0 (own_H ((32 : Int32) - (29 : Int32))) [(0 : Int32), (0 : Int32), (0 : Int32), (0 : Int32)] [(0 : Int32), (0 : Int32), (0 : Int32), (0 : Int32), (0 : Int32), (0 : Int32), (0 : Int32), (0 : Int32)] [((-1 : Int32).toInt16.toInt32), ((-1 : Int32).toInt16.toInt32), ((-1 : Int32).toInt16.toInt32), ((-1 : Int32).toInt16.toInt32), ((-1 : Int32).toInt16.toInt32), ((-1 : Int32).toInt16.toInt32), ((-1 : Int32).toInt16.toInt32), ((-1 : Int32).toInt16.toInt32)] by exact own_I00 (by decide) (by decide) (by decide)) (show ac_64 ≠ asl_64 by exact r64_0) (show ac_64 ≠ b16 by exact (Ne.symm q64_ac_b16)) (show ac_64 ≠ b18 by exact (Ne.symm q64_ac_b18)) (show asl_64 ≠ b16 by exact (Ne.symm q64_asl_b16)) (show asl_64 ≠ b18 by exact (Ne.symm q64_asl_b18)) (show ac_64 ≠ b2 by exact (Ne.symm q64_ac_b2)) (show asl_64 ≠ b2 by exact (Ne.symm q64_asl_b2)) (show n0 ≤ b22 by exact u22) (show n0 ≤ ac_64 by exact u64_ac) (show n0 ≤ asl_64 by exact u64_asl) (show n0 ≤ ai_64 by exact u64_ai)
  intro T21 lo21 h21 pa ac asl ai B N cap CO SC SI X21 e21 N21 z21 lf21_0 lf21_1 lf21_2 lf21_3 lf21_4 lf21_5 lf21_6 lf21_7 lf21_8 lf21_9 lf21_10 lf21_11 lf21_12 lf21_13 lf21_14 lf21_15 lf21_16 lf21_17 hNB hcap hp6 hI qa qb0 qb1 qb2 qb3 qb4 qb5 qgpa qgac qgasl qgai
  have f75 : own_A Z h21 b16 .int ([(0 : Int32), (0 : Int32), (0 : Int32), (0 : Int32), (0 : Int32)].map Value.int) := lf21_13
  refine own_st (B := T21.setTop (mkF m 52 #[.val (.int arg0), .val (.int arg1), .val (.int arg2), .val (.int arg3), .val (.int arg4), .val (.int arg5), .val (.int v1), .val (.ref b2), .val (.ref b16), .val (.ref b18), .val (.ref pa), .unset, .unset, .unset] [(.int (1 : Int32))])) (fun t k => XS.iconst X21.here hx rfl (hb hby at_51) k) ?_
  refine own_st (B := T21.setTop (mkF m 54 #[.val (.int arg0), .val (.int arg1), .val (.int arg2), .val (.int arg3), .val (.int arg4), .val (.int arg5), .val (.int v1), .val (.ref b2), .val (.ref b16), .val (.ref b18), .val (.ref pa), .val (.int (1 : Int32)), .unset, .unset] [])) (fun t k => XS.istore X21.here hx rfl (hb hby at_52) rfl (l' := #[.val (.int arg0), .val (.int arg1), .val (.int arg2), .val (.int arg3), .val (.int arg4), .val (.int arg5), .val (.int v1), .val (.ref b2), .val (.ref b16), .val (.ref b18), .val (.ref pa), .val (.int (1 : Int32)), .unset, .unset]) rfl k) ?_
  refine own_st (B := T21.setTop (mkF m 56 #[.val (.int arg0), .val (.int arg1), .val (.int arg2), .val (.int arg3), .val (.int arg4), .val (.int arg5), .val (.int v1), .val (.ref b2), .val (.ref b16), .val (.ref b18), .val (.ref pa), .val (.int (1 : Int32)), .unset, .unset] [(.int (1 : Int32))])) (fun t k => XS.iload X21.here hx rfl (hb hby at_54) rfl k) ?_
  refine own_st (B := T21.setTop (mkF m 58 #[.val (.int arg0), .val (.int arg1), .val (.int arg2), .val (.int arg3), .val (.int arg4), .val (.int arg5), .val (.int v1), .val (.ref b2), .val (.ref b16), .val (.ref b18), .val (.ref pa), .val (.int (1 : Int32)), .unset, .unset] [(.ref pa), (.int (1 : Int32))])) (fun t k => XS.aload X21.here hx rfl (hb hby at_56) rfl rfl k) ?_
  refine own_st (B := T21.setTop (mkF m 60 #[.val (.int arg0), .val (.int arg1), .val (.int arg2), .val (.int arg3), .val (.int arg4), .val (.int arg5), .val (.int v1), .val (.ref b2), .val (.ref b16), .val (.ref b18), .val (.ref pa), .val (.int (1 : Int32)), .unset, .unset] [(.ref b2), (.ref pa), (.int (1 : Int32))])) (fun t k => XS.aload X21.here hx rfl (hb hby at_58) rfl rfl k) ?_
  refine own_st (B := T21.setTop (mkF m 61 #[.val (.int arg0), .val (.int arg1), .val (.int arg2), .val (.int arg3), .val (.int arg4), .val (.int arg5), .val (.int v1), .val (.ref b2), .val (.ref b16), .val (.ref b18), .val (.ref pa), .val (.int (1 : Int32)), .unset, .unset] [(.int arg1), (.ref b2), (.ref pa), (.int (1 : Int32))])) (fun t k => XS.iloadN X21.here hx rfl (hb hby at_60) rfl k) ?_
  refine own_st (B := T21.setTop (mkF m 62 #[.val (.int arg0), .val (.int arg1), .val (.int arg2), .val (.int arg3), .val (.int arg4), .val (.int arg5), .val (.int v1), .val (.ref b2), .val (.ref b16), .val (.ref b18), .val (.ref pa), .val (.int (1 : Int32)), .unset, .unset] [(.int (3 : Int32)), (.int arg1), (.ref b2), (.ref pa), (.int (1 : Int32))])) (fun t k => XS.iconst X21.here hx rfl (hb hby at_61) k) ?_
  refine own_st (B := T21.setTop (mkF m 63 #[.val (.int arg0), .val (.int arg1), .val (.int arg2), .val (.int arg3), .val (.int arg4), .val (.int arg5), .val (.int v1), .val (.ref b2), .val (.ref b16), .val (.ref b18), .val (.ref pa), .val (.int (1 : Int32)), .unset, .unset] [(.int (arg1 &&& (3 : Int32))), (.ref b2), (.ref pa), (.int (1 : Int32))])) (fun t k => XS.iand X21.here hx rfl (hb hby at_62) rfl k) ?_
  have ha76 := own_a3 arg1
  refine own_st (B := T21.setTop (mkF m 64 #[.val (.int arg0), .val (.int arg1), .val (.int arg2), .val (.int arg3), .val (.int arg4), .val (.int arg5), .val (.int v1), .val (.ref b2), .val (.ref b16), .val (.ref b18), .val (.ref pa), .val (.int (1 : Int32)), .unset, .unset] [(.int (([arg2, arg3, arg4, arg5] : List Int32).getD (arg1 &&& (3 : Int32)).toInt.toNat 0)), (.ref pa), (.int (1 : Int32))])) (fun t k => own_ldI X21 hx hZ e21 lf21_12 (g := (mkF m 63 #[.val (.int arg0), .val (.int arg1), .val (.int arg2), .val (.int arg3), .val (.int arg4), .val (.int arg5), .val (.int v1), .val (.ref b2), .val (.ref b16), .val (.ref b18), .val (.ref pa), .val (.int (1 : Int32)), .unset, .unset] [(.int (arg1 &&& (3 : Int32))), (.ref b2), (.ref pa), (.int (1 : Int32))])) (i := ((arg1 &&& (3 : Int32)).toInt.toNat)) (own_nat ha76.1) (own_getI (bs := [arg2, arg3, arg4, arg5]) (show (arg1 &&& (3 : Int32)).toInt.toNat < 4 by omega)) rfl rfl (hb hby at_63) k) ?_
  refine own_st (B := T21.setTop (mkF m 66 #[.val (.int arg0), .val (.int arg1), .val (.int arg2), .val (.int arg3), .val (.int arg4), .val (.int arg5), .val (.int v1), .val (.ref b2), .val (.ref b16), .val (.ref b18), .val (.ref pa), .val (.int (1 : Int32)), .unset, .unset] [(.ref b16), (.int (([arg2, arg3, arg4, arg5] : List Int32).getD (arg1 &&& (3 : Int32)).toInt.toNat 0)), (.ref pa), (.int (1 : Int32))])) (fun t k => XS.aload X21.here hx rfl (hb hby at_64) rfl rfl k) ?_
  refine own_st (B := T21.setTop (mkF m 68 #[.val (.int arg0), .val (.int arg1), .val (.int arg2), .val (.int arg3), .val (.int arg4), .val (.int arg5), .val (.int v1), .val (.ref b2), .val (.ref b16), .val (.ref b18), .val (.ref pa), .val (.int (1 : Int32)), .unset, .unset] [(.ref b18), (.ref b16), (.int (([arg2, arg3, arg4, arg5] : List Int32).getD (arg1 &&& (3 : Int32)).toInt.toNat 0)), (.ref pa), (.int (1 : Int32))])) (fun t k => XS.aload X21.here hx rfl (hb hby at_66) rfl rfl k) ?_
  refine own_st (B := T21.setTop (mkF m 70 #[.val (.int arg0), .val (.int arg1), .val (.int arg2), .val (.int arg3), .val (.int arg4), .val (.int arg5), .val (.int v1), .val (.ref b2), .val (.ref b16), .val (.ref b18), .val (.ref pa), .val (.int (1 : Int32)), .unset, .unset] [(.int v1), (.ref b18), (.ref b16), (.int (([arg2, arg3, arg4, arg5] : List Int32).getD (arg1 &&& (3 : Int32)).toInt.toNat 0)), (.ref pa), (.int (1 : Int32))])) (fun t k => XS.iload X21.here hx rfl (hb hby at_68) rfl k) ?_
  obtain ⟨_, _, ⟨T77, L77, k77, j77⟩, -, X77, ⟨Lc77, hQ77, l77, y77_, z77_⟩, st77⟩ := Jvm.LawKit.callS X21 hx (y := (⟨"com/example/relayframe/relayframe/PaletteIndexOfPinLaw", "step", "(Lcom/example/relayframe/relayframe/Palette;I[I[II)Z"⟩ : MethodName)) hown (mvT hZ (w_35 hw)) (mvT hZ (w_36 hw)) (mvT hZ (w_37 hw)) (mvT hZ (w_38 hw)) (by decide) (backOf (W := 1) (rm6 l Z a0 hw [] pa (([arg2, arg3, arg4, arg5] : List Int32).getD (arg1 &&& (3 : Int32)).toInt.toNat 0) b16 b18 v1 ac asl ai B (0 : Int32) N cap 0 CO SC SI [(0 : Int32), (0 : Int32), (0 : Int32), (0 : Int32), (0 : Int32)] (0 : Int32) h21 n0 z21 lf21_0 lf21_1 lf21_2 lf21_3 lf21_4 lf21_5 lf21_6 lf21_7 lf21_8 lf21_9 lf21_10 lf21_11 f75 lf21_14 lf21_16 lf21_17 qa qgpa qgac qgasl qgai hNB hI rfl hcap qb0 qb1 qb2 qb3 q18_b16 u16 u18 rfl rfl hp6 (fun i hi => absurd hi (Nat.not_lt_zero i))) hZ (w_38 hw) (w_37 hw) (by decide) (by decide)) (g := (mkF m 70 #[.val (.int arg0), .val (.int arg1), .val (.int arg2), .val (.int arg3), .val (.int arg4), .val (.int arg5), .val (.int v1), .val (.ref b2), .val (.ref b16), .val (.ref b18), .val (.ref pa), .val (.int (1 : Int32)), .unset, .unset] [(.int v1), (.ref b18), (.ref b16), (.int (([arg2, arg3, arg4, arg5] : List Int32).getD (arg1 &&& (3 : Int32)).toInt.toNat 0)), (.ref pa), (.int (1 : Int32))])) rfl (by rw [hml]; rfl) (argsL := [(.ref pa), (.int (([arg2, arg3, arg4, arg5] : List Int32).getD (arg1 &&& (3 : Int32)).toInt.toNat 0)), (.ref b16), (.ref b18), (.int v1)]) (rest := [(.int (1 : Int32))]) (lenOf own_pd9 rfl) rfl (by show 2 * 0 + _ ≤ _; exact Nat.le_of_eq rfl) (hb hby at_70) (fun _ _ => ⟨rfl, e21, (by decide : 7 + 0 ≤ _), (by decide : 35 + 0 ≤ _)⟩)
  dsimp only [Pt.U, Pt.locs, Pt.cells, Pt.slots] at X77 l77 y77_ z77_ st77 hQ77
  subst l77 y77_ z77_
  obtain ⟨n2_77, sz2_77, CO2_77, SC2_77, SI2_77, SE2_77, cn2_77, rfl, N77q, K77, p77_0, p77_1, p77_2, p77_3, p77_4, p77_5, p77_6, p77_7, p77_8, p77_9, r77_0, r77_1, r77_2, r77_3, r77_4⟩ := hQ77
  have N77 := Fr.app N21 N77q
  have z78 : n0 ≤ T77.heap.size := Nat.le_trans z21 K77.1
  refine own_st (B := T77.setTop (mkF m 73 #[.val (.int arg0), .val (.int arg1), .val (.int arg2), .val (.int arg3), .val (.int arg4), .val (.int arg5), .val (.int v1), .val (.ref b2), .val (.ref b16), .val (.ref b18), .val (.ref pa), .val (.int (1 : Int32)), .unset, .unset] [(.int (1 : Int32)), (.int (1 : Int32))])) (fun t k => st77 t k) ?_
  refine own_st (B := T77.setTop (mkF m 74 #[.val (.int arg0), .val (.int arg1), .val (.int arg2), .val (.int arg3), .val (.int arg4), .val (.int arg5), .val (.int v1), .val (.ref b2), .val (.ref b16), .val (.ref b18), .val (.ref pa), .val (.int (1 : Int32)), .unset, .unset] [(.int ((1 : Int32) &&& (1 : Int32)))])) (fun t k => XS.iand X77.here hx rfl (hb hby at_73) rfl k) ?_
  rw [show ((1 : Int32) &&& (1 : Int32)) = (1 : Int32) from by decide]
  refine own_st (B := T77.setTop (mkF m 76 #[.val (.int arg0), .val (.int arg1), .val (.int arg2), .val (.int arg3), .val (.int arg4), .val (.int arg5), .val (.int v1), .val (.ref b2), .val (.ref b16), .val (.ref b18), .val (.ref pa), .val (.int (1 : Int32)), .unset, .unset] [])) (fun t k => XS.istore X77.here hx rfl (hb hby at_74) rfl (l' := #[.val (.int arg0), .val (.int arg1), .val (.int arg2), .val (.int arg3), .val (.int arg4), .val (.int arg5), .val (.int v1), .val (.ref b2), .val (.ref b16), .val (.ref b18), .val (.ref pa), .val (.int (1 : Int32)), .unset, .unset]) rfl k) ?_
  refine own_st (B := T77.setTop (mkF m 78 #[.val (.int arg0), .val (.int arg1), .val (.int arg2), .val (.int arg3), .val (.int arg4), .val (.int arg5), .val (.int v1), .val (.ref b2), .val (.ref b16), .val (.ref b18), .val (.ref pa), .val (.int (1 : Int32)), .unset, .unset] [(.int (1 : Int32))])) (fun t k => XS.iload X77.here hx rfl (hb hby at_76) rfl k) ?_
  refine own_st (B := T77.setTop (mkF m 80 #[.val (.int arg0), .val (.int arg1), .val (.int arg2), .val (.int arg3), .val (.int arg4), .val (.int arg5), .val (.int v1), .val (.ref b2), .val (.ref b16), .val (.ref b18), .val (.ref pa), .val (.int (1 : Int32)), .unset, .unset] [(.ref pa), (.int (1 : Int32))])) (fun t k => XS.aload X77.here hx rfl (hb hby at_78) rfl rfl k) ?_
  refine own_st (B := T77.setTop (mkF m 82 #[.val (.int arg0), .val (.int arg1), .val (.int arg2), .val (.int arg3), .val (.int arg4), .val (.int arg5), .val (.int v1), .val (.ref b2), .val (.ref b16), .val (.ref b18), .val (.ref pa), .val (.int (1 : Int32)), .unset, .unset] [(.ref b2), (.ref pa), (.int (1 : Int32))])) (fun t k => XS.aload X77.here hx rfl (hb hby at_80) rfl rfl k) ?_
  refine own_st (B := T77.setTop (mkF m 83 #[.val (.int arg0), .val (.int arg1), .val (.int arg2), .val (.int arg3), .val (.int arg4), .val (.int arg5), .val (.int v1), .val (.ref b2), .val (.ref b16), .val (.ref b18), .val (.ref pa), .val (.int (1 : Int32)), .unset, .unset] [(.int arg1), (.ref b2), (.ref pa), (.int (1 : Int32))])) (fun t k => XS.iloadN X77.here hx rfl (hb hby at_82) rfl k) ?_
  refine own_st (B := T77.setTop (mkF m 84 #[.val (.int arg0), .val (.int arg1), .val (.int arg2), .val (.int arg3), .val (.int arg4), .val (.int arg5), .val (.int v1), .val (.ref b2), .val (.ref b16), .val (.ref b18), .val (.ref pa), .val (.int (1 : Int32)), .unset, .unset] [(.int (2 : Int32)), (.int arg1), (.ref b2), (.ref pa), (.int (1 : Int32))])) (fun t k => XS.iconst X77.here hx rfl (hb hby at_83) k) ?_
  refine own_st (B := T77.setTop (mkF m 85 #[.val (.int arg0), .val (.int arg1), .val (.int arg2), .val (.int arg3), .val (.int arg4), .val (.int arg5), .val (.int v1), .val (.ref b2), .val (.ref b16), .val (.ref b18), .val (.ref pa), .val (.int (1 : Int32)), .unset, .unset] [(.int ((arg1.toUInt32 >>> ((2 : Int32) &&& 31).toUInt32).toInt32)), (.ref b2), (.ref pa), (.int (1 : Int32))])) (fun t k => XS.iushr X77.here hx rfl (hb hby at_84) rfl k) ?_
  refine own_st (B := T77.setTop (mkF m 86 #[.val (.int arg0), .val (.int arg1), .val (.int arg2), .val (.int arg3), .val (.int arg4), .val (.int arg5), .val (.int v1), .val (.ref b2), .val (.ref b16), .val (.ref b18), .val (.ref pa), .val (.int (1 : Int32)), .unset, .unset] [(.int (3 : Int32)), (.int ((arg1.toUInt32 >>> ((2 : Int32) &&& 31).toUInt32).toInt32)), (.ref b2), (.ref pa), (.int (1 : Int32))])) (fun t k => XS.iconst X77.here hx rfl (hb hby at_85) k) ?_
  refine own_st (B := T77.setTop (mkF m 87 #[.val (.int arg0), .val (.int arg1), .val (.int arg2), .val (.int arg3), .val (.int arg4), .val (.int arg5), .val (.int v1), .val (.ref b2), .val (.ref b16), .val (.ref b18), .val (.ref pa), .val (.int (1 : Int32)), .unset, .unset] [(.int (((arg1.toUInt32 >>> ((2 : Int32) &&& 31).toUInt32).toInt32) &&& (3 : Int32))), (.ref b2), (.ref pa), (.int (1 : Int32))])) (fun t k => XS.iand X77.here hx rfl (hb hby at_86) rfl k) ?_
  have f79 : Exa Z T77.heap b2 "[I" := (lf21_15.keep K77)
  have f80 : Exa Z T77.heap pa "com/example/relayframe/relayframe/Palette" := (lf21_0.keep K77)
  have f81 : Exa Z T77.heap ai "[S" := (lf21_11.keep K77)
  have f82 : own_A Z T77.heap b2 .int [(.int arg2), (.int arg3), (.int arg4), (.int arg5)] := (lf21_12.keep K77 (ninS (ne_exa f79 f80 (by decide)) (ninS (Ne.symm qb4) (ninS (Ne.symm qb5) (ninS (ne_exa f79 f81 (by decide)) (ninS q16_b2 (ninS q18_b2 nin0)))))))
  have ha83 := own_a3 ((arg1.toUInt32 >>> ((2 : Int32) &&& 31).toUInt32).toInt32)
  refine own_st (B := T77.setTop (mkF m 88 #[.val (.int arg0), .val (.int arg1), .val (.int arg2), .val (.int arg3), .val (.int arg4), .val (.int arg5), .val (.int v1), .val (.ref b2), .val (.ref b16), .val (.ref b18), .val (.ref pa), .val (.int (1 : Int32)), .unset, .unset] [(.int (([arg2, arg3, arg4, arg5] : List Int32).getD (((arg1.toUInt32 >>> ((2 : Int32) &&& 31).toUInt32).toInt32) &&& (3 : Int32)).toInt.toNat 0)), (.ref pa), (.int (1 : Int32))])) (fun t k => own_ldI X77 hx hZ rfl f82 (g := (mkF m 87 #[.val (.int arg0), .val (.int arg1), .val (.int arg2), .val (.int arg3), .val (.int arg4), .val (.int arg5), .val (.int v1), .val (.ref b2), .val (.ref b16), .val (.ref b18), .val (.ref pa), .val (.int (1 : Int32)), .unset, .unset] [(.int (((arg1.toUInt32 >>> ((2 : Int32) &&& 31).toUInt32).toInt32) &&& (3 : Int32))), (.ref b2), (.ref pa), (.int (1 : Int32))])) (i := ((((arg1.toUInt32 >>> ((2 : Int32) &&& 31).toUInt32).toInt32) &&& (3 : Int32)).toInt.toNat)) (own_nat ha83.1) (own_getI (bs := [arg2, arg3, arg4, arg5]) (show (((arg1.toUInt32 >>> ((2 : Int32) &&& 31).toUInt32).toInt32) &&& (3 : Int32)).toInt.toNat < 4 by omega)) rfl rfl (hb hby at_87) k) ?_
  refine own_st (B := T77.setTop (mkF m 90 #[.val (.int arg0), .val (.int arg1), .val (.int arg2), .val (.int arg3), .val (.int arg4), .val (.int arg5), .val (.int v1), .val (.ref b2), .val (.ref b16), .val (.ref b18), .val (.ref pa), .val (.int (1 : Int32)), .unset, .unset] [(.ref b16), (.int (([arg2, arg3, arg4, arg5] : List Int32).getD (((arg1.toUInt32 >>> ((2 : Int32) &&& 31).toUInt32).toInt32) &&& (3 : Int32)).toInt.toNat 0)), (.ref pa), (.int (1 : Int32))])) (fun t k => XS.aload X77.here hx rfl (hb hby at_88) rfl rfl k) ?_
  refine own_st (B := T77.setTop (mkF m 92 #[.val (.int arg0), .val (.int arg1), .val (.int arg2), .val (.int arg3), .val (.int arg4), .val (.int arg5), .val (.int v1), .val (.ref b2), .val (.ref b16), .val (.ref b18), .val (.ref pa), .val (.int (1 : Int32)), .unset, .unset] [(.ref b18), (.ref b16), (.int (([arg2, arg3, arg4, arg5] : List Int32).getD (((arg1.toUInt32 >>> ((2 : Int32) &&& 31).toUInt32).toInt32) &&& (3 : Int32)).toInt.toNat 0)), (.ref pa), (.int (1 : Int32))])) (fun t k => XS.aload X77.here hx rfl (hb hby at_90) rfl rfl k) ?_
  refine own_st (B := T77.setTop (mkF m 94 #[.val (.int arg0), .val (.int arg1), .val (.int arg2), .val (.int arg3), .val (.int arg4), .val (.int arg5), .val (.int v1), .val (.ref b2), .val (.ref b16), .val (.ref b18), .val (.ref pa), .val (.int (1 : Int32)), .unset, .unset] [(.int v1), (.ref b18), (.ref b16), (.int (([arg2, arg3, arg4, arg5] : List Int32).getD (((arg1.toUInt32 >>> ((2 : Int32) &&& 31).toUInt32).toInt32) &&& (3 : Int32)).toInt.toNat 0)), (.ref pa), (.int (1 : Int32))])) (fun t k => XS.iload X77.here hx rfl (hb hby at_92) rfl k) ?_
  have f84 : Exa Z T77.heap ac "[I" := (lf21_9.keep K77)
  have f85 : Exa Z T77.heap asl "[I" := (lf21_10.keep K77)
  have f86 : Exa Z T77.heap b16 "[I" := (lf21_16.keep K77)
  have f87 : Exa Z T77.heap b18 "[I" := (lf21_17.keep K77)
  obtain ⟨_, _, ⟨T88, L88, k88, j88⟩, -, X88, ⟨Lc88, hQ88, l88, y88_, z88_⟩, st88⟩ := Jvm.LawKit.callS X77 hx (y := (⟨"com/example/relayframe/relayframe/PaletteIndexOfPinLaw", "step", "(Lcom/example/relayframe/relayframe/Palette;I[I[II)Z"⟩ : MethodName)) hown (mvT hZ (w_35 hw)) (mvT hZ (w_36 hw)) (mvT hZ (w_37 hw)) (mvT hZ (w_38 hw)) (by decide) (backOf (W := 1) (rm6 l Z a0 hw [] pa (([arg2, arg3, arg4, arg5] : List Int32).getD (((arg1.toUInt32 >>> ((2 : Int32) &&& 31).toUInt32).toInt32) &&& (3 : Int32)).toInt.toNat 0) b16 b18 v1 ac asl ai B sz2_77 N cap n2_77 CO2_77 SC2_77 SI2_77 SE2_77 cn2_77 T77.heap n0 z78 f80 p77_0 p77_1 p77_2 p77_3 p77_4 p77_5 p77_6 p77_7 f84 f85 f81 p77_8 p77_9 f86 f87 qa qgpa qgac qgasl qgai hNB r77_0 r77_1 hcap qb0 qb1 qb2 qb3 q18_b16 u16 u18 r77_4 r77_2 hp6 r77_3) hZ (w_38 hw) (w_37 hw) (by decide) (by decide)) (g := (mkF m 94 #[.val (.int arg0), .val (.int arg1), .val (.int arg2), .val (.int arg3), .val (.int arg4), .val (.int arg5), .val (.int v1), .val (.ref b2), .val (.ref b16), .val (.ref b18), .val (.ref pa), .val (.int (1 : Int32)), .unset, .unset] [(.int v1), (.ref b18), (.ref b16), (.int (([arg2, arg3, arg4, arg5] : List Int32).getD (((arg1.toUInt32 >>> ((2 : Int32) &&& 31).toUInt32).toInt32) &&& (3 : Int32)).toInt.toNat 0)), (.ref pa), (.int (1 : Int32))])) rfl (by rw [hml]; rfl) (argsL := [(.ref pa), (.int (([arg2, arg3, arg4, arg5] : List Int32).getD (((arg1.toUInt32 >>> ((2 : Int32) &&& 31).toUInt32).toInt32) &&& (3 : Int32)).toInt.toNat 0)), (.ref b16), (.ref b18), (.int v1)]) (rest := [(.int (1 : Int32))]) (lenOf own_pd9 rfl) rfl (by show 2 * 0 + _ ≤ _; exact Nat.le_of_eq rfl) (hb hby at_94) (fun _ _ => ⟨rfl, rfl, (by decide : 7 + 0 ≤ _), (by decide : 35 + 0 ≤ _)⟩)
  dsimp only [Pt.U, Pt.locs, Pt.cells, Pt.slots] at X88 l88 y88_ z88_ st88 hQ88
  subst l88 y88_ z88_
  obtain ⟨n2_88, sz2_88, CO2_88, SC2_88, SI2_88, SE2_88, cn2_88, rfl, N88q, K88, p88_0, p88_1, p88_2, p88_3, p88_4, p88_5, p88_6, p88_7, p88_8, p88_9, r88_0, r88_1, r88_2, r88_3, r88_4⟩ := hQ88
  have N88 := Fr.app N77 N88q
  have z89 : n0 ≤ T88.heap.size := Nat.le_trans z78 K88.1
  refine own_st (B := T88.setTop (mkF m 97 #[.val (.int arg0), .val (.int arg1), .val (.int arg2), .val (.int arg3), .val (.int arg4), .val (.int arg5), .val (.int v1), .val (.ref b2), .val (.ref b16), .val (.ref b18), .val (.ref pa), .val (.int (1 : Int32)), .unset, .unset] [(.int (1 : Int32)), (.int (1 : Int32))])) (fun t k => st88 t k) ?_
  refine own_st (B := T88.setTop (mkF m 98 #[.val (.int arg0), .val (.int arg1), .val (.int arg2), .val (.int arg3), .val (.int arg4), .val (.int arg5), .val (.int v1), .val (.ref b2), .val (.ref b16), .val (.ref b18), .val (.ref pa), .val (.int (1 : Int32)), .unset, .unset] [(.int ((1 : Int32) &&& (1 : Int32)))])) (fun t k => XS.iand X88.here hx rfl (hb hby at_97) rfl k) ?_
  rw [show ((1 : Int32) &&& (1 : Int32)) = (1 : Int32) from by decide]
  refine own_st (B := T88.setTop (mkF m 100 #[.val (.int arg0), .val (.int arg1), .val (.int arg2), .val (.int arg3), .val (.int arg4), .val (.int arg5), .val (.int v1), .val (.ref b2), .val (.ref b16), .val (.ref b18), .val (.ref pa), .val (.int (1 : Int32)), .unset, .unset] [])) (fun t k => XS.istore X88.here hx rfl (hb hby at_98) rfl (l' := #[.val (.int arg0), .val (.int arg1), .val (.int arg2), .val (.int arg3), .val (.int arg4), .val (.int arg5), .val (.int v1), .val (.ref b2), .val (.ref b16), .val (.ref b18), .val (.ref pa), .val (.int (1 : Int32)), .unset, .unset]) rfl k) ?_
  refine own_st (B := T88.setTop (mkF m 102 #[.val (.int arg0), .val (.int arg1), .val (.int arg2), .val (.int arg3), .val (.int arg4), .val (.int arg5), .val (.int v1), .val (.ref b2), .val (.ref b16), .val (.ref b18), .val (.ref pa), .val (.int (1 : Int32)), .unset, .unset] [(.int (1 : Int32))])) (fun t k => XS.iload X88.here hx rfl (hb hby at_100) rfl k) ?_
  refine own_st (B := T88.setTop (mkF m 104 #[.val (.int arg0), .val (.int arg1), .val (.int arg2), .val (.int arg3), .val (.int arg4), .val (.int arg5), .val (.int v1), .val (.ref b2), .val (.ref b16), .val (.ref b18), .val (.ref pa), .val (.int (1 : Int32)), .unset, .unset] [(.ref pa), (.int (1 : Int32))])) (fun t k => XS.aload X88.here hx rfl (hb hby at_102) rfl rfl k) ?_
  refine own_st (B := T88.setTop (mkF m 106 #[.val (.int arg0), .val (.int arg1), .val (.int arg2), .val (.int arg3), .val (.int arg4), .val (.int arg5), .val (.int v1), .val (.ref b2), .val (.ref b16), .val (.ref b18), .val (.ref pa), .val (.int (1 : Int32)), .unset, .unset] [(.ref b2), (.ref pa), (.int (1 : Int32))])) (fun t k => XS.aload X88.here hx rfl (hb hby at_104) rfl rfl k) ?_
  refine own_st (B := T88.setTop (mkF m 107 #[.val (.int arg0), .val (.int arg1), .val (.int arg2), .val (.int arg3), .val (.int arg4), .val (.int arg5), .val (.int v1), .val (.ref b2), .val (.ref b16), .val (.ref b18), .val (.ref pa), .val (.int (1 : Int32)), .unset, .unset] [(.int arg1), (.ref b2), (.ref pa), (.int (1 : Int32))])) (fun t k => XS.iloadN X88.here hx rfl (hb hby at_106) rfl k) ?_
  refine own_st (B := T88.setTop (mkF m 108 #[.val (.int arg0), .val (.int arg1), .val (.int arg2), .val (.int arg3), .val (.int arg4), .val (.int arg5), .val (.int v1), .val (.ref b2), .val (.ref b16), .val (.ref b18), .val (.ref pa), .val (.int (1 : Int32)), .unset, .unset] [(.int (4 : Int32)), (.int arg1), (.ref b2), (.ref pa), (.int (1 : Int32))])) (fun t k => XS.iconst X88.here hx rfl (hb hby at_107) k) ?_
  refine own_st (B := T88.setTop (mkF m 109 #[.val (.int arg0), .val (.int arg1), .val (.int arg2), .val (.int arg3), .val (.int arg4), .val (.int arg5), .val (.int v1), .val (.ref b2), .val (.ref b16), .val (.ref b18), .val (.ref pa), .val (.int (1 : Int32)), .unset, .unset] [(.int ((arg1.toUInt32 >>> ((4 : Int32) &&& 31).toUInt32).toInt32)), (.ref b2), (.ref pa), (.int (1 : Int32))])) (fun t k => XS.iushr X88.here hx rfl (hb hby at_108) rfl k) ?_
  refine own_st (B := T88.setTop (mkF m 110 #[.val (.int arg0), .val (.int arg1), .val (.int arg2), .val (.int arg3), .val (.int arg4), .val (.int arg5), .val (.int v1), .val (.ref b2), .val (.ref b16), .val (.ref b18), .val (.ref pa), .val (.int (1 : Int32)), .unset, .unset] [(.int (3 : Int32)), (.int ((arg1.toUInt32 >>> ((4 : Int32) &&& 31).toUInt32).toInt32)), (.ref b2), (.ref pa), (.int (1 : Int32))])) (fun t k => XS.iconst X88.here hx rfl (hb hby at_109) k) ?_
  refine own_st (B := T88.setTop (mkF m 111 #[.val (.int arg0), .val (.int arg1), .val (.int arg2), .val (.int arg3), .val (.int arg4), .val (.int arg5), .val (.int v1), .val (.ref b2), .val (.ref b16), .val (.ref b18), .val (.ref pa), .val (.int (1 : Int32)), .unset, .unset] [(.int (((arg1.toUInt32 >>> ((4 : Int32) &&& 31).toUInt32).toInt32) &&& (3 : Int32))), (.ref b2), (.ref pa), (.int (1 : Int32))])) (fun t k => XS.iand X88.here hx rfl (hb hby at_110) rfl k) ?_
  have f90 : Exa Z T88.heap b2 "[I" := (f79.keep K88)
  have f91 : Exa Z T88.heap pa "com/example/relayframe/relayframe/Palette" := (f80.keep K88)
  have f92 : Exa Z T88.heap ai "[S" := (f81.keep K88)
  have f93 : own_A Z T88.heap b2 .int [(.int arg2), (.int arg3), (.int arg4), (.int arg5)] := (f82.keep K88 (ninS (ne_exa f90 f91 (by decide)) (ninS (Ne.symm qb4) (ninS (Ne.symm qb5) (ninS (ne_exa f90 f92 (by decide)) (ninS q16_b2 (ninS q18_b2 nin0)))))))
  have ha94 := own_a3 ((arg1.toUInt32 >>> ((4 : Int32) &&& 31).toUInt32).toInt32)
  refine own_st (B := T88.setTop (mkF m 112 #[.val (.int arg0), .val (.int arg1), .val (.int arg2), .val (.int arg3), .val (.int arg4), .val (.int arg5), .val (.int v1), .val (.ref b2), .val (.ref b16), .val (.ref b18), .val (.ref pa), .val (.int (1 : Int32)), .unset, .unset] [(.int (([arg2, arg3, arg4, arg5] : List Int32).getD (((arg1.toUInt32 >>> ((4 : Int32) &&& 31).toUInt32).toInt32) &&& (3 : Int32)).toInt.toNat 0)), (.ref pa), (.int (1 : Int32))])) (fun t k => own_ldI X88 hx hZ rfl f93 (g := (mkF m 111 #[.val (.int arg0), .val (.int arg1), .val (.int arg2), .val (.int arg3), .val (.int arg4), .val (.int arg5), .val (.int v1), .val (.ref b2), .val (.ref b16), .val (.ref b18), .val (.ref pa), .val (.int (1 : Int32)), .unset, .unset] [(.int (((arg1.toUInt32 >>> ((4 : Int32) &&& 31).toUInt32).toInt32) &&& (3 : Int32))), (.ref b2), (.ref pa), (.int (1 : Int32))])) (i := ((((arg1.toUInt32 >>> ((4 : Int32) &&& 31).toUInt32).toInt32) &&& (3 : Int32)).toInt.toNat)) (own_nat ha94.1) (own_getI (bs := [arg2, arg3, arg4, arg5]) (show (((arg1.toUInt32 >>> ((4 : Int32) &&& 31).toUInt32).toInt32) &&& (3 : Int32)).toInt.toNat < 4 by omega)) rfl rfl (hb hby at_111) k) ?_
  refine own_st (B := T88.setTop (mkF m 114 #[.val (.int arg0), .val (.int arg1), .val (.int arg2), .val (.int arg3), .val (.int arg4), .val (.int arg5), .val (.int v1), .val (.ref b2), .val (.ref b16), .val (.ref b18), .val (.ref pa), .val (.int (1 : Int32)), .unset, .unset] [(.ref b16), (.int (([arg2, arg3, arg4, arg5] : List Int32).getD (((arg1.toUInt32 >>> ((4 : Int32) &&& 31).toUInt32).toInt32) &&& (3 : Int32)).toInt.toNat 0)), (.ref pa), (.int (1 : Int32))])) (fun t k => XS.aload X88.here hx rfl (hb hby at_112) rfl rfl k) ?_
  refine own_st (B := T88.setTop (mkF m 116 #[.val (.int arg0), .val (.int arg1), .val (.int arg2), .val (.int arg3), .val (.int arg4), .val (.int arg5), .val (.int v1), .val (.ref b2), .val (.ref b16), .val (.ref b18), .val (.ref pa), .val (.int (1 : Int32)), .unset, .unset] [(.ref b18), (.ref b16), (.int (([arg2, arg3, arg4, arg5] : List Int32).getD (((arg1.toUInt32 >>> ((4 : Int32) &&& 31).toUInt32).toInt32) &&& (3 : Int32)).toInt.toNat 0)), (.ref pa), (.int (1 : Int32))])) (fun t k => XS.aload X88.here hx rfl (hb hby at_114) rfl rfl k) ?_
  refine own_st (B := T88.setTop (mkF m 118 #[.val (.int arg0), .val (.int arg1), .val (.int arg2), .val (.int arg3), .val (.int arg4), .val (.int arg5), .val (.int v1), .val (.ref b2), .val (.ref b16), .val (.ref b18), .val (.ref pa), .val (.int (1 : Int32)), .unset, .unset] [(.int v1), (.ref b18), (.ref b16), (.int (([arg2, arg3, arg4, arg5] : List Int32).getD (((arg1.toUInt32 >>> ((4 : Int32) &&& 31).toUInt32).toInt32) &&& (3 : Int32)).toInt.toNat 0)), (.ref pa), (.int (1 : Int32))])) (fun t k => XS.iload X88.here hx rfl (hb hby at_116) rfl k) ?_
  have f95 : Exa Z T88.heap ac "[I" := (f84.keep K88)
  have f96 : Exa Z T88.heap asl "[I" := (f85.keep K88)
  have f97 : Exa Z T88.heap b16 "[I" := (f86.keep K88)
  have f98 : Exa Z T88.heap b18 "[I" := (f87.keep K88)
  obtain ⟨_, _, ⟨T99, L99, k99, j99⟩, -, X99, ⟨Lc99, hQ99, l99, y99_, z99_⟩, st99⟩ := Jvm.LawKit.callS X88 hx (y := (⟨"com/example/relayframe/relayframe/PaletteIndexOfPinLaw", "step", "(Lcom/example/relayframe/relayframe/Palette;I[I[II)Z"⟩ : MethodName)) hown (mvT hZ (w_35 hw)) (mvT hZ (w_36 hw)) (mvT hZ (w_37 hw)) (mvT hZ (w_38 hw)) (by decide) (backOf (W := 1) (rm6 l Z a0 hw [] pa (([arg2, arg3, arg4, arg5] : List Int32).getD (((arg1.toUInt32 >>> ((4 : Int32) &&& 31).toUInt32).toInt32) &&& (3 : Int32)).toInt.toNat 0) b16 b18 v1 ac asl ai B sz2_88 N cap n2_88 CO2_88 SC2_88 SI2_88 SE2_88 cn2_88 T88.heap n0 z89 f91 p88_0 p88_1 p88_2 p88_3 p88_4 p88_5 p88_6 p88_7 f95 f96 f92 p88_8 p88_9 f97 f98 qa qgpa qgac qgasl qgai hNB r88_0 r88_1 hcap qb0 qb1 qb2 qb3 q18_b16 u16 u18 r88_4 r88_2 hp6 r88_3) hZ (w_38 hw) (w_37 hw) (by decide) (by decide)) (g := (mkF m 118 #[.val (.int arg0), .val (.int arg1), .val (.int arg2), .val (.int arg3), .val (.int arg4), .val (.int arg5), .val (.int v1), .val (.ref b2), .val (.ref b16), .val (.ref b18), .val (.ref pa), .val (.int (1 : Int32)), .unset, .unset] [(.int v1), (.ref b18), (.ref b16), (.int (([arg2, arg3, arg4, arg5] : List Int32).getD (((arg1.toUInt32 >>> ((4 : Int32) &&& 31).toUInt32).toInt32) &&& (3 : Int32)).toInt.toNat 0)), (.ref pa), (.int (1 : Int32))])) rfl (by rw [hml]; rfl) (argsL := [(.ref pa), (.int (([arg2, arg3, arg4, arg5] : List Int32).getD (((arg1.toUInt32 >>> ((4 : Int32) &&& 31).toUInt32).toInt32) &&& (3 : Int32)).toInt.toNat 0)), (.ref b16), (.ref b18), (.int v1)]) (rest := [(.int (1 : Int32))]) (lenOf own_pd9 rfl) rfl (by show 2 * 0 + _ ≤ _; exact Nat.le_of_eq rfl) (hb hby at_118) (fun _ _ => ⟨rfl, rfl, (by decide : 7 + 0 ≤ _), (by decide : 35 + 0 ≤ _)⟩)
  dsimp only [Pt.U, Pt.locs, Pt.cells, Pt.slots] at X99 l99 y99_ z99_ st99 hQ99
  subst l99 y99_ z99_
  obtain ⟨n2_99, sz2_99, CO2_99, SC2_99, SI2_99, SE2_99, cn2_99, rfl, N99q, K99, p99_0, p99_1, p99_2, p99_3, p99_4, p99_5, p99_6, p99_7, p99_8, p99_9, r99_0, r99_1, r99_2, r99_3, r99_4⟩ := hQ99
  have N99 := Fr.app N88 N99q
  have z100 : n0 ≤ T99.heap.size := Nat.le_trans z89 K99.1
  refine own_st (B := T99.setTop (mkF m 121 #[.val (.int arg0), .val (.int arg1), .val (.int arg2), .val (.int arg3), .val (.int arg4), .val (.int arg5), .val (.int v1), .val (.ref b2), .val (.ref b16), .val (.ref b18), .val (.ref pa), .val (.int (1 : Int32)), .unset, .unset] [(.int (1 : Int32)), (.int (1 : Int32))])) (fun t k => st99 t k) ?_
  refine own_st (B := T99.setTop (mkF m 122 #[.val (.int arg0), .val (.int arg1), .val (.int arg2), .val (.int arg3), .val (.int arg4), .val (.int arg5), .val (.int v1), .val (.ref b2), .val (.ref b16), .val (.ref b18), .val (.ref pa), .val (.int (1 : Int32)), .unset, .unset] [(.int ((1 : Int32) &&& (1 : Int32)))])) (fun t k => XS.iand X99.here hx rfl (hb hby at_121) rfl k) ?_
  rw [show ((1 : Int32) &&& (1 : Int32)) = (1 : Int32) from by decide]
  refine own_st (B := T99.setTop (mkF m 124 #[.val (.int arg0), .val (.int arg1), .val (.int arg2), .val (.int arg3), .val (.int arg4), .val (.int arg5), .val (.int v1), .val (.ref b2), .val (.ref b16), .val (.ref b18), .val (.ref pa), .val (.int (1 : Int32)), .unset, .unset] [])) (fun t k => XS.istore X99.here hx rfl (hb hby at_122) rfl (l' := #[.val (.int arg0), .val (.int arg1), .val (.int arg2), .val (.int arg3), .val (.int arg4), .val (.int arg5), .val (.int v1), .val (.ref b2), .val (.ref b16), .val (.ref b18), .val (.ref pa), .val (.int (1 : Int32)), .unset, .unset]) rfl k) ?_
  refine own_st (B := T99.setTop (mkF m 126 #[.val (.int arg0), .val (.int arg1), .val (.int arg2), .val (.int arg3), .val (.int arg4), .val (.int arg5), .val (.int v1), .val (.ref b2), .val (.ref b16), .val (.ref b18), .val (.ref pa), .val (.int (1 : Int32)), .unset, .unset] [(.int (1 : Int32))])) (fun t k => XS.iload X99.here hx rfl (hb hby at_124) rfl k) ?_
  refine own_st (B := T99.setTop (mkF m 128 #[.val (.int arg0), .val (.int arg1), .val (.int arg2), .val (.int arg3), .val (.int arg4), .val (.int arg5), .val (.int v1), .val (.ref b2), .val (.ref b16), .val (.ref b18), .val (.ref pa), .val (.int (1 : Int32)), .unset, .unset] [(.ref pa), (.int (1 : Int32))])) (fun t k => XS.aload X99.here hx rfl (hb hby at_126) rfl rfl k) ?_
  refine own_st (B := T99.setTop (mkF m 130 #[.val (.int arg0), .val (.int arg1), .val (.int arg2), .val (.int arg3), .val (.int arg4), .val (.int arg5), .val (.int v1), .val (.ref b2), .val (.ref b16), .val (.ref b18), .val (.ref pa), .val (.int (1 : Int32)), .unset, .unset] [(.ref b2), (.ref pa), (.int (1 : Int32))])) (fun t k => XS.aload X99.here hx rfl (hb hby at_128) rfl rfl k) ?_
  refine own_st (B := T99.setTop (mkF m 131 #[.val (.int arg0), .val (.int arg1), .val (.int arg2), .val (.int arg3), .val (.int arg4), .val (.int arg5), .val (.int v1), .val (.ref b2), .val (.ref b16), .val (.ref b18), .val (.ref pa), .val (.int (1 : Int32)), .unset, .unset] [(.int arg1), (.ref b2), (.ref pa), (.int (1 : Int32))])) (fun t k => XS.iloadN X99.here hx rfl (hb hby at_130) rfl k) ?_
  refine own_st (B := T99.setTop (mkF m 133 #[.val (.int arg0), .val (.int arg1), .val (.int arg2), .val (.int arg3), .val (.int arg4), .val (.int arg5), .val (.int v1), .val (.ref b2), .val (.ref b16), .val (.ref b18), .val (.ref pa), .val (.int (1 : Int32)), .unset, .unset] [(.int (6 : Int32)), (.int arg1), (.ref b2), (.ref pa), (.int (1 : Int32))])) (fun t k => XS.bipush X99.here hx rfl (hb hby at_131) k) ?_
  refine own_st (B := T99.setTop (mkF m 134 #[.val (.int arg0), .val (.int arg1), .val (.int arg2), .val (.int arg3), .val (.int arg4), .val (.int arg5), .val (.int v1), .val (.ref b2), .val (.ref b16), .val (.ref b18), .val (.ref pa), .val (.int (1 : Int32)), .unset, .unset] [(.int ((arg1.toUInt32 >>> ((6 : Int32) &&& 31).toUInt32).toInt32)), (.ref b2), (.ref pa), (.int (1 : Int32))])) (fun t k => XS.iushr X99.here hx rfl (hb hby at_133) rfl k) ?_
  refine own_st (B := T99.setTop (mkF m 135 #[.val (.int arg0), .val (.int arg1), .val (.int arg2), .val (.int arg3), .val (.int arg4), .val (.int arg5), .val (.int v1), .val (.ref b2), .val (.ref b16), .val (.ref b18), .val (.ref pa), .val (.int (1 : Int32)), .unset, .unset] [(.int (3 : Int32)), (.int ((arg1.toUInt32 >>> ((6 : Int32) &&& 31).toUInt32).toInt32)), (.ref b2), (.ref pa), (.int (1 : Int32))])) (fun t k => XS.iconst X99.here hx rfl (hb hby at_134) k) ?_
  refine own_st (B := T99.setTop (mkF m 136 #[.val (.int arg0), .val (.int arg1), .val (.int arg2), .val (.int arg3), .val (.int arg4), .val (.int arg5), .val (.int v1), .val (.ref b2), .val (.ref b16), .val (.ref b18), .val (.ref pa), .val (.int (1 : Int32)), .unset, .unset] [(.int (((arg1.toUInt32 >>> ((6 : Int32) &&& 31).toUInt32).toInt32) &&& (3 : Int32))), (.ref b2), (.ref pa), (.int (1 : Int32))])) (fun t k => XS.iand X99.here hx rfl (hb hby at_135) rfl k) ?_
  have f101 : Exa Z T99.heap b2 "[I" := (f90.keep K99)
  have f102 : Exa Z T99.heap pa "com/example/relayframe/relayframe/Palette" := (f91.keep K99)
  have f103 : Exa Z T99.heap ai "[S" := (f92.keep K99)
  have f104 : own_A Z T99.heap b2 .int [(.int arg2), (.int arg3), (.int arg4), (.int arg5)] := (f93.keep K99 (ninS (ne_exa f101 f102 (by decide)) (ninS (Ne.symm qb4) (ninS (Ne.symm qb5) (ninS (ne_exa f101 f103 (by decide)) (ninS q16_b2 (ninS q18_b2 nin0)))))))
  have ha105 := own_a3 ((arg1.toUInt32 >>> ((6 : Int32) &&& 31).toUInt32).toInt32)
  refine own_st (B := T99.setTop (mkF m 137 #[.val (.int arg0), .val (.int arg1), .val (.int arg2), .val (.int arg3), .val (.int arg4), .val (.int arg5), .val (.int v1), .val (.ref b2), .val (.ref b16), .val (.ref b18), .val (.ref pa), .val (.int (1 : Int32)), .unset, .unset] [(.int (([arg2, arg3, arg4, arg5] : List Int32).getD (((arg1.toUInt32 >>> ((6 : Int32) &&& 31).toUInt32).toInt32) &&& (3 : Int32)).toInt.toNat 0)), (.ref pa), (.int (1 : Int32))])) (fun t k => own_ldI X99 hx hZ rfl f104 (g := (mkF m 136 #[.val (.int arg0), .val (.int arg1), .val (.int arg2), .val (.int arg3), .val (.int arg4), .val (.int arg5), .val (.int v1), .val (.ref b2), .val (.ref b16), .val (.ref b18), .val (.ref pa), .val (.int (1 : Int32)), .unset, .unset] [(.int (((arg1.toUInt32 >>> ((6 : Int32) &&& 31).toUInt32).toInt32) &&& (3 : Int32))), (.ref b2), (.ref pa), (.int (1 : Int32))])) (i := ((((arg1.toUInt32 >>> ((6 : Int32) &&& 31).toUInt32).toInt32) &&& (3 : Int32)).toInt.toNat)) (own_nat ha105.1) (own_getI (bs := [arg2, arg3, arg4, arg5]) (show (((arg1.toUInt32 >>> ((6 : Int32) &&& 31).toUInt32).toInt32) &&& (3 : Int32)).toInt.toNat < 4 by omega)) rfl rfl (hb hby at_136) k) ?_
  refine own_st (B := T99.setTop (mkF m 139 #[.val (.int arg0), .val (.int arg1), .val (.int arg2), .val (.int arg3), .val (.int arg4), .val (.int arg5), .val (.int v1), .val (.ref b2), .val (.ref b16), .val (.ref b18), .val (.ref pa), .val (.int (1 : Int32)), .unset, .unset] [(.ref b16), (.int (([arg2, arg3, arg4, arg5] : List Int32).getD (((arg1.toUInt32 >>> ((6 : Int32) &&& 31).toUInt32).toInt32) &&& (3 : Int32)).toInt.toNat 0)), (.ref pa), (.int (1 : Int32))])) (fun t k => XS.aload X99.here hx rfl (hb hby at_137) rfl rfl k) ?_
  refine own_st (B := T99.setTop (mkF m 141 #[.val (.int arg0), .val (.int arg1), .val (.int arg2), .val (.int arg3), .val (.int arg4), .val (.int arg5), .val (.int v1), .val (.ref b2), .val (.ref b16), .val (.ref b18), .val (.ref pa), .val (.int (1 : Int32)), .unset, .unset] [(.ref b18), (.ref b16), (.int (([arg2, arg3, arg4, arg5] : List Int32).getD (((arg1.toUInt32 >>> ((6 : Int32) &&& 31).toUInt32).toInt32) &&& (3 : Int32)).toInt.toNat 0)), (.ref pa), (.int (1 : Int32))])) (fun t k => XS.aload X99.here hx rfl (hb hby at_139) rfl rfl k) ?_
  refine own_st (B := T99.setTop (mkF m 143 #[.val (.int arg0), .val (.int arg1), .val (.int arg2), .val (.int arg3), .val (.int arg4), .val (.int arg5), .val (.int v1), .val (.ref b2), .val (.ref b16), .val (.ref b18), .val (.ref pa), .val (.int (1 : Int32)), .unset, .unset] [(.int v1), (.ref b18), (.ref b16), (.int (([arg2, arg3, arg4, arg5] : List Int32).getD (((arg1.toUInt32 >>> ((6 : Int32) &&& 31).toUInt32).toInt32) &&& (3 : Int32)).toInt.toNat 0)), (.ref pa), (.int (1 : Int32))])) (fun t k => XS.iload X99.here hx rfl (hb hby at_141) rfl k) ?_
  have f106 : Exa Z T99.heap ac "[I" := (f95.keep K99)
  have f107 : Exa Z T99.heap asl "[I" := (f96.keep K99)
  have f108 : Exa Z T99.heap b16 "[I" := (f97.keep K99)
  have f109 : Exa Z T99.heap b18 "[I" := (f98.keep K99)
  obtain ⟨_, _, ⟨T110, L110, k110, j110⟩, -, X110, ⟨Lc110, hQ110, l110, y110_, z110_⟩, st110⟩ := Jvm.LawKit.callS X99 hx (y := (⟨"com/example/relayframe/relayframe/PaletteIndexOfPinLaw", "step", "(Lcom/example/relayframe/relayframe/Palette;I[I[II)Z"⟩ : MethodName)) hown (mvT hZ (w_35 hw)) (mvT hZ (w_36 hw)) (mvT hZ (w_37 hw)) (mvT hZ (w_38 hw)) (by decide) (backOf (W := 1) (rm6 l Z a0 hw [] pa (([arg2, arg3, arg4, arg5] : List Int32).getD (((arg1.toUInt32 >>> ((6 : Int32) &&& 31).toUInt32).toInt32) &&& (3 : Int32)).toInt.toNat 0) b16 b18 v1 ac asl ai B sz2_99 N cap n2_99 CO2_99 SC2_99 SI2_99 SE2_99 cn2_99 T99.heap n0 z100 f102 p99_0 p99_1 p99_2 p99_3 p99_4 p99_5 p99_6 p99_7 f106 f107 f103 p99_8 p99_9 f108 f109 qa qgpa qgac qgasl qgai hNB r99_0 r99_1 hcap qb0 qb1 qb2 qb3 q18_b16 u16 u18 r99_4 r99_2 hp6 r99_3) hZ (w_38 hw) (w_37 hw) (by decide) (by decide)) (g := (mkF m 143 #[.val (.int arg0), .val (.int arg1), .val (.int arg2), .val (.int arg3), .val (.int arg4), .val (.int arg5), .val (.int v1), .val (.ref b2), .val (.ref b16), .val (.ref b18), .val (.ref pa), .val (.int (1 : Int32)), .unset, .unset] [(.int v1), (.ref b18), (.ref b16), (.int (([arg2, arg3, arg4, arg5] : List Int32).getD (((arg1.toUInt32 >>> ((6 : Int32) &&& 31).toUInt32).toInt32) &&& (3 : Int32)).toInt.toNat 0)), (.ref pa), (.int (1 : Int32))])) rfl (by rw [hml]; rfl) (argsL := [(.ref pa), (.int (([arg2, arg3, arg4, arg5] : List Int32).getD (((arg1.toUInt32 >>> ((6 : Int32) &&& 31).toUInt32).toInt32) &&& (3 : Int32)).toInt.toNat 0)), (.ref b16), (.ref b18), (.int v1)]) (rest := [(.int (1 : Int32))]) (lenOf own_pd9 rfl) rfl (by show 2 * 0 + _ ≤ _; exact Nat.le_of_eq rfl) (hb hby at_143) (fun _ _ => ⟨rfl, rfl, (by decide : 7 + 0 ≤ _), (by decide : 35 + 0 ≤ _)⟩)
  dsimp only [Pt.U, Pt.locs, Pt.cells, Pt.slots] at X110 l110 y110_ z110_ st110 hQ110
  subst l110 y110_ z110_
  obtain ⟨n2_110, sz2_110, CO2_110, SC2_110, SI2_110, SE2_110, cn2_110, rfl, N110q, K110, p110_0, p110_1, p110_2, p110_3, p110_4, p110_5, p110_6, p110_7, p110_8, p110_9, r110_0, r110_1, r110_2, r110_3, r110_4⟩ := hQ110
  have N110 := Fr.app N99 N110q
  have z111 : n0 ≤ T110.heap.size := Nat.le_trans z100 K110.1
  refine own_st (B := T110.setTop (mkF m 146 #[.val (.int arg0), .val (.int arg1), .val (.int arg2), .val (.int arg3), .val (.int arg4), .val (.int arg5), .val (.int v1), .val (.ref b2), .val (.ref b16), .val (.ref b18), .val (.ref pa), .val (.int (1 : Int32)), .unset, .unset] [(.int (1 : Int32)), (.int (1 : Int32))])) (fun t k => st110 t k) ?_
  refine own_st (B := T110.setTop (mkF m 147 #[.val (.int arg0), .val (.int arg1), .val (.int arg2), .val (.int arg3), .val (.int arg4), .val (.int arg5), .val (.int v1), .val (.ref b2), .val (.ref b16), .val (.ref b18), .val (.ref pa), .val (.int (1 : Int32)), .unset, .unset] [(.int ((1 : Int32) &&& (1 : Int32)))])) (fun t k => XS.iand X110.here hx rfl (hb hby at_146) rfl k) ?_
  rw [show ((1 : Int32) &&& (1 : Int32)) = (1 : Int32) from by decide]
  refine own_st (B := T110.setTop (mkF m 149 #[.val (.int arg0), .val (.int arg1), .val (.int arg2), .val (.int arg3), .val (.int arg4), .val (.int arg5), .val (.int v1), .val (.ref b2), .val (.ref b16), .val (.ref b18), .val (.ref pa), .val (.int (1 : Int32)), .unset, .unset] [])) (fun t k => XS.istore X110.here hx rfl (hb hby at_147) rfl (l' := #[.val (.int arg0), .val (.int arg1), .val (.int arg2), .val (.int arg3), .val (.int arg4), .val (.int arg5), .val (.int v1), .val (.ref b2), .val (.ref b16), .val (.ref b18), .val (.ref pa), .val (.int (1 : Int32)), .unset, .unset]) rfl k) ?_
  refine own_st (B := T110.setTop (mkF m 151 #[.val (.int arg0), .val (.int arg1), .val (.int arg2), .val (.int arg3), .val (.int arg4), .val (.int arg5), .val (.int v1), .val (.ref b2), .val (.ref b16), .val (.ref b18), .val (.ref pa), .val (.int (1 : Int32)), .unset, .unset] [(.int (1 : Int32))])) (fun t k => XS.iload X110.here hx rfl (hb hby at_149) rfl k) ?_
  refine own_st (B := T110.setTop (mkF m 153 #[.val (.int arg0), .val (.int arg1), .val (.int arg2), .val (.int arg3), .val (.int arg4), .val (.int arg5), .val (.int v1), .val (.ref b2), .val (.ref b16), .val (.ref b18), .val (.ref pa), .val (.int (1 : Int32)), .unset, .unset] [(.ref pa), (.int (1 : Int32))])) (fun t k => XS.aload X110.here hx rfl (hb hby at_151) rfl rfl k) ?_
  refine own_st (B := T110.setTop (mkF m 155 #[.val (.int arg0), .val (.int arg1), .val (.int arg2), .val (.int arg3), .val (.int arg4), .val (.int arg5), .val (.int v1), .val (.ref b2), .val (.ref b16), .val (.ref b18), .val (.ref pa), .val (.int (1 : Int32)), .unset, .unset] [(.ref b2), (.ref pa), (.int (1 : Int32))])) (fun t k => XS.aload X110.here hx rfl (hb hby at_153) rfl rfl k) ?_
  refine own_st (B := T110.setTop (mkF m 156 #[.val (.int arg0), .val (.int arg1), .val (.int arg2), .val (.int arg3), .val (.int arg4), .val (.int arg5), .val (.int v1), .val (.ref b2), .val (.ref b16), .val (.ref b18), .val (.ref pa), .val (.int (1 : Int32)), .unset, .unset] [(.int arg1), (.ref b2), (.ref pa), (.int (1 : Int32))])) (fun t k => XS.iloadN X110.here hx rfl (hb hby at_155) rfl k) ?_
  refine own_st (B := T110.setTop (mkF m 158 #[.val (.int arg0), .val (.int arg1), .val (.int arg2), .val (.int arg3), .val (.int arg4), .val (.int arg5), .val (.int v1), .val (.ref b2), .val (.ref b16), .val (.ref b18), .val (.ref pa), .val (.int (1 : Int32)), .unset, .unset] [(.int (8 : Int32)), (.int arg1), (.ref b2), (.ref pa), (.int (1 : Int32))])) (fun t k => XS.bipush X110.here hx rfl (hb hby at_156) k) ?_
  refine own_st (B := T110.setTop (mkF m 159 #[.val (.int arg0), .val (.int arg1), .val (.int arg2), .val (.int arg3), .val (.int arg4), .val (.int arg5), .val (.int v1), .val (.ref b2), .val (.ref b16), .val (.ref b18), .val (.ref pa), .val (.int (1 : Int32)), .unset, .unset] [(.int ((arg1.toUInt32 >>> ((8 : Int32) &&& 31).toUInt32).toInt32)), (.ref b2), (.ref pa), (.int (1 : Int32))])) (fun t k => XS.iushr X110.here hx rfl (hb hby at_158) rfl k) ?_
  refine own_st (B := T110.setTop (mkF m 160 #[.val (.int arg0), .val (.int arg1), .val (.int arg2), .val (.int arg3), .val (.int arg4), .val (.int arg5), .val (.int v1), .val (.ref b2), .val (.ref b16), .val (.ref b18), .val (.ref pa), .val (.int (1 : Int32)), .unset, .unset] [(.int (3 : Int32)), (.int ((arg1.toUInt32 >>> ((8 : Int32) &&& 31).toUInt32).toInt32)), (.ref b2), (.ref pa), (.int (1 : Int32))])) (fun t k => XS.iconst X110.here hx rfl (hb hby at_159) k) ?_
  refine own_st (B := T110.setTop (mkF m 161 #[.val (.int arg0), .val (.int arg1), .val (.int arg2), .val (.int arg3), .val (.int arg4), .val (.int arg5), .val (.int v1), .val (.ref b2), .val (.ref b16), .val (.ref b18), .val (.ref pa), .val (.int (1 : Int32)), .unset, .unset] [(.int (((arg1.toUInt32 >>> ((8 : Int32) &&& 31).toUInt32).toInt32) &&& (3 : Int32))), (.ref b2), (.ref pa), (.int (1 : Int32))])) (fun t k => XS.iand X110.here hx rfl (hb hby at_160) rfl k) ?_
  have f112 : Exa Z T110.heap b2 "[I" := (f101.keep K110)
  have f113 : Exa Z T110.heap pa "com/example/relayframe/relayframe/Palette" := (f102.keep K110)
  have f114 : Exa Z T110.heap ai "[S" := (f103.keep K110)
  have f115 : own_A Z T110.heap b2 .int [(.int arg2), (.int arg3), (.int arg4), (.int arg5)] := (f104.keep K110 (ninS (ne_exa f112 f113 (by decide)) (ninS (Ne.symm qb4) (ninS (Ne.symm qb5) (ninS (ne_exa f112 f114 (by decide)) (ninS q16_b2 (ninS q18_b2 nin0)))))))
  have ha116 := own_a3 ((arg1.toUInt32 >>> ((8 : Int32) &&& 31).toUInt32).toInt32)
  refine own_st (B := T110.setTop (mkF m 162 #[.val (.int arg0), .val (.int arg1), .val (.int arg2), .val (.int arg3), .val (.int arg4), .val (.int arg5), .val (.int v1), .val (.ref b2), .val (.ref b16), .val (.ref b18), .val (.ref pa), .val (.int (1 : Int32)), .unset, .unset] [(.int (([arg2, arg3, arg4, arg5] : List Int32).getD (((arg1.toUInt32 >>> ((8 : Int32) &&& 31).toUInt32).toInt32) &&& (3 : Int32)).toInt.toNat 0)), (.ref pa), (.int (1 : Int32))])) (fun t k => own_ldI X110 hx hZ rfl f115 (g := (mkF m 161 #[.val (.int arg0), .val (.int arg1), .val (.int arg2), .val (.int arg3), .val (.int arg4), .val (.int arg5), .val (.int v1), .val (.ref b2), .val (.ref b16), .val (.ref b18), .val (.ref pa), .val (.int (1 : Int32)), .unset, .unset] [(.int (((arg1.toUInt32 >>> ((8 : Int32) &&& 31).toUInt32).toInt32) &&& (3 : Int32))), (.ref b2), (.ref pa), (.int (1 : Int32))])) (i := ((((arg1.toUInt32 >>> ((8 : Int32) &&& 31).toUInt32).toInt32) &&& (3 : Int32)).toInt.toNat)) (own_nat ha116.1) (own_getI (bs := [arg2, arg3, arg4, arg5]) (show (((arg1.toUInt32 >>> ((8 : Int32) &&& 31).toUInt32).toInt32) &&& (3 : Int32)).toInt.toNat < 4 by omega)) rfl rfl (hb hby at_161) k) ?_
  refine own_st (B := T110.setTop (mkF m 164 #[.val (.int arg0), .val (.int arg1), .val (.int arg2), .val (.int arg3), .val (.int arg4), .val (.int arg5), .val (.int v1), .val (.ref b2), .val (.ref b16), .val (.ref b18), .val (.ref pa), .val (.int (1 : Int32)), .unset, .unset] [(.ref b16), (.int (([arg2, arg3, arg4, arg5] : List Int32).getD (((arg1.toUInt32 >>> ((8 : Int32) &&& 31).toUInt32).toInt32) &&& (3 : Int32)).toInt.toNat 0)), (.ref pa), (.int (1 : Int32))])) (fun t k => XS.aload X110.here hx rfl (hb hby at_162) rfl rfl k) ?_
  refine own_st (B := T110.setTop (mkF m 166 #[.val (.int arg0), .val (.int arg1), .val (.int arg2), .val (.int arg3), .val (.int arg4), .val (.int arg5), .val (.int v1), .val (.ref b2), .val (.ref b16), .val (.ref b18), .val (.ref pa), .val (.int (1 : Int32)), .unset, .unset] [(.ref b18), (.ref b16), (.int (([arg2, arg3, arg4, arg5] : List Int32).getD (((arg1.toUInt32 >>> ((8 : Int32) &&& 31).toUInt32).toInt32) &&& (3 : Int32)).toInt.toNat 0)), (.ref pa), (.int (1 : Int32))])) (fun t k => XS.aload X110.here hx rfl (hb hby at_164) rfl rfl k) ?_
  refine own_st (B := T110.setTop (mkF m 168 #[.val (.int arg0), .val (.int arg1), .val (.int arg2), .val (.int arg3), .val (.int arg4), .val (.int arg5), .val (.int v1), .val (.ref b2), .val (.ref b16), .val (.ref b18), .val (.ref pa), .val (.int (1 : Int32)), .unset, .unset] [(.int v1), (.ref b18), (.ref b16), (.int (([arg2, arg3, arg4, arg5] : List Int32).getD (((arg1.toUInt32 >>> ((8 : Int32) &&& 31).toUInt32).toInt32) &&& (3 : Int32)).toInt.toNat 0)), (.ref pa), (.int (1 : Int32))])) (fun t k => XS.iload X110.here hx rfl (hb hby at_166) rfl k) ?_
  have f117 : Exa Z T110.heap ac "[I" := (f106.keep K110)
  have f118 : Exa Z T110.heap asl "[I" := (f107.keep K110)
  have f119 : Exa Z T110.heap b16 "[I" := (f108.keep K110)
  have f120 : Exa Z T110.heap b18 "[I" := (f109.keep K110)
  obtain ⟨_, _, ⟨T121, L121, k121, j121⟩, -, X121, ⟨Lc121, hQ121, l121, y121_, z121_⟩, st121⟩ := Jvm.LawKit.callS X110 hx (y := (⟨"com/example/relayframe/relayframe/PaletteIndexOfPinLaw", "step", "(Lcom/example/relayframe/relayframe/Palette;I[I[II)Z"⟩ : MethodName)) hown (mvT hZ (w_35 hw)) (mvT hZ (w_36 hw)) (mvT hZ (w_37 hw)) (mvT hZ (w_38 hw)) (by decide) (backOf (W := 1) (rm6 l Z a0 hw [] pa (([arg2, arg3, arg4, arg5] : List Int32).getD (((arg1.toUInt32 >>> ((8 : Int32) &&& 31).toUInt32).toInt32) &&& (3 : Int32)).toInt.toNat 0) b16 b18 v1 ac asl ai B sz2_110 N cap n2_110 CO2_110 SC2_110 SI2_110 SE2_110 cn2_110 T110.heap n0 z111 f113 p110_0 p110_1 p110_2 p110_3 p110_4 p110_5 p110_6 p110_7 f117 f118 f114 p110_8 p110_9 f119 f120 qa qgpa qgac qgasl qgai hNB r110_0 r110_1 hcap qb0 qb1 qb2 qb3 q18_b16 u16 u18 r110_4 r110_2 hp6 r110_3) hZ (w_38 hw) (w_37 hw) (by decide) (by decide)) (g := (mkF m 168 #[.val (.int arg0), .val (.int arg1), .val (.int arg2), .val (.int arg3), .val (.int arg4), .val (.int arg5), .val (.int v1), .val (.ref b2), .val (.ref b16), .val (.ref b18), .val (.ref pa), .val (.int (1 : Int32)), .unset, .unset] [(.int v1), (.ref b18), (.ref b16), (.int (([arg2, arg3, arg4, arg5] : List Int32).getD (((arg1.toUInt32 >>> ((8 : Int32) &&& 31).toUInt32).toInt32) &&& (3 : Int32)).toInt.toNat 0)), (.ref pa), (.int (1 : Int32))])) rfl (by rw [hml]; rfl) (argsL := [(.ref pa), (.int (([arg2, arg3, arg4, arg5] : List Int32).getD (((arg1.toUInt32 >>> ((8 : Int32) &&& 31).toUInt32).toInt32) &&& (3 : Int32)).toInt.toNat 0)), (.ref b16), (.ref b18), (.int v1)]) (rest := [(.int (1 : Int32))]) (lenOf own_pd9 rfl) rfl (by show 2 * 0 + _ ≤ _; exact Nat.le_of_eq rfl) (hb hby at_168) (fun _ _ => ⟨rfl, rfl, (by decide : 7 + 0 ≤ _), (by decide : 35 + 0 ≤ _)⟩)
  dsimp only [Pt.U, Pt.locs, Pt.cells, Pt.slots] at X121 l121 y121_ z121_ st121 hQ121
  subst l121 y121_ z121_
  obtain ⟨n2_121, sz2_121, CO2_121, SC2_121, SI2_121, SE2_121, cn2_121, rfl, N121q, K121, p121_0, p121_1, p121_2, p121_3, p121_4, p121_5, p121_6, p121_7, p121_8, p121_9, r121_0, r121_1, r121_2, r121_3, r121_4⟩ := hQ121
  have N121 := Fr.app N110 N121q
  have z122 : n0 ≤ T121.heap.size := Nat.le_trans z111 K121.1
  refine own_st (B := T121.setTop (mkF m 171 #[.val (.int arg0), .val (.int arg1), .val (.int arg2), .val (.int arg3), .val (.int arg4), .val (.int arg5), .val (.int v1), .val (.ref b2), .val (.ref b16), .val (.ref b18), .val (.ref pa), .val (.int (1 : Int32)), .unset, .unset] [(.int (1 : Int32)), (.int (1 : Int32))])) (fun t k => st121 t k) ?_
  refine own_st (B := T121.setTop (mkF m 172 #[.val (.int arg0), .val (.int arg1), .val (.int arg2), .val (.int arg3), .val (.int arg4), .val (.int arg5), .val (.int v1), .val (.ref b2), .val (.ref b16), .val (.ref b18), .val (.ref pa), .val (.int (1 : Int32)), .unset, .unset] [(.int ((1 : Int32) &&& (1 : Int32)))])) (fun t k => XS.iand X121.here hx rfl (hb hby at_171) rfl k) ?_
  rw [show ((1 : Int32) &&& (1 : Int32)) = (1 : Int32) from by decide]
  refine own_st (B := T121.setTop (mkF m 174 #[.val (.int arg0), .val (.int arg1), .val (.int arg2), .val (.int arg3), .val (.int arg4), .val (.int arg5), .val (.int v1), .val (.ref b2), .val (.ref b16), .val (.ref b18), .val (.ref pa), .val (.int (1 : Int32)), .unset, .unset] [])) (fun t k => XS.istore X121.here hx rfl (hb hby at_172) rfl (l' := #[.val (.int arg0), .val (.int arg1), .val (.int arg2), .val (.int arg3), .val (.int arg4), .val (.int arg5), .val (.int v1), .val (.ref b2), .val (.ref b16), .val (.ref b18), .val (.ref pa), .val (.int (1 : Int32)), .unset, .unset]) rfl k) ?_
  refine own_st (B := T121.setTop (mkF m 176 #[.val (.int arg0), .val (.int arg1), .val (.int arg2), .val (.int arg3), .val (.int arg4), .val (.int arg5), .val (.int v1), .val (.ref b2), .val (.ref b16), .val (.ref b18), .val (.ref pa), .val (.int (1 : Int32)), .unset, .unset] [(.ref b18)])) (fun t k => XS.aload X121.here hx rfl (hb hby at_174) rfl rfl k) ?_
  refine own_st (B := T121.setTop (mkF m 177 #[.val (.int arg0), .val (.int arg1), .val (.int arg2), .val (.int arg3), .val (.int arg4), .val (.int arg5), .val (.int v1), .val (.ref b2), .val (.ref b16), .val (.ref b18), .val (.ref pa), .val (.int (1 : Int32)), .unset, .unset] [(.int (0 : Int32)), (.ref b18)])) (fun t k => XS.iconst X121.here hx rfl (hb hby at_176) k) ?_
  refine own_st (B := T121.setTop (mkF m 178 #[.val (.int arg0), .val (.int arg1), .val (.int arg2), .val (.int arg3), .val (.int arg4), .val (.int arg5), .val (.int v1), .val (.ref b2), .val (.ref b16), .val (.ref b18), .val (.ref pa), .val (.int (1 : Int32)), .unset, .unset] [(.int cn2_121)])) (fun t k => own_ldI X121 hx hZ rfl p121_9 (g := (mkF m 177 #[.val (.int arg0), .val (.int arg1), .val (.int arg2), .val (.int arg3), .val (.int arg4), .val (.int arg5), .val (.int v1), .val (.ref b2), .val (.ref b16), .val (.ref b18), .val (.ref pa), .val (.int (1 : Int32)), .unset, .unset] [(.int (0 : Int32)), (.ref b18)])) (i := 0) (by decide) rfl rfl rfl (hb hby at_177) k) ?_
  refine own_st (B := T121.setTop (mkF m 180 #[.val (.int arg0), .val (.int arg1), .val (.int arg2), .val (.int arg3), .val (.int arg4), .val (.int arg5), .val (.int v1), .val (.ref b2), .val (.ref b16), .val (.ref b18), .val (.ref pa), .val (.int (1 : Int32)), .val (.int cn2_121), .unset] [])) (fun t k => XS.istore X121.here hx rfl (hb hby at_178) rfl (l' := #[.val (.int arg0), .val (.int arg1), .val (.int arg2), .val (.int arg3), .val (.int arg4), .val (.int arg5), .val (.int v1), .val (.ref b2), .val (.ref b16), .val (.ref b18), .val (.ref pa), .val (.int (1 : Int32)), .val (.int cn2_121), .unset]) rfl k) ?_
  refine own_st (B := T121.setTop (mkF m 182 #[.val (.int arg0), .val (.int arg1), .val (.int arg2), .val (.int arg3), .val (.int arg4), .val (.int arg5), .val (.int v1), .val (.ref b2), .val (.ref b16), .val (.ref b18), .val (.ref pa), .val (.int (1 : Int32)), .val (.int cn2_121), .unset] [(.int (1 : Int32))])) (fun t k => XS.iload X121.here hx rfl (hb hby at_180) rfl k) ?_
  refine own_st (B := T121.setTop (mkF m 184 #[.val (.int arg0), .val (.int arg1), .val (.int arg2), .val (.int arg3), .val (.int arg4), .val (.int arg5), .val (.int v1), .val (.ref b2), .val (.ref b16), .val (.ref b18), .val (.ref pa), .val (.int (1 : Int32)), .val (.int cn2_121), .unset] [(.ref pa), (.int (1 : Int32))])) (fun t k => XS.aload X121.here hx rfl (hb hby at_182) rfl rfl k) ?_
  have f124 : Exa Z T121.heap pa "com/example/relayframe/relayframe/Palette" := (f113.keep K121)
  obtain ⟨cq123, kq123, q123a, q123b, q123c⟩ := isOf hZ rfl f124
  obtain ⟨_, _, ⟨T123, L123, k123, j123⟩, -, X123, ⟨Lc123, hQ123, l123, y123_, z123_⟩, st123⟩ := X121.virtualBack hx (y := (⟨"com/example/relayframe/relayframe/Palette", "size", "()I"⟩ : MethodName)) (z := (⟨"com/example/relayframe/relayframe/Palette", "size", "()I"⟩ : MethodName)) hown (mvT hZ (w_48 hw)) (mvT hZ (w_49 hw)) (notFace_of_selects (args := #[]) (mvT hZ (w_51 hw))) (mvT hZ (w_51 hw)) (mvT hZ (w_50 hw)) (by decide) (backOf (W := 1) (rm9 l Z a0 hw [] pa sz2_121 T121.heap n0 z122 p121_4) hZ (w_52 hw) (w_3 hw) (by decide) (by decide)) q123a q123c (g := (mkF m 184 #[.val (.int arg0), .val (.int arg1), .val (.int arg2), .val (.int arg3), .val (.int arg4), .val (.int arg5), .val (.int v1), .val (.ref b2), .val (.ref b16), .val (.ref b18), .val (.ref pa), .val (.int (1 : Int32)), .val (.int cn2_121), .unset] [(.ref pa), (.int (1 : Int32))])) rfl (by rw [hml]; rfl) (Steps.refl _) (argsL := []) (rest := [(.int (1 : Int32))]) (lenOf own_pd10 rfl) rfl (by show 2 * 0 + _ ≤ _; exact Nat.le_of_eq rfl) (hb hby at_184) (fun _ _ => ⟨rfl, rfl, (by decide : 7 + 0 ≤ _), (by decide : 35 + 0 ≤ _)⟩)
  dsimp only [Pt.U, Pt.locs, Pt.cells, Pt.slots] at X123 l123 y123_ z123_ st123 hQ123
  subst l123 y123_ z123_
  obtain ⟨rfl, N123q, e123q⟩ := hQ123
  have N123 := Fr.app N121 N123q
  refine own_ss (B := T123.setTop (mkF m 187 #[.val (.int arg0), .val (.int arg1), .val (.int arg2), .val (.int arg3), .val (.int arg4), .val (.int arg5), .val (.int v1), .val (.ref b2), .val (.ref b16), .val (.ref b18), .val (.ref pa), .val (.int (1 : Int32)), .val (.int cn2_121), .unset] [(.int sz2_121), (.int (1 : Int32))])) st123 ?_
  refine own_st (B := T123.setTop (mkF m 189 #[.val (.int arg0), .val (.int arg1), .val (.int arg2), .val (.int arg3), .val (.int arg4), .val (.int arg5), .val (.int v1), .val (.ref b2), .val (.ref b16), .val (.ref b18), .val (.ref pa), .val (.int (1 : Int32)), .val (.int cn2_121), .unset] [(.int cn2_121), (.int sz2_121), (.int (1 : Int32))])) (fun t k => XS.iload X123.here hx rfl (hb hby at_187) rfl k) ?_
  have hc125 : sz2_121 = cn2_121 := by
    exact Int32.toInt_inj.mp (by rw [r121_1, r121_2])
  refine own_st (B := T123.setTop (mkF m 192 #[.val (.int arg0), .val (.int arg1), .val (.int arg2), .val (.int arg3), .val (.int arg4), .val (.int arg5), .val (.int v1), .val (.ref b2), .val (.ref b16), .val (.ref b18), .val (.ref pa), .val (.int (1 : Int32)), .val (.int cn2_121), .unset] [(.int (1 : Int32))])) (fun t k => XS.icmpNo X123.here hx rfl (hb hby at_189) rfl (XT.ii_ne_f hc125) k) ?_
  refine own_st (B := T123.setTop (mkF m 193 #[.val (.int arg0), .val (.int arg1), .val (.int arg2), .val (.int arg3), .val (.int arg4), .val (.int arg5), .val (.int v1), .val (.ref b2), .val (.ref b16), .val (.ref b18), .val (.ref pa), .val (.int (1 : Int32)), .val (.int cn2_121), .unset] [(.int (1 : Int32)), (.int (1 : Int32))])) (fun t k => XS.iconst X123.here hx rfl (hb hby at_192) k) ?_
  refine own_st (B := T123.setTop (mkF m 197 #[.val (.int arg0), .val (.int arg1), .val (.int arg2), .val (.int arg3), .val (.int arg4), .val (.int arg5), .val (.int v1), .val (.ref b2), .val (.ref b16), .val (.ref b18), .val (.ref pa), .val (.int (1 : Int32)), .val (.int cn2_121), .unset] [(.int (1 : Int32)), (.int (1 : Int32))])) (fun t k => XS.goto X123.here hx rfl (pc0 := 193) (pc' := 197) rfl (hb hby at_193) (by decide) (by decide) k) ?_
  refine own_st (B := T123.setTop (mkF m 198 #[.val (.int arg0), .val (.int arg1), .val (.int arg2), .val (.int arg3), .val (.int arg4), .val (.int arg5), .val (.int v1), .val (.ref b2), .val (.ref b16), .val (.ref b18), .val (.ref pa), .val (.int (1 : Int32)), .val (.int cn2_121), .unset] [(.int ((1 : Int32) &&& (1 : Int32)))])) (fun t k => XS.iand X123.here hx rfl (hb hby at_197) rfl k) ?_
  rw [show ((1 : Int32) &&& (1 : Int32)) = (1 : Int32) from by decide]
  refine own_st (B := T123.setTop (mkF m 200 #[.val (.int arg0), .val (.int arg1), .val (.int arg2), .val (.int arg3), .val (.int arg4), .val (.int arg5), .val (.int v1), .val (.ref b2), .val (.ref b16), .val (.ref b18), .val (.ref pa), .val (.int (1 : Int32)), .val (.int cn2_121), .unset] [])) (fun t k => XS.istore X123.here hx rfl (hb hby at_198) rfl (l' := #[.val (.int arg0), .val (.int arg1), .val (.int arg2), .val (.int arg3), .val (.int arg4), .val (.int arg5), .val (.int v1), .val (.ref b2), .val (.ref b16), .val (.ref b18), .val (.ref pa), .val (.int (1 : Int32)), .val (.int cn2_121), .unset]) rfl k) ?_
  refine own_st (B := T123.setTop (mkF m 202 #[.val (.int arg0), .val (.int arg1), .val (.int arg2), .val (.int arg3), .val (.int arg4), .val (.int arg5), .val (.int v1), .val (.ref b2), .val (.ref b16), .val (.ref b18), .val (.ref pa), .val (.int (1 : Int32)), .val (.int cn2_121), .unset] [(.ref pa)])) (fun t k => XS.aload X123.here hx rfl (hb hby at_200) rfl rfl k) ?_
  obtain ⟨cq126, kq126, q126a, q126b, q126c⟩ := isOf hZ e123q f124
  obtain ⟨_, _, ⟨T126, L126, k126, j126⟩, -, X126, ⟨Lc126, hQ126, l126, y126_, z126_⟩, st126⟩ := X123.virtualBack hx (y := (⟨"com/example/relayframe/relayframe/Palette", "colours", "()[I"⟩ : MethodName)) (z := (⟨"com/example/relayframe/relayframe/Palette", "colours", "()[I"⟩ : MethodName)) hown (mvT hZ (w_53 hw)) (mvT hZ (w_54 hw)) (notFace_of_selects (args := #[]) (mvT hZ (w_56 hw))) (mvT hZ (w_56 hw)) (mvT hZ (w_55 hw)) (by decide) (backOf (W := 0) (rm10 l Z a0 hw [] pa ac T121.heap n0 z122 p121_0) hZ (w_57 hw) (w_3 hw) (by decide) (by decide)) q126a q126c (g := (mkF m 202 #[.val (.int arg0), .val (.int arg1), .val (.int arg2), .val (.int arg3), .val (.int arg4), .val (.int arg5), .val (.int v1), .val (.ref b2), .val (.ref b16), .val (.ref b18), .val (.ref pa), .val (.int (1 : Int32)), .val (.int cn2_121), .unset] [(.ref pa)])) rfl (by rw [hml]; rfl) (Steps.refl _) (argsL := []) (rest := []) (lenOf own_pd11 rfl) rfl (by show 2 * 0 + _ ≤ _; exact Nat.le_of_eq rfl) (hb hby at_202) (fun _ _ => ⟨rfl, e123q, (by decide : 7 + 0 ≤ _), (by decide : 35 + 0 ≤ _)⟩)
  dsimp only [Pt.U, Pt.locs, Pt.cells, Pt.slots] at X126 l126 y126_ z126_ st126 hQ126
  subst l126 y126_ z126_
  obtain ⟨rfl, N126q, e126q⟩ := hQ126
  have N126 := Fr.app N123 N126q
  refine own_ss (B := T126.setTop (mkF m 205 #[.val (.int arg0), .val (.int arg1), .val (.int arg2), .val (.int arg3), .val (.int arg4), .val (.int arg5), .val (.int v1), .val (.ref b2), .val (.ref b16), .val (.ref b18), .val (.ref pa), .val (.int (1 : Int32)), .val (.int cn2_121), .unset] [(.ref ac)])) st126 ?_
  refine own_st (B := T126.setTop (mkF m 207 #[.val (.int arg0), .val (.int arg1), .val (.int arg2), .val (.int arg3), .val (.int arg4), .val (.int arg5), .val (.int v1), .val (.ref b2), .val (.ref b16), .val (.ref b18), .val (.ref pa), .val (.int (1 : Int32)), .val (.int cn2_121), .val (.ref ac)] [])) (fun t k => XS.astore X126.here hx rfl (hb hby at_205) rfl rfl (l' := #[.val (.int arg0), .val (.int arg1), .val (.int arg2), .val (.int arg3), .val (.int arg4), .val (.int arg5), .val (.int v1), .val (.ref b2), .val (.ref b16), .val (.ref b18), .val (.ref pa), .val (.int (1 : Int32)), .val (.int cn2_121), .val (.ref ac)]) rfl k) ?_
  refine own_st (B := T126.setTop (mkF m 209 #[.val (.int arg0), .val (.int arg1), .val (.int arg2), .val (.int arg3), .val (.int arg4), .val (.int arg5), .val (.int v1), .val (.ref b2), .val (.ref b16), .val (.ref b18), .val (.ref pa), .val (.int (1 : Int32)), .val (.int cn2_121), .val (.ref ac)] [(.int (1 : Int32))])) (fun t k => XS.iload X126.here hx rfl (hb hby at_207) rfl k) ?_
  refine own_st (B := T126.setTop (mkF m 211 #[.val (.int arg0), .val (.int arg1), .val (.int arg2), .val (.int arg3), .val (.int arg4), .val (.int arg5), .val (.int v1), .val (.ref b2), .val (.ref b16), .val (.ref b18), .val (.ref pa), .val (.int (1 : Int32)), .val (.int cn2_121), .val (.ref ac)] [(.ref ac), (.int (1 : Int32))])) (fun t k => XS.aload X126.here hx rfl (hb hby at_209) rfl rfl k) ?_
  refine own_st (B := T126.setTop (mkF m 213 #[.val (.int arg0), .val (.int arg1), .val (.int arg2), .val (.int arg3), .val (.int arg4), .val (.int arg5), .val (.int v1), .val (.ref b2), .val (.ref b16), .val (.ref b18), .val (.ref pa), .val (.int (1 : Int32)), .val (.int cn2_121), .val (.ref ac)] [(.ref b16), (.ref ac), (.int (1 : Int32))])) (fun t k => XS.aload X126.here hx rfl (hb hby at_211) rfl rfl k) ?_
  refine own_st (B := T126.setTop (mkF m 215 #[.val (.int arg0), .val (.int arg1), .val (.int arg2), .val (.int arg3), .val (.int arg4), .val (.int arg5), .val (.int v1), .val (.ref b2), .val (.ref b16), .val (.ref b18), .val (.ref pa), .val (.int (1 : Int32)), .val (.int cn2_121), .val (.ref ac)] [(.int cn2_121), (.ref b16), (.ref ac), (.int (1 : Int32))])) (fun t k => XS.iload X126.here hx rfl (hb hby at_213) rfl k) ?_
  refine own_st (B := T126.setTop (mkF m 216 #[.val (.int arg0), .val (.int arg1), .val (.int arg2), .val (.int arg3), .val (.int arg4), .val (.int arg5), .val (.int v1), .val (.ref b2), .val (.ref b16), .val (.ref b18), .val (.ref pa), .val (.int (1 : Int32)), .val (.int cn2_121), .val (.ref ac)] [(.int (0 : Int32)), (.int cn2_121), (.ref b16), (.ref ac), (.int (1 : Int32))])) (fun t k => XS.iconst X126.here hx rfl (hb hby at_215) k) ?_
  obtain ⟨_, _, ⟨T127, L127, k127, j127⟩, -, X127, ⟨Lc127, hQ127, l127, y127_, z127_⟩, st127⟩ := Jvm.LawKit.callS X126 hx (y := (⟨"com/example/relayframe/relayframe/PaletteIndexOfPinLaw", "sameAt", "([I[III)Z"⟩ : MethodName)) hown (mvT hZ (w_58 hw)) (mvT hZ (w_59 hw)) (mvT hZ (w_37 hw)) (mvT hZ (w_60 hw)) (by decide) (backOf (W := 1) (rm11 l Z a0 hw [] ac b16 cn2_121 (0 : Int32) CO2_121 SE2_121 n2_121 cap 0 T121.heap n0 z122 p121_5 p121_8 (show (0 : Int32).toInt = (0 : Int) by decide) r121_2 r121_0.1.1 r121_4 ⟨r121_0.1.2.2.2, hcap.2⟩ r121_3) hZ (w_60 hw) (w_37 hw) (by decide) (by decide)) (g := (mkF m 216 #[.val (.int arg0), .val (.int arg1), .val (.int arg2), .val (.int arg3), .val (.int arg4), .val (.int arg5), .val (.int v1), .val (.ref b2), .val (.ref b16), .val (.ref b18), .val (.ref pa), .val (.int (1 : Int32)), .val (.int cn2_121), .val (.ref ac)] [(.int (0 : Int32)), (.int cn2_121), (.ref b16), (.ref ac), (.int (1 : Int32))])) rfl (by rw [hml]; rfl) (argsL := [(.ref ac), (.ref b16), (.int cn2_121), (.int (0 : Int32))]) (rest := [(.int (1 : Int32))]) (lenOf own_pd12 rfl) rfl (by show 2 * 0 + _ ≤ _; exact Nat.le_of_eq rfl) (hb hby at_216) (fun _ _ => ⟨rfl, e126q, (by decide : 7 + 0 ≤ _), (by decide : 35 + 0 ≤ _)⟩)
  dsimp only [Pt.U, Pt.locs, Pt.cells, Pt.slots] at X127 l127 y127_ z127_ st127 hQ127
  subst l127 y127_ z127_
  obtain ⟨rfl, N127q, e127q⟩ := hQ127
  have N127 := Fr.app N126 N127q
  refine own_st (B := T127.setTop (mkF m 219 #[.val (.int arg0), .val (.int arg1), .val (.int arg2), .val (.int arg3), .val (.int arg4), .val (.int arg5), .val (.int v1), .val (.ref b2), .val (.ref b16), .val (.ref b18), .val (.ref pa), .val (.int (1 : Int32)), .val (.int cn2_121), .val (.ref ac)] [(.int (1 : Int32)), (.int (1 : Int32))])) (fun t k => st127 t k) ?_
  refine own_st (B := T127.setTop (mkF m 220 #[.val (.int arg0), .val (.int arg1), .val (.int arg2), .val (.int arg3), .val (.int arg4), .val (.int arg5), .val (.int v1), .val (.ref b2), .val (.ref b16), .val (.ref b18), .val (.ref pa), .val (.int (1 : Int32)), .val (.int cn2_121), .val (.ref ac)] [(.int ((1 : Int32) &&& (1 : Int32)))])) (fun t k => XS.iand X127.here hx rfl (hb hby at_219) rfl k) ?_
  rw [show ((1 : Int32) &&& (1 : Int32)) = (1 : Int32) from by decide]
  refine own_st (B := T127.setTop (mkF m 222 #[.val (.int arg0), .val (.int arg1), .val (.int arg2), .val (.int arg3), .val (.int arg4), .val (.int arg5), .val (.int v1), .val (.ref b2), .val (.ref b16), .val (.ref b18), .val (.ref pa), .val (.int (1 : Int32)), .val (.int cn2_121), .val (.ref ac)] [])) (fun t k => XS.istore X127.here hx rfl (hb hby at_220) rfl (l' := #[.val (.int arg0), .val (.int arg1), .val (.int arg2), .val (.int arg3), .val (.int arg4), .val (.int arg5), .val (.int v1), .val (.ref b2), .val (.ref b16), .val (.ref b18), .val (.ref pa), .val (.int (1 : Int32)), .val (.int cn2_121), .val (.ref ac)]) rfl k) ?_
  refine own_st (B := T127.setTop (mkF m 224 #[.val (.int arg0), .val (.int arg1), .val (.int arg2), .val (.int arg3), .val (.int arg4), .val (.int arg5), .val (.int v1), .val (.ref b2), .val (.ref b16), .val (.ref b18), .val (.ref pa), .val (.int (1 : Int32)), .val (.int cn2_121), .val (.ref ac)] [(.int (1 : Int32))])) (fun t k => XS.iload X127.here hx rfl (hb hby at_222) rfl k) ?_
  refine own_st (B := T127.setTop (mkF m 226 #[.val (.int arg0), .val (.int arg1), .val (.int arg2), .val (.int arg3), .val (.int arg4), .val (.int arg5), .val (.int v1), .val (.ref b2), .val (.ref b16), .val (.ref b18), .val (.ref pa), .val (.int (1 : Int32)), .val (.int cn2_121), .val (.ref ac)] [(.ref ac), (.int (1 : Int32))])) (fun t k => XS.aload X127.here hx rfl (hb hby at_224) rfl rfl k) ?_
  refine own_st (B := T127.setTop (mkF m 228 #[.val (.int arg0), .val (.int arg1), .val (.int arg2), .val (.int arg3), .val (.int arg4), .val (.int arg5), .val (.int v1), .val (.ref b2), .val (.ref b16), .val (.ref b18), .val (.ref pa), .val (.int (1 : Int32)), .val (.int cn2_121), .val (.ref ac)] [(.ref b16), (.ref ac), (.int (1 : Int32))])) (fun t k => XS.aload X127.here hx rfl (hb hby at_226) rfl rfl k) ?_
  refine own_st (B := T127.setTop (mkF m 230 #[.val (.int arg0), .val (.int arg1), .val (.int arg2), .val (.int arg3), .val (.int arg4), .val (.int arg5), .val (.int v1), .val (.ref b2), .val (.ref b16), .val (.ref b18), .val (.ref pa), .val (.int (1 : Int32)), .val (.int cn2_121), .val (.ref ac)] [(.int cn2_121), (.ref b16), (.ref ac), (.int (1 : Int32))])) (fun t k => XS.iload X127.here hx rfl (hb hby at_228) rfl k) ?_
  refine own_st (B := T127.setTop (mkF m 231 #[.val (.int arg0), .val (.int arg1), .val (.int arg2), .val (.int arg3), .val (.int arg4), .val (.int arg5), .val (.int v1), .val (.ref b2), .val (.ref b16), .val (.ref b18), .val (.ref pa), .val (.int (1 : Int32)), .val (.int cn2_121), .val (.ref ac)] [(.int (1 : Int32)), (.int cn2_121), (.ref b16), (.ref ac), (.int (1 : Int32))])) (fun t k => XS.iconst X127.here hx rfl (hb hby at_230) k) ?_
  obtain ⟨_, _, ⟨T128, L128, k128, j128⟩, -, X128, ⟨Lc128, hQ128, l128, y128_, z128_⟩, st128⟩ := Jvm.LawKit.callS X127 hx (y := (⟨"com/example/relayframe/relayframe/PaletteIndexOfPinLaw", "sameAt", "([I[III)Z"⟩ : MethodName)) hown (mvT hZ (w_58 hw)) (mvT hZ (w_59 hw)) (mvT hZ (w_37 hw)) (mvT hZ (w_60 hw)) (by decide) (backOf (W := 1) (rm11 l Z a0 hw [] ac b16 cn2_121 (1 : Int32) CO2_121 SE2_121 n2_121 cap 1 T121.heap n0 z122 p121_5 p121_8 (show (1 : Int32).toInt = (1 : Int) by decide) r121_2 r121_0.1.1 r121_4 ⟨r121_0.1.2.2.2, hcap.2⟩ r121_3) hZ (w_60 hw) (w_37 hw) (by decide) (by decide)) (g := (mkF m 231 #[.val (.int arg0), .val (.int arg1), .val (.int arg2), .val (.int arg3), .val (.int arg4), .val (.int arg5), .val (.int v1), .val (.ref b2), .val (.ref b16), .val (.ref b18), .val (.ref pa), .val (.int (1 : Int32)), .val (.int cn2_121), .val (.ref ac)] [(.int (1 : Int32)), (.int cn2_121), (.ref b16), (.ref ac), (.int (1 : Int32))])) rfl (by rw [hml]; rfl) (argsL := [(.ref ac), (.ref b16), (.int cn2_121), (.int (1 : Int32))]) (rest := [(.int (1 : Int32))]) (lenOf own_pd12 rfl) rfl (by show 2 * 0 + _ ≤ _; exact Nat.le_of_eq rfl) (hb hby at_231) (fun _ _ => ⟨rfl, e127q, (by decide : 7 + 0 ≤ _), (by decide : 35 + 0 ≤ _)⟩)
  dsimp only [Pt.U, Pt.locs, Pt.cells, Pt.slots] at X128 l128 y128_ z128_ st128 hQ128
  subst l128 y128_ z128_
  obtain ⟨rfl, N128q, e128q⟩ := hQ128
  have N128 := Fr.app N127 N128q
  refine own_st (B := T128.setTop (mkF m 234 #[.val (.int arg0), .val (.int arg1), .val (.int arg2), .val (.int arg3), .val (.int arg4), .val (.int arg5), .val (.int v1), .val (.ref b2), .val (.ref b16), .val (.ref b18), .val (.ref pa), .val (.int (1 : Int32)), .val (.int cn2_121), .val (.ref ac)] [(.int (1 : Int32)), (.int (1 : Int32))])) (fun t k => st128 t k) ?_
  refine own_st (B := T128.setTop (mkF m 235 #[.val (.int arg0), .val (.int arg1), .val (.int arg2), .val (.int arg3), .val (.int arg4), .val (.int arg5), .val (.int v1), .val (.ref b2), .val (.ref b16), .val (.ref b18), .val (.ref pa), .val (.int (1 : Int32)), .val (.int cn2_121), .val (.ref ac)] [(.int ((1 : Int32) &&& (1 : Int32)))])) (fun t k => XS.iand X128.here hx rfl (hb hby at_234) rfl k) ?_
  rw [show ((1 : Int32) &&& (1 : Int32)) = (1 : Int32) from by decide]
  refine own_st (B := T128.setTop (mkF m 237 #[.val (.int arg0), .val (.int arg1), .val (.int arg2), .val (.int arg3), .val (.int arg4), .val (.int arg5), .val (.int v1), .val (.ref b2), .val (.ref b16), .val (.ref b18), .val (.ref pa), .val (.int (1 : Int32)), .val (.int cn2_121), .val (.ref ac)] [])) (fun t k => XS.istore X128.here hx rfl (hb hby at_235) rfl (l' := #[.val (.int arg0), .val (.int arg1), .val (.int arg2), .val (.int arg3), .val (.int arg4), .val (.int arg5), .val (.int v1), .val (.ref b2), .val (.ref b16), .val (.ref b18), .val (.ref pa), .val (.int (1 : Int32)), .val (.int cn2_121), .val (.ref ac)]) rfl k) ?_
  refine own_st (B := T128.setTop (mkF m 239 #[.val (.int arg0), .val (.int arg1), .val (.int arg2), .val (.int arg3), .val (.int arg4), .val (.int arg5), .val (.int v1), .val (.ref b2), .val (.ref b16), .val (.ref b18), .val (.ref pa), .val (.int (1 : Int32)), .val (.int cn2_121), .val (.ref ac)] [(.int (1 : Int32))])) (fun t k => XS.iload X128.here hx rfl (hb hby at_237) rfl k) ?_
  refine own_st (B := T128.setTop (mkF m 241 #[.val (.int arg0), .val (.int arg1), .val (.int arg2), .val (.int arg3), .val (.int arg4), .val (.int arg5), .val (.int v1), .val (.ref b2), .val (.ref b16), .val (.ref b18), .val (.ref pa), .val (.int (1 : Int32)), .val (.int cn2_121), .val (.ref ac)] [(.ref ac), (.int (1 : Int32))])) (fun t k => XS.aload X128.here hx rfl (hb hby at_239) rfl rfl k) ?_
  refine own_st (B := T128.setTop (mkF m 243 #[.val (.int arg0), .val (.int arg1), .val (.int arg2), .val (.int arg3), .val (.int arg4), .val (.int arg5), .val (.int v1), .val (.ref b2), .val (.ref b16), .val (.ref b18), .val (.ref pa), .val (.int (1 : Int32)), .val (.int cn2_121), .val (.ref ac)] [(.ref b16), (.ref ac), (.int (1 : Int32))])) (fun t k => XS.aload X128.here hx rfl (hb hby at_241) rfl rfl k) ?_
  refine own_st (B := T128.setTop (mkF m 245 #[.val (.int arg0), .val (.int arg1), .val (.int arg2), .val (.int arg3), .val (.int arg4), .val (.int arg5), .val (.int v1), .val (.ref b2), .val (.ref b16), .val (.ref b18), .val (.ref pa), .val (.int (1 : Int32)), .val (.int cn2_121), .val (.ref ac)] [(.int cn2_121), (.ref b16), (.ref ac), (.int (1 : Int32))])) (fun t k => XS.iload X128.here hx rfl (hb hby at_243) rfl k) ?_
  refine own_st (B := T128.setTop (mkF m 246 #[.val (.int arg0), .val (.int arg1), .val (.int arg2), .val (.int arg3), .val (.int arg4), .val (.int arg5), .val (.int v1), .val (.ref b2), .val (.ref b16), .val (.ref b18), .val (.ref pa), .val (.int (1 : Int32)), .val (.int cn2_121), .val (.ref ac)] [(.int (2 : Int32)), (.int cn2_121), (.ref b16), (.ref ac), (.int (1 : Int32))])) (fun t k => XS.iconst X128.here hx rfl (hb hby at_245) k) ?_
  obtain ⟨_, _, ⟨T129, L129, k129, j129⟩, -, X129, ⟨Lc129, hQ129, l129, y129_, z129_⟩, st129⟩ := Jvm.LawKit.callS X128 hx (y := (⟨"com/example/relayframe/relayframe/PaletteIndexOfPinLaw", "sameAt", "([I[III)Z"⟩ : MethodName)) hown (mvT hZ (w_58 hw)) (mvT hZ (w_59 hw)) (mvT hZ (w_37 hw)) (mvT hZ (w_60 hw)) (by decide) (backOf (W := 1) (rm11 l Z a0 hw [] ac b16 cn2_121 (2 : Int32) CO2_121 SE2_121 n2_121 cap 2 T121.heap n0 z122 p121_5 p121_8 (show (2 : Int32).toInt = (2 : Int) by decide) r121_2 r121_0.1.1 r121_4 ⟨r121_0.1.2.2.2, hcap.2⟩ r121_3) hZ (w_60 hw) (w_37 hw) (by decide) (by decide)) (g := (mkF m 246 #[.val (.int arg0), .val (.int arg1), .val (.int arg2), .val (.int arg3), .val (.int arg4), .val (.int arg5), .val (.int v1), .val (.ref b2), .val (.ref b16), .val (.ref b18), .val (.ref pa), .val (.int (1 : Int32)), .val (.int cn2_121), .val (.ref ac)] [(.int (2 : Int32)), (.int cn2_121), (.ref b16), (.ref ac), (.int (1 : Int32))])) rfl (by rw [hml]; rfl) (argsL := [(.ref ac), (.ref b16), (.int cn2_121), (.int (2 : Int32))]) (rest := [(.int (1 : Int32))]) (lenOf own_pd12 rfl) rfl (by show 2 * 0 + _ ≤ _; exact Nat.le_of_eq rfl) (hb hby at_246) (fun _ _ => ⟨rfl, e128q, (by decide : 7 + 0 ≤ _), (by decide : 35 + 0 ≤ _)⟩)
  dsimp only [Pt.U, Pt.locs, Pt.cells, Pt.slots] at X129 l129 y129_ z129_ st129 hQ129
  subst l129 y129_ z129_
  obtain ⟨rfl, N129q, e129q⟩ := hQ129
  have N129 := Fr.app N128 N129q
  refine own_st (B := T129.setTop (mkF m 249 #[.val (.int arg0), .val (.int arg1), .val (.int arg2), .val (.int arg3), .val (.int arg4), .val (.int arg5), .val (.int v1), .val (.ref b2), .val (.ref b16), .val (.ref b18), .val (.ref pa), .val (.int (1 : Int32)), .val (.int cn2_121), .val (.ref ac)] [(.int (1 : Int32)), (.int (1 : Int32))])) (fun t k => st129 t k) ?_
  refine own_st (B := T129.setTop (mkF m 250 #[.val (.int arg0), .val (.int arg1), .val (.int arg2), .val (.int arg3), .val (.int arg4), .val (.int arg5), .val (.int v1), .val (.ref b2), .val (.ref b16), .val (.ref b18), .val (.ref pa), .val (.int (1 : Int32)), .val (.int cn2_121), .val (.ref ac)] [(.int ((1 : Int32) &&& (1 : Int32)))])) (fun t k => XS.iand X129.here hx rfl (hb hby at_249) rfl k) ?_
  rw [show ((1 : Int32) &&& (1 : Int32)) = (1 : Int32) from by decide]
  refine own_st (B := T129.setTop (mkF m 252 #[.val (.int arg0), .val (.int arg1), .val (.int arg2), .val (.int arg3), .val (.int arg4), .val (.int arg5), .val (.int v1), .val (.ref b2), .val (.ref b16), .val (.ref b18), .val (.ref pa), .val (.int (1 : Int32)), .val (.int cn2_121), .val (.ref ac)] [])) (fun t k => XS.istore X129.here hx rfl (hb hby at_250) rfl (l' := #[.val (.int arg0), .val (.int arg1), .val (.int arg2), .val (.int arg3), .val (.int arg4), .val (.int arg5), .val (.int v1), .val (.ref b2), .val (.ref b16), .val (.ref b18), .val (.ref pa), .val (.int (1 : Int32)), .val (.int cn2_121), .val (.ref ac)]) rfl k) ?_
  refine own_st (B := T129.setTop (mkF m 254 #[.val (.int arg0), .val (.int arg1), .val (.int arg2), .val (.int arg3), .val (.int arg4), .val (.int arg5), .val (.int v1), .val (.ref b2), .val (.ref b16), .val (.ref b18), .val (.ref pa), .val (.int (1 : Int32)), .val (.int cn2_121), .val (.ref ac)] [(.int (1 : Int32))])) (fun t k => XS.iload X129.here hx rfl (hb hby at_252) rfl k) ?_
  refine own_st (B := T129.setTop (mkF m 256 #[.val (.int arg0), .val (.int arg1), .val (.int arg2), .val (.int arg3), .val (.int arg4), .val (.int arg5), .val (.int v1), .val (.ref b2), .val (.ref b16), .val (.ref b18), .val (.ref pa), .val (.int (1 : Int32)), .val (.int cn2_121), .val (.ref ac)] [(.ref ac), (.int (1 : Int32))])) (fun t k => XS.aload X129.here hx rfl (hb hby at_254) rfl rfl k) ?_
  refine own_st (B := T129.setTop (mkF m 258 #[.val (.int arg0), .val (.int arg1), .val (.int arg2), .val (.int arg3), .val (.int arg4), .val (.int arg5), .val (.int v1), .val (.ref b2), .val (.ref b16), .val (.ref b18), .val (.ref pa), .val (.int (1 : Int32)), .val (.int cn2_121), .val (.ref ac)] [(.ref b16), (.ref ac), (.int (1 : Int32))])) (fun t k => XS.aload X129.here hx rfl (hb hby at_256) rfl rfl k) ?_
  refine own_st (B := T129.setTop (mkF m 260 #[.val (.int arg0), .val (.int arg1), .val (.int arg2), .val (.int arg3), .val (.int arg4), .val (.int arg5), .val (.int v1), .val (.ref b2), .val (.ref b16), .val (.ref b18), .val (.ref pa), .val (.int (1 : Int32)), .val (.int cn2_121), .val (.ref ac)] [(.int cn2_121), (.ref b16), (.ref ac), (.int (1 : Int32))])) (fun t k => XS.iload X129.here hx rfl (hb hby at_258) rfl k) ?_
  refine own_st (B := T129.setTop (mkF m 261 #[.val (.int arg0), .val (.int arg1), .val (.int arg2), .val (.int arg3), .val (.int arg4), .val (.int arg5), .val (.int v1), .val (.ref b2), .val (.ref b16), .val (.ref b18), .val (.ref pa), .val (.int (1 : Int32)), .val (.int cn2_121), .val (.ref ac)] [(.int (3 : Int32)), (.int cn2_121), (.ref b16), (.ref ac), (.int (1 : Int32))])) (fun t k => XS.iconst X129.here hx rfl (hb hby at_260) k) ?_
  obtain ⟨_, _, ⟨T130, L130, k130, j130⟩, -, X130, ⟨Lc130, hQ130, l130, y130_, z130_⟩, st130⟩ := Jvm.LawKit.callS X129 hx (y := (⟨"com/example/relayframe/relayframe/PaletteIndexOfPinLaw", "sameAt", "([I[III)Z"⟩ : MethodName)) hown (mvT hZ (w_58 hw)) (mvT hZ (w_59 hw)) (mvT hZ (w_37 hw)) (mvT hZ (w_60 hw)) (by decide) (backOf (W := 1) (rm11 l Z a0 hw [] ac b16 cn2_121 (3 : Int32) CO2_121 SE2_121 n2_121 cap 3 T121.heap n0 z122 p121_5 p121_8 (show (3 : Int32).toInt = (3 : Int) by decide) r121_2 r121_0.1.1 r121_4 ⟨r121_0.1.2.2.2, hcap.2⟩ r121_3) hZ (w_60 hw) (w_37 hw) (by decide) (by decide)) (g := (mkF m 261 #[.val (.int arg0), .val (.int arg1), .val (.int arg2), .val (.int arg3), .val (.int arg4), .val (.int arg5), .val (.int v1), .val (.ref b2), .val (.ref b16), .val (.ref b18), .val (.ref pa), .val (.int (1 : Int32)), .val (.int cn2_121), .val (.ref ac)] [(.int (3 : Int32)), (.int cn2_121), (.ref b16), (.ref ac), (.int (1 : Int32))])) rfl (by rw [hml]; rfl) (argsL := [(.ref ac), (.ref b16), (.int cn2_121), (.int (3 : Int32))]) (rest := [(.int (1 : Int32))]) (lenOf own_pd12 rfl) rfl (by show 2 * 0 + _ ≤ _; exact Nat.le_of_eq rfl) (hb hby at_261) (fun _ _ => ⟨rfl, e129q, (by decide : 7 + 0 ≤ _), (by decide : 35 + 0 ≤ _)⟩)
  dsimp only [Pt.U, Pt.locs, Pt.cells, Pt.slots] at X130 l130 y130_ z130_ st130 hQ130
  subst l130 y130_ z130_
  obtain ⟨rfl, N130q, e130q⟩ := hQ130
  have N130 := Fr.app N129 N130q
  refine own_st (B := T130.setTop (mkF m 264 #[.val (.int arg0), .val (.int arg1), .val (.int arg2), .val (.int arg3), .val (.int arg4), .val (.int arg5), .val (.int v1), .val (.ref b2), .val (.ref b16), .val (.ref b18), .val (.ref pa), .val (.int (1 : Int32)), .val (.int cn2_121), .val (.ref ac)] [(.int (1 : Int32)), (.int (1 : Int32))])) (fun t k => st130 t k) ?_
  refine own_st (B := T130.setTop (mkF m 265 #[.val (.int arg0), .val (.int arg1), .val (.int arg2), .val (.int arg3), .val (.int arg4), .val (.int arg5), .val (.int v1), .val (.ref b2), .val (.ref b16), .val (.ref b18), .val (.ref pa), .val (.int (1 : Int32)), .val (.int cn2_121), .val (.ref ac)] [(.int ((1 : Int32) &&& (1 : Int32)))])) (fun t k => XS.iand X130.here hx rfl (hb hby at_264) rfl k) ?_
  rw [show ((1 : Int32) &&& (1 : Int32)) = (1 : Int32) from by decide]
  refine own_st (B := T130.setTop (mkF m 267 #[.val (.int arg0), .val (.int arg1), .val (.int arg2), .val (.int arg3), .val (.int arg4), .val (.int arg5), .val (.int v1), .val (.ref b2), .val (.ref b16), .val (.ref b18), .val (.ref pa), .val (.int (1 : Int32)), .val (.int cn2_121), .val (.ref ac)] [])) (fun t k => XS.istore X130.here hx rfl (hb hby at_265) rfl (l' := #[.val (.int arg0), .val (.int arg1), .val (.int arg2), .val (.int arg3), .val (.int arg4), .val (.int arg5), .val (.int v1), .val (.ref b2), .val (.ref b16), .val (.ref b18), .val (.ref pa), .val (.int (1 : Int32)), .val (.int cn2_121), .val (.ref ac)]) rfl k) ?_
  refine own_st (B := T130.setTop (mkF m 269 #[.val (.int arg0), .val (.int arg1), .val (.int arg2), .val (.int arg3), .val (.int arg4), .val (.int arg5), .val (.int v1), .val (.ref b2), .val (.ref b16), .val (.ref b18), .val (.ref pa), .val (.int (1 : Int32)), .val (.int cn2_121), .val (.ref ac)] [(.int (1 : Int32))])) (fun t k => XS.iload X130.here hx rfl (hb hby at_267) rfl k) ?_
  refine own_retN X130 hx hlk (t := .boolean) Bd.returns (by simp) (z' := (1 : Int32)) rfl (hb hby at_269) (by decide) (by decide) ?_
  show Q0 Z arg0 arg1 arg2 arg3 arg4 arg5 h0 n0 _ T130.heap _
  rw [e130q]
  exact ⟨rfl, N130⟩
set_option maxHeartbeats 40000000 in
theorem comes_1 {Post : Tables → Env → Array Value → State → Outcome → State → Prop} (hpost : ∀ tb e args s v u, (limb_1_1.after args s (.returned v) u = true ∧ limb_1_2.after args s (.returned v) u = true ∧ True) → FrameEnd s (.returned v) u (Jvm.fieldLocs frame_1_writes args s ++ Jvm.arrayLocs frame_1_arrays args s ++ Jvm.staticLocs frame_1_statics s) 24 192 → Post tb e args s (.returned v) u) :
    ArmFor flags0 classFile x code maxLocals ret World_1 tables_1 room_1 Calls_1 rest_1 Pre_1 Post := by
  intro l hfl _ _ p e ha hc hk s m args below hf hA hF happ hP
  obtain ⟨hcalls, hrest, hpre⟩ := hP
  obtain ⟨-, -, -, hnamed, -, -, -, hat⟩ := (Spec.applies_iff hf).mp happ
  obtain ⟨hg, hn⟩ := and_e (Cond.before_iff.mp (show (Jvm.Cond.and given_1 narrow_1).before args s = true from hpre))
  obtain ⟨g1a, g1b⟩ := and_e hg
  obtain ⟨g2a, g2b⟩ := and_e g1b
  obtain ⟨g3a, g3b⟩ := and_e g2b
  obtain ⟨g4a, g4b⟩ := and_e g3b
  obtain ⟨g5a, g5b⟩ := and_e g4b
  obtain ⟨g6a, g6b⟩ := and_e g5b
  obtain ⟨w0, w1, w2, w3, w4, w5, rfl⟩ : ∃ w0 w1 w2 w3 w4 w5 : Value, args = #[w0, w1, w2, w3, w4, w5] := by
    have hs : args.size = 6 := by simpa [Cond.value, given_1] using g1a
    obtain ⟨L⟩ := args
    match L, hs with
    | [w0, w1, w2, w3, w4, w5], _ => exact ⟨w0, w1, w2, w3, w4, w5, rfl⟩
  have hw := fun d (hd : d ∈ tables_1) => atoms_spec (ws := Jvm.Cond.code x code maxLocals ret :: tables_1) hat d (List.mem_cons_of_mem _ hd)
  have hfit : Fit s := fun {y c} hc i hi => by
    obtain ⟨ha, rfl⟩ := Array.getElem?_eq_some_iff.mp hc
    have q := List.all_eq_true.mp ((Array.all_eq_true_iff_forall_mem.mp hF) _ (Array.getElem_mem ha)) i (List.mem_range.mpr hi)
    simpa [Array.getElem?_eq_getElem hi] using q
  obtain ⟨i0, ei0⟩ := is_v g2a
  obtain rfl : w0 = (.int i0) := Option.some.inj ei0
  obtain ⟨i1, ei1⟩ := is_v g3a
  obtain rfl : w1 = (.int i1) := Option.some.inj ei1
  obtain ⟨i2, ei2⟩ := is_v g4a
  obtain rfl : w2 = (.int i2) := Option.some.inj ei2
  obtain ⟨i3, ei3⟩ := is_v g5a
  obtain rfl : w3 = (.int i3) := Option.some.inj ei3
  obtain ⟨i4, ei4⟩ := is_v g6a
  obtain rfl : w4 = (.int i4) := Option.some.inj ei4
  obtain ⟨i5, ei5⟩ := is_v g6b
  obtain rfl : w5 = (.int i5) := Option.some.inj ei5
  obtain ⟨n, o, h1, h2, h3, _, L, rfl, ⟨rfl, N⟩, hq⟩ := rm0 l s _ hw tables_1 i0 i1 i2 i3 i4 i5 s.heap s.heap.size (Nat.le_refl _)  p e ha hc hk s m _ below hf ((Spec.applies_iff_loose hf).mp happ).1 ⟨rfl, State.Warmed39.refl s, rfl⟩ trivial
  refine ⟨n, _, h1, h2, h3, hpost _ _ _ _ _ _ ⟨Cond.after_iff.mpr rfl, Cond.after_iff.mpr (eq_i res_at (Term.int_eval (1)) rfl), trivial⟩ ⟨hq.1, hq.2.1, (hq.2.2.sift fun y hy => Or.inr (N y hy)).mono (by decide) (by decide)⟩⟩
theorem main_1_1 : Claimed_1_1 := comes_1 fun _ _ _ _ _ _ h hF => ⟨h.1, hF⟩
theorem main_1_2 : Claimed_1_2 := comes_1 fun _ _ _ _ _ _ h hF => ⟨h.2.1, hF⟩
end Jvm.Pilot.@@N@@
namespace Jvm.Pilot.@@N@@
open Jvm Jvm.ClassFile Sem Op Lib Jvm.Free Jvm.Stand Jvm.Pilot.@@N@@.Jvm.D
/-! MADE BY PROGRAM (witnessworld.py) out of the Statement's table words and the real class files: 17 classes; the members and pool entries that the words name. The judged class is class 1, her method 1. -/
namespace start1
open Jvm.ClassFile
def u (s : String) : CpInfo := .utf8 (stringToUtf16 s)
/-- a pool by its gaps: so many unusable entries, then the entry; so many at the end -/
def gap : Nat → List CpInfo → List CpInfo
  | 0, r => r
  | n + 1, r => .unusable :: gap n r
def poolList (es : List (Nat × CpInfo)) (last : Nat) : List CpInfo := es.foldr (fun e r => gap e.1 (e.2 :: r)) (gap last [])
def pool (es : List (Nat × CpInfo)) (last : Nat) : Array CpInfo := ⟨poolList es last⟩
def fileOf (pool : Array CpInfo) (this : Nat) (attrs : Array Attribute := #[]) (ms : Array MethodInfo := #[]) (fl : Nat := 33) (sup : Nat := 0) (ifs : Array Nat := #[]) (fds : Array FieldInfo := #[]) : ClassFile where
  minorVersion := 0
  majorVersion := 65
  constantPool := pool
  accessFlags := fl
  thisClass := this
  superClass := sup
  interfaces := ifs
  fields := fds
  methods := ms
  attributes := attrs
def plain (name : String) (sup : Option ClassId) : Class where
  name := name
  kind := .ordinary
  loader := none
  accessFlags := 33
  super := sup
  interfaces := #[]
  cf := none
  fields := #[]
  methods := #[]
  instanceTypes := #[]
  staticTypes := #[]
  resolved := #[]
  callSites := []
  init := .initialized
  statics := none
  mirror := none

def pool0 : Array CpInfo := pool [(5, u "<init>"), (0, u "()V"), (1, .class_ 10), (1, u "java/lang/Object")] 113

def k0c0 : Code := { maxStack := 0, maxLocals := 1, code := object_method_1_code, exceptionTable := #[], attributes := #[] }
def k0m0 : Method := { name := "<init>", desc := "()V", sig := { parameters := [], returnType := none }, accessFlags := 1, code := some k0c0 }
/-- java/lang/Object -/
def k0 : Class := { plain "java/lang/Object" none with
  accessFlags := 33
  interfaces := #[]
  cf := some (fileOf pool0 8 #[] #[{ accessFlags := 1, nameIndex := 5, descriptorIndex := 6, attributes := #[] }] 33 0 #[] #[])
  fields := #[]
  methods := #[k0m0]
  instanceTypes := #[]
  staticTypes := #[]
  resolved := Array.replicate 124 none
  statics := none }

def pool1 : Array CpInfo := pool [(2, .class_ 4), (1, u "java/lang/Object"), (0, u "<init>"), (0, u "()V"), (0, .class_ 8), (0, u "com/example/relayframe/relayframe/Palette"), (0, .methodref 7 10), (0, .nameAndType 5 11), (0, u "(I)V"), (0, .methodref 13 14), (0, .class_ 15), (0, .nameAndType 16 17), (0, u "com/example/relayframe/relayframe/PaletteIndexOfPinLaw"), (0, u "step"), (0, u "(Lcom/example/relayframe/relayframe/Palette;I[I[II)Z"), (0, .methodref 7 19), (0, .nameAndType 20 21), (0, u "size"), (0, u "()I"), (0, .methodref 7 23), (0, .nameAndType 24 25), (0, u "colours"), (0, u "()[I"), (0, .methodref 13 27), (0, .nameAndType 28 29), (0, u "sameAt"), (0, u "([I[III)Z"), (0, .methodref 13 31), (0, .nameAndType 32 33), (0, u "expected"), (0, u "([I[III)I"), (0, .methodref 7 35), (0, .nameAndType 36 37), (0, u "indexOf"), (0, u "(I)I"), (2, u "law"), (0, u "(IIIIII)Z")] 5

def k1m0 : Method := { name := "<init>", desc := "()V", sig := { parameters := [], returnType := none }, accessFlags := 1, code := none }
def k1c1 : Code := { maxStack := 6, maxLocals := 14, code := code, exceptionTable := #[], attributes := #[] }
def k1m1 : Method := { name := "law", desc := "(IIIIII)Z", sig := { parameters := [.int, .int, .int, .int, .int, .int], returnType := some .boolean }, accessFlags := 9, code := some k1c1 }
def k1c2 : Code := { maxStack := 4, maxLocals := 5, code := method_3_code, exceptionTable := #[], attributes := #[] }
def k1m2 : Method := { name := "expected", desc := "([I[III)I", sig := { parameters := [(.array .int), (.array .int), .int, .int], returnType := some .int }, accessFlags := 10, code := some k1c2 }
def k1c3 : Code := { maxStack := 4, maxLocals := 6, code := method_4_code, exceptionTable := #[], attributes := #[] }
def k1m3 : Method := { name := "step", desc := "(Lcom/example/relayframe/relayframe/Palette;I[I[II)Z", sig := { parameters := [(.object "com/example/relayframe/relayframe/Palette"), .int, (.array .int), (.array .int), .int], returnType := some .boolean }, accessFlags := 10, code := some k1c3 }
def k1c4 : Code := { maxStack := 3, maxLocals := 4, code := method_5_code, exceptionTable := #[], attributes := #[] }
def k1m4 : Method := { name := "sameAt", desc := "([I[III)Z", sig := { parameters := [(.array .int), (.array .int), .int, .int], returnType := some .boolean }, accessFlags := 10, code := some k1c4 }
/-- com/example/relayframe/relayframe/PaletteIndexOfPinLaw -/
def k1 : Class := { plain "com/example/relayframe/relayframe/PaletteIndexOfPinLaw" (some 0) with
  accessFlags := 49
  interfaces := #[]
  cf := some (fileOf pool1 13 #[] #[{ accessFlags := 1, nameIndex := 5, descriptorIndex := 6, attributes := #[] }, { accessFlags := 9, nameIndex := 40, descriptorIndex := 41, attributes := #[] }, { accessFlags := 10, nameIndex := 32, descriptorIndex := 33, attributes := #[] }, { accessFlags := 10, nameIndex := 16, descriptorIndex := 17, attributes := #[] }, { accessFlags := 10, nameIndex := 28, descriptorIndex := 29, attributes := #[] }] 49 2 #[] #[])
  fields := #[]
  methods := #[k1m0, k1m1, k1m2, k1m3, k1m4]
  instanceTypes := #[]
  staticTypes := #[]
  resolved := Array.replicate 47 none
  statics := none }

def pool2 : Array CpInfo := pool [(1, .methodref 2 3), (0, .class_ 4), (0, .nameAndType 5 6), (0, u "java/lang/Object"), (0, u "<init>"), (0, u "()V"), (0, .fieldref 8 9), (0, .class_ 10), (0, .nameAndType 11 12), (0, u "com/example/relayframe/relayframe/Palette"), (0, u "colours"), (0, u "[I"), (0, .class_ 14), (0, u "java/lang/Integer"), (0, .methodref 13 16), (0, .nameAndType 17 18), (0, u "numberOfLeadingZeros"), (0, u "(I)I"), (0, .fieldref 8 20), (0, .nameAndType 21 22), (0, u "slotBits"), (0, u "I"), (0, .fieldref 8 24), (0, .nameAndType 25 12), (0, u "slotColours"), (0, .fieldref 8 27), (0, .nameAndType 28 29), (0, u "slotIndices"), (0, u "[S"), (0, .methodref 8 31), (0, .nameAndType 32 6), (0, u "clear"), (0, .methodref 34 35), (0, .class_ 36), (0, .nameAndType 37 38), (0, u "java/util/Arrays"), (0, u "fill"), (0, u "([SS)V"), (0, .fieldref 8 40), (0, .nameAndType 41 22), (0, u "size"), (0, .integer 2654435769), (2, u "SPREAD"), (1, u "FREE"), (0, u "S"), (1, u "(I)V"), (2, u "indexOf"), (1, u "()I"), (0, u "()[I")] 6

def k2c0 : Code := { maxStack := 4, maxLocals := 2, code := prog_3_method_1_code, exceptionTable := #[], attributes := #[] }
def k2m0 : Method := { name := "<init>", desc := "(I)V", sig := { parameters := [.int], returnType := none }, accessFlags := 0, code := some k2c0 }
def k2c1 : Code := { maxStack := 2, maxLocals := 1, code := prog_3_method_2_code, exceptionTable := #[], attributes := #[] }
def k2m1 : Method := { name := "clear", desc := "()V", sig := { parameters := [], returnType := none }, accessFlags := 0, code := some k2c1 }
def k2c2 : Code := { maxStack := 5, maxLocals := 4, code := prog_3_method_3_code, exceptionTable := #[], attributes := #[] }
def k2m2 : Method := { name := "indexOf", desc := "(I)I", sig := { parameters := [.int], returnType := some .int }, accessFlags := 0, code := some k2c2 }
def k2c3 : Code := { maxStack := 1, maxLocals := 1, code := prog_3_method_4_code, exceptionTable := #[], attributes := #[] }
def k2m3 : Method := { name := "size", desc := "()I", sig := { parameters := [], returnType := some .int }, accessFlags := 0, code := some k2c3 }
def k2c4 : Code := { maxStack := 1, maxLocals := 1, code := prog_3_method_5_code, exceptionTable := #[], attributes := #[] }
def k2m4 : Method := { name := "colours", desc := "()[I", sig := { parameters := [], returnType := some (.array .int) }, accessFlags := 0, code := some k2c4 }
/-- com/example/relayframe/relayframe/Palette -/
def k2 : Class := { plain "com/example/relayframe/relayframe/Palette" (some 0) with
  accessFlags := 48
  interfaces := #[]
  cf := some (fileOf pool2 8 #[] #[{ accessFlags := 0, nameIndex := 5, descriptorIndex := 50, attributes := #[] }, { accessFlags := 0, nameIndex := 32, descriptorIndex := 6, attributes := #[] }, { accessFlags := 0, nameIndex := 53, descriptorIndex := 18, attributes := #[] }, { accessFlags := 0, nameIndex := 41, descriptorIndex := 55, attributes := #[] }, { accessFlags := 0, nameIndex := 11, descriptorIndex := 56, attributes := #[] }] 48 2 #[] #[{ accessFlags := 26, nameIndex := 45, descriptorIndex := 22, attributes := #[] }, { accessFlags := 26, nameIndex := 47, descriptorIndex := 48, attributes := #[] }, { accessFlags := 18, nameIndex := 11, descriptorIndex := 12, attributes := #[] }, { accessFlags := 18, nameIndex := 21, descriptorIndex := 22, attributes := #[] }, { accessFlags := 18, nameIndex := 25, descriptorIndex := 12, attributes := #[] }, { accessFlags := 18, nameIndex := 28, descriptorIndex := 29, attributes := #[] }, { accessFlags := 2, nameIndex := 41, descriptorIndex := 22, attributes := #[] }])
  fields := #[{ name := "SPREAD", type := .int, accessFlags := 26, slot := 0, constantValue := 0 }, { name := "FREE", type := .short, accessFlags := 26, slot := 1, constantValue := 0 }, { name := "colours", type := (.array .int), accessFlags := 18, slot := 0, constantValue := 0 }, { name := "slotBits", type := .int, accessFlags := 18, slot := 1, constantValue := 0 }, { name := "slotColours", type := (.array .int), accessFlags := 18, slot := 2, constantValue := 0 }, { name := "slotIndices", type := (.array .short), accessFlags := 18, slot := 3, constantValue := 0 }, { name := "size", type := .int, accessFlags := 2, slot := 4, constantValue := 0 }]
  methods := #[k2m0, k2m1, k2m2, k2m3, k2m4]
  instanceTypes := #[(.array .int), .int, (.array .int), (.array .short), .int]
  staticTypes := #[.int, .short]
  resolved := Array.replicate 63 none
  statics := none }

def pool3 : Array CpInfo := pool [(1, .class_ 2), (0, u "java/io/Serializable"), (0, .class_ 4), (0, u "java/lang/Object")] 2

/-- java/io/Serializable -/
def k3 : Class := { plain "java/io/Serializable" (some 0) with
  accessFlags := 1537
  interfaces := #[]
  cf := some (fileOf pool3 1 #[] #[] 1537 3 #[] #[])
  fields := #[]
  methods := #[]
  instanceTypes := #[]
  staticTypes := #[]
  resolved := Array.replicate 7 none
  statics := none }

def pool4 : Array CpInfo := pool [(2, .class_ 4), (1, u "java/lang/Object"), (0, u "<init>"), (0, u "()V"), (1, .class_ 10), (1, u "java/lang/Number"), (2, .class_ 14), (0, u "java/io/Serializable"), (0, u "serialVersionUID"), (0, u "J")] 20

def k4m0 : Method := { name := "<init>", desc := "()V", sig := { parameters := [], returnType := none }, accessFlags := 1, code := none }
/-- java/lang/Number -/
def k4 : Class := { plain "java/lang/Number" (some 0) with
  accessFlags := 1057
  interfaces := #[3]
  cf := some (fileOf pool4 8 #[] #[{ accessFlags := 1, nameIndex := 5, descriptorIndex := 6, attributes := #[] }] 1057 2 #[13] #[{ accessFlags := 26, nameIndex := 15, descriptorIndex := 16, attributes := #[] }])
  fields := #[{ name := "serialVersionUID", type := .long, accessFlags := 26, slot := 0, constantValue := 0 }]
  methods := #[k4m0]
  instanceTypes := #[]
  staticTypes := #[.long]
  resolved := Array.replicate 37 none
  statics := none }

def pool5 : Array CpInfo := pool [(1, .class_ 2), (0, u "java/lang/Comparable"), (0, .class_ 4), (0, u "java/lang/Object")] 7

/-- java/lang/Comparable -/
def k5 : Class := { plain "java/lang/Comparable" (some 0) with
  accessFlags := 1537
  interfaces := #[]
  cf := some (fileOf pool5 1 #[] #[] 1537 3 #[] #[])
  fields := #[]
  methods := #[]
  instanceTypes := #[]
  staticTypes := #[]
  resolved := Array.replicate 12 none
  statics := none }

def pool6 : Array CpInfo := pool [(1, .class_ 2), (0, u "java/lang/constant/Constable"), (0, .class_ 4), (0, u "java/lang/Object")] 6

/-- java/lang/constant/Constable -/
def k6 : Class := { plain "java/lang/constant/Constable" (some 0) with
  accessFlags := 1537
  interfaces := #[]
  cf := some (fileOf pool6 1 #[] #[] 1537 3 #[] #[])
  fields := #[]
  methods := #[]
  instanceTypes := #[]
  staticTypes := #[]
  resolved := Array.replicate 11 none
  statics := none }

def pool7 : Array CpInfo := pool [(1, .class_ 2), (0, u "java/lang/constant/ConstantDesc"), (0, .class_ 4), (0, u "java/lang/Object")] 32

/-- java/lang/constant/ConstantDesc -/
def k7 : Class := { plain "java/lang/constant/ConstantDesc" (some 0) with
  accessFlags := 1537
  interfaces := #[]
  cf := some (fileOf pool7 1 #[] #[] 1537 3 #[] #[])
  fields := #[]
  methods := #[]
  instanceTypes := #[]
  staticTypes := #[]
  resolved := Array.replicate 37 none
  statics := none }

def pool8 : Array CpInfo := pool [(1, .class_ 2), (0, u "java/lang/Integer"), (16, u "digits"), (0, u "[C"), (32, u "numberOfLeadingZeros"), (0, u "(I)I"), (30, u "DigitOnes"), (0, u "[B"), (2, u "DigitTens"), (99, .class_ 190), (0, u "java/lang/Integer$IntegerCache"), (3, u "I"), (8, .class_ 204), (0, u "java/lang/Number"), (2, u "value"), (56, .integer 65536), (37, u "TYPE"), (0, u "Ljava/lang/Class;"), (0, .class_ 305), (0, u "java/lang/Comparable"), (0, .class_ 307), (0, u "java/lang/constant/Constable"), (0, .class_ 309), (0, u "java/lang/constant/ConstantDesc"), (0, u "MIN_VALUE"), (1, u "MAX_VALUE"), (3, u "SIZE"), (1, u "BYTES"), (1, u "serialVersionUID"), (0, u "J")] 131

def k8c0 : Code := { maxStack := 3, maxLocals := 2, code := jdk_33_method_47_code, exceptionTable := #[], attributes := #[] }
def k8m0 : Method := { name := "numberOfLeadingZeros", desc := "(I)I", sig := { parameters := [.int], returnType := some .int }, accessFlags := 9, code := some k8c0 }
/-- java/lang/Integer -/
def k8 : Class := { plain "java/lang/Integer" (some 4) with
  accessFlags := 49
  interfaces := #[5, 6, 7]
  cf := some (fileOf pool8 1 #[.nestMembers #[189]] #[{ accessFlags := 9, nameIndex := 53, descriptorIndex := 54, attributes := #[] }] 49 203 #[304, 306, 308] #[{ accessFlags := 25, nameIndex := 310, descriptorIndex := 194, attributes := #[] }, { accessFlags := 25, nameIndex := 312, descriptorIndex := 194, attributes := #[] }, { accessFlags := 25, nameIndex := 302, descriptorIndex := 303, attributes := #[] }, { accessFlags := 24, nameIndex := 19, descriptorIndex := 20, attributes := #[] }, { accessFlags := 24, nameIndex := 89, descriptorIndex := 86, attributes := #[] }, { accessFlags := 24, nameIndex := 85, descriptorIndex := 86, attributes := #[] }, { accessFlags := 18, nameIndex := 207, descriptorIndex := 194, attributes := #[] }, { accessFlags := 25, nameIndex := 316, descriptorIndex := 194, attributes := #[] }, { accessFlags := 25, nameIndex := 318, descriptorIndex := 194, attributes := #[] }, { accessFlags := 26, nameIndex := 320, descriptorIndex := 321, attributes := #[] }])
  fields := #[{ name := "MIN_VALUE", type := .int, accessFlags := 25, slot := 0, constantValue := 0 }, { name := "MAX_VALUE", type := .int, accessFlags := 25, slot := 1, constantValue := 0 }, { name := "TYPE", type := (.object "java/lang/Class"), accessFlags := 25, slot := 2, constantValue := 0 }, { name := "digits", type := (.array .char), accessFlags := 24, slot := 3, constantValue := 0 }, { name := "DigitTens", type := (.array .byte), accessFlags := 24, slot := 4, constantValue := 0 }, { name := "DigitOnes", type := (.array .byte), accessFlags := 24, slot := 5, constantValue := 0 }, { name := "value", type := .int, accessFlags := 18, slot := 0, constantValue := 0 }, { name := "SIZE", type := .int, accessFlags := 25, slot := 6, constantValue := 0 }, { name := "BYTES", type := .int, accessFlags := 25, slot := 7, constantValue := 0 }, { name := "serialVersionUID", type := .long, accessFlags := 26, slot := 8, constantValue := 0 }]
  methods := #[k8m0]
  instanceTypes := #[.int]
  staticTypes := #[.int, .int, (.object "java/lang/Class"), (.array .char), (.array .byte), (.array .byte), .int, .int, .long]
  resolved := Array.replicate 453 none
  statics := none }

def pool9 : Array CpInfo := pool [(2, .class_ 4), (1, u "java/lang/Object"), (0, u "<init>"), (0, u "()V"), (7, .class_ 16), (1, u "java/util/Arrays"), (57, .class_ 76), (1, u "java/util/Arrays$NaturalOrder"), (36, .class_ 115), (1, u "java/util/Arrays$LegacyMergeSort"), (1, u "Z"), (257, .class_ 376), (0, u "java/util/Arrays$ArrayList"), (68, u "$assertionsDisabled"), (269, u "MIN_ARRAY_SORT_GRAN"), (0, u "I"), (2, u "INSERTIONSORT_THRESHOLD"), (120, u "fill"), (5, u "([SS)V"), (128, .class_ 976), (0, u "java/util/Arrays$ArrayItr")] 52

def k9m0 : Method := { name := "<init>", desc := "()V", sig := { parameters := [], returnType := none }, accessFlags := 2, code := none }
def k9c1 : Code := { maxStack := 3, maxLocals := 4, code := jdk_65_method_105_code, exceptionTable := #[], attributes := #[] }
def k9m1 : Method := { name := "fill", desc := "([SS)V", sig := { parameters := [(.array .short), .short], returnType := none }, accessFlags := 9, code := some k9c1 }
/-- java/util/Arrays -/
def k9 : Class := { plain "java/util/Arrays" (some 0) with
  accessFlags := 49
  interfaces := #[]
  cf := some (fileOf pool9 14 #[.nestMembers #[975, 375, 113, 74]] #[{ accessFlags := 2, nameIndex := 5, descriptorIndex := 6, attributes := #[] }, { accessFlags := 9, nameIndex := 840, descriptorIndex := 846, attributes := #[] }] 49 2 #[] #[{ accessFlags := 26, nameIndex := 715, descriptorIndex := 716, attributes := #[] }, { accessFlags := 26, nameIndex := 719, descriptorIndex := 716, attributes := #[] }, { accessFlags := 4120, nameIndex := 445, descriptorIndex := 117, attributes := #[] }])
  fields := #[{ name := "MIN_ARRAY_SORT_GRAN", type := .int, accessFlags := 26, slot := 0, constantValue := 0 }, { name := "INSERTIONSORT_THRESHOLD", type := .int, accessFlags := 26, slot := 1, constantValue := 0 }, { name := "$assertionsDisabled", type := .boolean, accessFlags := 4120, slot := 2, constantValue := 0 }]
  methods := #[k9m0, k9m1]
  instanceTypes := #[]
  staticTypes := #[.int, .int, .boolean]
  resolved := Array.replicate 1029 none
  statics := none }

def pool10 : Array CpInfo := pool [(1, u "java/lang/Cloneable"), (0, .class_ 1), (0, u "java/lang/Object"), (0, .class_ 3)] 3

/-- java/lang/Cloneable -/
def k10 : Class := { plain "java/lang/Cloneable" (some 0) with
  accessFlags := 1537
  interfaces := #[]
  cf := some (fileOf pool10 2 #[] #[] 1537 4 #[] #[])
  fields := #[]
  methods := #[]
  instanceTypes := #[]
  staticTypes := #[]
  resolved := Array.replicate 8 none
  statics := none }

/-- the primitive byte -/
def k11 : Class := { plain "byte" none with kind := .primitive 'B', accessFlags := 0x411 }
/-- [B -/
def k12 : Class := { plain "[B" (some 0) with kind := .array 11 .byte, interfaces := #[10, 3], accessFlags := 1041 }

/-- the primitive int -/
def k13 : Class := { plain "int" none with kind := .primitive 'I', accessFlags := 0x411 }
/-- [I -/
def k14 : Class := { plain "[I" (some 0) with kind := .array 13 .int, interfaces := #[10, 3], accessFlags := 1041 }

/-- the primitive short -/
def k15 : Class := { plain "short" none with kind := .primitive 'S', accessFlags := 0x411 }
/-- [S -/
def k16 : Class := { plain "[S" (some 0) with kind := .array 15 .short, interfaces := #[10, 3], accessFlags := 1041 }

def heap : Heap := #[]
def classes : Array Class := #[k0, k1, k2, k3, k4, k5, k6, k7, k8, k9, k10, k11, k12, k13, k14, k15, k16]
def interned : List (Array UInt16 × Addr) := []
def slotsUsed : Nat := 0
def theMethod : MethodId := ⟨1, 1⟩
def args0 : Array Value := #[.int 5, .int 5, .int 5, .int 5, .int 5, .int 5]
def aboutOver (below : List Frame) : State where
  vm := { classes := classes, interned := interned.toArray }
  heap := heap
  slotsUsed := slotsUsed
  threads := #[{ frames := .invoking theMethod args0 :: below }]
def below0 : List Frame := [.native { method := ⟨0, 0⟩, args := #[] }]
def about1 : State := aboutOver below0
def p0 : Program := .bare "" "" ""
def e0 : Env := launch0.env 0 0 0
theorem w_frames : about1.frames = Frame.invoking theMethod args0 :: below0 := rfl
set_option maxRecDepth 65536 in
theorem w_args : argsFit about1.vm theMethod args0 = true := by decide +kernel
set_option maxRecDepth 65536 in
theorem w_heap : heapFits about1 = true := by decide +kernel
set_option maxRecDepth 65536 in
theorem w_runnable : about1.curStatus? = some .runnable := by decide +kernel
set_option maxRecDepth 65536 in
theorem w_alone : about1.alone = true := by decide +kernel
set_option maxRecDepth 65536 in
theorem w_named : about1.methodNamed? x = some theMethod := by decide +kernel
set_option maxRecDepth 65536 in
theorem w_hears : about1.hears theMethod below0 = true := by decide +kernel
set_option maxRecDepth 65536 in
theorem w_ripe : about1.ripe theMethod args0 below0 = true := by decide +kernel
theorem w_running : about1.status = .running := rfl
set_option maxRecDepth 65536 in
theorem w_room : about1.hasRoom e0.platform room_1 = true :=
  launch0.hasRoom_least _ room_1 (by decide +kernel) (by decide +kernel) (by decide +kernel) (by decide +kernel) (by decide +kernel) (by decide +kernel)
theorem allAtoms_all (ts : List Jvm.Cond) (a : Array Jvm.Value) (st : Jvm.State) : (allAtoms ts).before a st = ts.all (fun c => c.before a st) := by
  induction ts with
  | nil => rfl
  | cons c t ih =>
    show (Jvm.Cond.and c (allAtoms t)).before a st = _
    rw [Jvm.Cond.before_and, ih, List.all_cons]
def words1 : List Jvm.Cond := Jvm.Cond.code x code maxLocals ret :: tables_1
/-- a 'code' word, met by the world's own term for the bytes: nothing is compared byte by byte -/
theorem code_word {y : MethodName} {bytes : ByteArray} {mx : Nat} {rt : Option FieldType} {a : Array Value} {s : State} {m : MethodId} {meth : Method} {c : Code} (h1 : s.methodNamed? y = some m) (h2 : s.vm.method? m = some meth) (h3 : meth.code = some c) (h4 : c.code = bytes)
    (h5 : (c.maxLocals == mx && c.exceptionTable.isEmpty && decide (c.maxStack ≤ mostOperands) && decide (meth.sig.returnType = rt) && !meth.locks && decide (parseMethodDescriptor y.desc = some meth.sig)) = true) : (Jvm.Cond.code y bytes mx rt).before a s = true := by
  simp only [Bool.and_eq_true, beq_iff_eq, Bool.not_eq_true', decide_eq_true_eq] at h5
  obtain ⟨⟨⟨⟨⟨g1, g2⟩, g3⟩, g4⟩, g5⟩, g6⟩ := h5
  simp [Cond.before, Cond.holds, Cond.value, h1, h2, h3, h4, g1, g2, g3, g4, g5, g6]
def isCode : Jvm.Cond → Bool
  | .code _ _ _ _ => true
  | _ => false
theorem all_split {L : List Jvm.Cond} {P : Jvm.Cond → Bool} (h1 : L.all (fun c => isCode c || P c) = true) (h2 : ∀ c ∈ L.filter isCode, P c = true) : L.all P = true := by
  refine List.all_eq_true.mpr fun c hc => ?_
  have h := List.all_eq_true.mp h1 c hc
  rcases Bool.eq_false_or_eq_true (isCode c) with hi | hi
  · exact h2 c (List.mem_filter.mpr ⟨hc, hi⟩)
  · simpa [hi] using h
set_option maxRecDepth 65536 in
theorem w_c0 : (Jvm.Cond.code x code maxLocals ret).before args0 about1 = true := code_word (m := ⟨1, 1⟩) (meth := k1m1) (c := k1c1) (by decide +kernel) rfl rfl rfl (by decide +kernel)
set_option maxRecDepth 65536 in
theorem w_c1 : (Jvm.Cond.code ({ cls := "com/example/relayframe/relayframe/Palette", name := "<init>", desc := "(I)V" } : Jvm.MethodName) prog_3_method_1_code (2 : Nat) (Option.none : Option Jvm.ClassFile.FieldType)).before args0 about1 = true := code_word (m := ⟨2, 0⟩) (meth := k2m0) (c := k2c0) (by decide +kernel) rfl rfl rfl (by decide +kernel)
set_option maxRecDepth 65536 in
theorem w_c2 : (Jvm.Cond.code ({ cls := "java/lang/Object", name := "<init>", desc := "()V" } : Jvm.MethodName) object_method_1_code (1 : Nat) (Option.none : Option Jvm.ClassFile.FieldType)).before args0 about1 = true := code_word (m := ⟨0, 0⟩) (meth := k0m0) (c := k0c0) (by decide +kernel) rfl rfl rfl (by decide +kernel)
set_option maxRecDepth 65536 in
theorem w_c3 : (Jvm.Cond.code ({ cls := "java/lang/Integer", name := "numberOfLeadingZeros", desc := "(I)I" } : Jvm.MethodName) jdk_33_method_47_code (2 : Nat) (Option.some Jvm.ClassFile.FieldType.int)).before args0 about1 = true := code_word (m := ⟨8, 0⟩) (meth := k8m0) (c := k8c0) (by decide +kernel) rfl rfl rfl (by decide +kernel)
set_option maxRecDepth 65536 in
theorem w_c4 : (Jvm.Cond.code ({ cls := "com/example/relayframe/relayframe/Palette", name := "clear", desc := "()V" } : Jvm.MethodName) prog_3_method_2_code (1 : Nat) (Option.none : Option Jvm.ClassFile.FieldType)).before args0 about1 = true := code_word (m := ⟨2, 1⟩) (meth := k2m1) (c := k2c1) (by decide +kernel) rfl rfl rfl (by decide +kernel)
set_option maxRecDepth 65536 in
theorem w_c5 : (Jvm.Cond.code ({ cls := "java/util/Arrays", name := "fill", desc := "([SS)V" } : Jvm.MethodName) jdk_65_method_105_code (4 : Nat) (Option.none : Option Jvm.ClassFile.FieldType)).before args0 about1 = true := code_word (m := ⟨9, 1⟩) (meth := k9m1) (c := k9c1) (by decide +kernel) rfl rfl rfl (by decide +kernel)
set_option maxRecDepth 65536 in
theorem w_c6 : (Jvm.Cond.code ({ cls := "com/example/relayframe/relayframe/PaletteIndexOfPinLaw", name := "step", desc := "(Lcom/example/relayframe/relayframe/Palette;I[I[II)Z" } : Jvm.MethodName) method_4_code (6 : Nat) (Option.some Jvm.ClassFile.FieldType.boolean)).before args0 about1 = true := code_word (m := ⟨1, 3⟩) (meth := k1m3) (c := k1c3) (by decide +kernel) rfl rfl rfl (by decide +kernel)
set_option maxRecDepth 65536 in
theorem w_c7 : (Jvm.Cond.code ({ cls := "com/example/relayframe/relayframe/PaletteIndexOfPinLaw", name := "expected", desc := "([I[III)I" } : Jvm.MethodName) method_3_code (5 : Nat) (Option.some Jvm.ClassFile.FieldType.int)).before args0 about1 = true := code_word (m := ⟨1, 2⟩) (meth := k1m2) (c := k1c2) (by decide +kernel) rfl rfl rfl (by decide +kernel)
set_option maxRecDepth 65536 in
theorem w_c8 : (Jvm.Cond.code ({ cls := "com/example/relayframe/relayframe/Palette", name := "indexOf", desc := "(I)I" } : Jvm.MethodName) prog_3_method_3_code (4 : Nat) (Option.some Jvm.ClassFile.FieldType.int)).before args0 about1 = true := code_word (m := ⟨2, 2⟩) (meth := k2m2) (c := k2c2) (by decide +kernel) rfl rfl rfl (by decide +kernel)
set_option maxRecDepth 65536 in
theorem w_c9 : (Jvm.Cond.code ({ cls := "com/example/relayframe/relayframe/Palette", name := "size", desc := "()I" } : Jvm.MethodName) prog_3_method_4_code (1 : Nat) (Option.some Jvm.ClassFile.FieldType.int)).before args0 about1 = true := code_word (m := ⟨2, 3⟩) (meth := k2m3) (c := k2c3) (by decide +kernel) rfl rfl rfl (by decide +kernel)
set_option maxRecDepth 65536 in
theorem w_c10 : (Jvm.Cond.code ({ cls := "com/example/relayframe/relayframe/Palette", name := "colours", desc := "()[I" } : Jvm.MethodName) prog_3_method_5_code (1 : Nat) (Option.some (Jvm.ClassFile.FieldType.array Jvm.ClassFile.FieldType.int))).before args0 about1 = true := code_word (m := ⟨2, 4⟩) (meth := k2m4) (c := k2c4) (by decide +kernel) rfl rfl rfl (by decide +kernel)
set_option maxRecDepth 65536 in
theorem w_c11 : (Jvm.Cond.code ({ cls := "com/example/relayframe/relayframe/PaletteIndexOfPinLaw", name := "sameAt", desc := "([I[III)Z" } : Jvm.MethodName) method_5_code (4 : Nat) (Option.some Jvm.ClassFile.FieldType.boolean)).before args0 about1 = true := code_word (m := ⟨1, 4⟩) (meth := k1m4) (c := k1c4) (by decide +kernel) rfl rfl rfl (by decide +kernel)
def codes1 : List Jvm.Cond := [Jvm.Cond.code x code maxLocals ret, Jvm.Cond.code ({ cls := "com/example/relayframe/relayframe/Palette", name := "<init>", desc := "(I)V" } : Jvm.MethodName) prog_3_method_1_code (2 : Nat) (Option.none : Option Jvm.ClassFile.FieldType), Jvm.Cond.code ({ cls := "java/lang/Object", name := "<init>", desc := "()V" } : Jvm.MethodName) object_method_1_code (1 : Nat) (Option.none : Option Jvm.ClassFile.FieldType), Jvm.Cond.code ({ cls := "java/lang/Integer", name := "numberOfLeadingZeros", desc := "(I)I" } : Jvm.MethodName) jdk_33_method_47_code (2 : Nat) (Option.some Jvm.ClassFile.FieldType.int), Jvm.Cond.code ({ cls := "com/example/relayframe/relayframe/Palette", name := "clear", desc := "()V" } : Jvm.MethodName) prog_3_method_2_code (1 : Nat) (Option.none : Option Jvm.ClassFile.FieldType), Jvm.Cond.code ({ cls := "java/util/Arrays", name := "fill", desc := "([SS)V" } : Jvm.MethodName) jdk_65_method_105_code (4 : Nat) (Option.none : Option Jvm.ClassFile.FieldType), Jvm.Cond.code ({ cls := "com/example/relayframe/relayframe/PaletteIndexOfPinLaw", name := "step", desc := "(Lcom/example/relayframe/relayframe/Palette;I[I[II)Z" } : Jvm.MethodName) method_4_code (6 : Nat) (Option.some Jvm.ClassFile.FieldType.boolean), Jvm.Cond.code ({ cls := "com/example/relayframe/relayframe/PaletteIndexOfPinLaw", name := "expected", desc := "([I[III)I" } : Jvm.MethodName) method_3_code (5 : Nat) (Option.some Jvm.ClassFile.FieldType.int), Jvm.Cond.code ({ cls := "com/example/relayframe/relayframe/Palette", name := "indexOf", desc := "(I)I" } : Jvm.MethodName) prog_3_method_3_code (4 : Nat) (Option.some Jvm.ClassFile.FieldType.int), Jvm.Cond.code ({ cls := "com/example/relayframe/relayframe/Palette", name := "size", desc := "()I" } : Jvm.MethodName) prog_3_method_4_code (1 : Nat) (Option.some Jvm.ClassFile.FieldType.int), Jvm.Cond.code ({ cls := "com/example/relayframe/relayframe/Palette", name := "colours", desc := "()[I" } : Jvm.MethodName) prog_3_method_5_code (1 : Nat) (Option.some (Jvm.ClassFile.FieldType.array Jvm.ClassFile.FieldType.int)), Jvm.Cond.code ({ cls := "com/example/relayframe/relayframe/PaletteIndexOfPinLaw", name := "sameAt", desc := "([I[III)Z" } : Jvm.MethodName) method_5_code (4 : Nat) (Option.some Jvm.ClassFile.FieldType.boolean)]
set_option maxRecDepth 65536 in
theorem codes_eq : words1.filter isCode = codes1 := rfl
theorem w_codes : ∀ c ∈ words1.filter isCode, c.before args0 about1 = true := by
  rw [codes_eq]
  intro c hc
  simp only [codes1, List.mem_cons, List.not_mem_nil, or_false] at hc
  rcases hc with rfl | rfl | rfl | rfl | rfl | rfl | rfl | rfl | rfl | rfl | rfl | rfl
  · exact w_c0
  · exact w_c1
  · exact w_c2
  · exact w_c3
  · exact w_c4
  · exact w_c5
  · exact w_c6
  · exact w_c7
  · exact w_c8
  · exact w_c9
  · exact w_c10
  · exact w_c11
set_option maxRecDepth 65536 in
theorem w_t1 : (words1.take 24).all (fun c => isCode c || c.before args0 about1) = true := by decide +kernel
set_option maxRecDepth 65536 in
theorem w_t2 : ((words1.drop 24).take 24).all (fun c => isCode c || c.before args0 about1) = true := by decide +kernel
set_option maxRecDepth 65536 in
theorem w_t3 : ((words1.drop 24).drop 24).all (fun c => isCode c || c.before args0 about1) = true := by decide +kernel
theorem w_tables : (allAtoms (Jvm.Cond.code x code maxLocals ret :: tables_1)).before args0 about1 = true := by
  rw [allAtoms_all]
  show words1.all (fun c => c.before args0 about1) = true
  refine all_split ?_ w_codes
  rw [← List.take_append_drop 24 words1, List.all_append, w_t1, ← List.take_append_drop 24 (words1.drop 24), List.all_append, w_t2, w_t3]
  rfl
set_option maxRecDepth 65536 in
theorem w_case : (Jvm.Cond.and given_1 narrow_1).before args0 about1 = true := by decide +kernel
theorem w_applies : (headSpec (Jvm.Cond.code x code maxLocals ret :: tables_1) room_1).applies x e0.platform about1 = true :=
  (Spec.applies_iff w_frames).mpr ⟨w_running, w_runnable, w_alone, w_named, w_hears, w_ripe, w_room, w_tables⟩
theorem atStart : AtStart classFile x code maxLocals ret World_1 tables_1 room_1 Calls_1 rest_1 Pre_1 launch0 p0 e0 about1 theMethod args0 below0 :=
  ⟨lists_1, trivial, launch0.admits_env _ _ _, launch0.least_env, fairChoices_fair.cas, fairChoices_fair.clock, w_frames, w_args, w_heap, w_applies, trivial, trivial, w_case⟩
end start1
theorem witness_1 : WitnessClaimed_1 := ⟨start1.p0, start1.e0, start1.about1, start1.theMethod, start1.args0, start1.below0, start1.atStart⟩
end Jvm.Pilot.@@N@@
