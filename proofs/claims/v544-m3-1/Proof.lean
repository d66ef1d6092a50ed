import JvmDerived
import JvmDerived.Pilot.@@N@@Statement
import JvmDerived.Pilot.@@N@@Code
set_option linter.unusedVariables false
set_option linter.unusedSimpArgs false
namespace Jvm.Pilot.@@N@@
open Jvm Jvm.ClassFile Sem Op Lib Jvm.Free Jvm.Stand Jvm.LawKit Jvm.RoadKit Bundle Jvm.Pilot.@@N@@.Jvm.D
set_option maxRecDepth 65536
/-! the run still has to be led to its end from A: the goal of a walk, taken step by step -/
def own_Go (p : Program) (e : Env) (below : List Frame) (s : State) (Q : Option Value → Heap → List Loc → Prop) (C S : Nat) (A : State) : Prop :=
  ∃ s₂ o, Steps p.tables e below A s₂ ∧ s₂.status = .running ∧ Ended s₂ below o ∧ ∃ v L, o = .returned v ∧ Q v s₂.heap L ∧ FrameEnd s o s₂ L C S
section OwnA
variable {p : Program} {l : Launch} {e : Env} {R : Room} {s : State} {m : MethodId} {args : Array Value} {below : List Frame} {meth : Method} {c : Code} {T : State} {locs : List Loc} {cells slots : Nat} {Q : Option Value → Heap → List Loc → Prop} {C S : Nat}
theorem own_st {A B : State} (h : ∀ t, Steps p.tables e below B t → Steps p.tables e below A t) (g : own_Go p e below s Q C S B) : own_Go p e below s Q C S A := by
  obtain ⟨s₂, o, h1, r⟩ := g
  exact ⟨s₂, o, h _ h1, r⟩
theorem own_ss {A B : State} (h : Steps p.tables e below A B) (g : own_Go p e below s Q C S B) : own_Go p e below s Q C S A := own_st (fun _ k => h.trans k) g
theorem own_cut {P G : Prop} (a : P → G) (b : P) : G := a b
theorem own_leave (X : Stand p l e R s m args below meth c T locs cells slots) {v : Option Value} (hv : meth.sig.returnType = none → v = none) (hlk : meth.locks = false) (hQ : Q v T.heap locs) (hc : cells ≤ C) (hs : slots ≤ S) {A : State}
    (hr : ∀ fs, (∀ (f : JFrame) (acts : List Action), f.method = m → f.locked = none → f.entered = [] → (doReturn e (T.setTop f) acts v).1 = T.setFrames fs) → Steps p.tables e below A (T.setFrames fs)) : own_Go p e below s Q C S A := by
  obtain ⟨fs, hr', hrun, hended, hW, hsame⟩ := X.leave (v := v) hv hlk
  exact ⟨_, _, hr fs hr', hrun, hended, _, _, rfl, hQ, ⟨_, rfl⟩, hW, hsame.mono hc hs⟩
theorem own_retV (X : Stand p l e R s m args below meth c T locs cells slots) (hx : p.tables.exec = Jvm.exec) (hlk : meth.locks = false) (hret : meth.sig.returnType = none) {pc : Nat} {Ls : Array Slot} (hd : decode c.code pc = .ok (.return_, 1)) (hc : cells ≤ C) (hs : slots ≤ S) (hQ : Q none T.heap locs) :
    own_Go p e below s Q C S (T.setTop (mkF m pc Ls [])) := own_leave X (fun _ => rfl) hlk hQ hc hs fun _ hr => X.returnOut hx hret hd hr
theorem own_retI (X : Stand p l e R s m args below meth c T locs cells slots) (hx : p.tables.exec = Jvm.exec) (hlk : meth.locks = false) (hret : meth.sig.returnType = some .int) {pc : Nat} {Ls : Array Slot} {z : Int32} {rest : List Value} (hd : decode c.code pc = .ok (.ireturn, 1)) (hc : cells ≤ C) (hs : slots ≤ S) (hQ : Q (some (.int z)) T.heap locs) :
    own_Go p e below s Q C S (T.setTop (mkF m pc Ls (.int z :: rest))) := own_leave X (fun h => by rw [hret] at h; cases h) hlk hQ hc hs fun _ hr => retOut X hx hret rfl (Or.inl ⟨rfl, Or.inl rfl, _, rfl⟩) hd hr
theorem own_retJ (X : Stand p l e R s m args below meth c T locs cells slots) (hx : p.tables.exec = Jvm.exec) (hlk : meth.locks = false) (hret : meth.sig.returnType = some .long) {pc : Nat} {Ls : Array Slot} {z : Int64} {rest : List Value} (hd : decode c.code pc = .ok (.lreturn, 1)) (hc : cells ≤ C) (hs : slots ≤ S) (hQ : Q (some (.long z)) T.heap locs) :
    own_Go p e below s Q C S (T.setTop (mkF m pc Ls (.long z :: rest))) := own_leave X (fun h => by rw [hret] at h; cases h) hlk hQ hc hs fun _ hr => retOut X hx hret rfl (Or.inr (Or.inl ⟨rfl, rfl, _, rfl⟩)) hd hr
theorem own_retR (X : Stand p l e R s m args below meth c T locs cells slots) (hx : p.tables.exec = Jvm.exec) (hlk : meth.locks = false) {t : FieldType} (hret : meth.sig.returnType = some t) (ht : t.isReference = true) {pc : Nat} {Ls : Array Slot} {w : Value} {rest : List Value} (hn : narrow t w = w) (hw : w.isRef = true) (hd : decode c.code pc = .ok (.areturn, 1)) (hc : cells ≤ C) (hs : slots ≤ S) (hQ : Q (some w) T.heap locs) :
    own_Go p e below s Q C S (T.setTop (mkF m pc Ls (w :: rest))) := own_leave X (fun h => by rw [hret] at h; cases h) hlk hQ hc hs fun _ hr => retOut X hx hret hn (Or.inr (Or.inr (Or.inr (Or.inr ⟨rfl, ht, hw⟩)))) hd hr
theorem own_retN (X : Stand p l e R s m args below meth c T locs cells slots) (hx : p.tables.exec = Jvm.exec) (hlk : meth.locks = false) {t : FieldType} (hret : meth.sig.returnType = some t) (ht : t = .boolean ∨ t = .byte ∨ t = .char ∨ t = .short) {pc : Nat} {Ls : Array Slot} {z z' : Int32} {rest : List Value} (hz : nar t z = z') (hd : decode c.code pc = .ok (.ireturn, 1)) (hc : cells ≤ C) (hs : slots ≤ S) (hQ : Q (some (.int z')) T.heap locs) :
    own_Go p e below s Q C S (T.setTop (mkF m pc Ls (.int z :: rest))) := by
  subst hz
  exact own_leave X (fun h => by rw [hret] at h; cases h) hlk hQ hc hs fun _ hr => retN X hx hret ht hd hr
/-! arrays by the whole list of what they hold -/
variable {Z : State} {h h' : Heap} {a b : Addr} {ty : FieldType} {vs : List Value}
def own_A (Z : State) (h : Heap) (a : Addr) (ty : FieldType) (vs : List Value) : Prop := ∃ c : Cell, Arr Z h a c ty ∧ c.slots.toList = vs
theorem own_A.lt (F : own_A Z h a ty vs) : a < h.size := by obtain ⟨c, A, -⟩ := F; exact A.lt
theorem own_A.ext (F : own_A Z h a ty vs) (E : Ext h h') : own_A Z h' a ty vs := by obtain ⟨c, A, q⟩ := F; exact ⟨c, A.ext E, q⟩
theorem own_A.other {sl : Nat} {v : Value} (F : own_A Z h a ty vs) (W : Wr h h' b sl v) (q : a ≠ b) : own_A Z h' a ty vs := by obtain ⟨c, A, r⟩ := F; exact ⟨c, A.other W q, r⟩
theorem own_A.keep {ws : List Addr} (F : own_A Z h a ty vs) (K : Keep h h' ws) (q : a ∉ ws) : own_A Z h' a ty vs := by obtain ⟨c, A, r⟩ := F; exact ⟨c, ⟨K.2.1 a c A.1 q, A.2⟩, r⟩
theorem own_A.set {i : Nat} {v : Value} (F : own_A Z h a ty vs) (W : Wr h h' a i v) : own_A Z h' a ty (vs.set i v) := by
  obtain ⟨c, A, rfl⟩ := F
  exact ⟨_, A.same W, by simp [Cell.setSlot]⟩
theorem own_ix {j : Int32} {i : Nat} (hj : j.toInt = (i : Int)) : ¬ j < 0 ∧ j.toNatClampNeg = i := by
  refine ⟨?_, ?_⟩
  · rw [Int32.lt_iff_toInt_lt, hj]
    show ¬ ((i : Int) < 0)
    omega
  · have h1 : j.toNatClampNeg = j.toInt.toNat := rfl
    rw [h1, hj]; rfl
theorem own_in {cl : Cell} {j : Int32} {i : Nat} {v : Value} (hj : j.toInt = (i : Int)) (hv : cl.slots.toList[i]? = some v) : ¬ (j < 0 ∨ cl.slots.size ≤ j.toNatClampNeg) ∧ cl.slots[j.toNatClampNeg]? = some v := by
  obtain ⟨n0, n1⟩ := own_ix hj
  rw [n1]
  rw [Array.getElem?_toList] at hv
  refine ⟨?_, hv⟩
  have h2 := (Array.getElem?_eq_some_iff.mp hv).1
  rintro (q | q)
  · exact n0 q
  · omega
theorem own_ldI (X : Stand p l e R s m args below meth c T locs cells slots) (hx : p.tables.exec = Jvm.exec) (hZ : Z.Warmed39 s.vm) (eT : T.heap = h) (A : own_A Z h a .int vs) {j : Int32} {i : Nat} {v : Value} (hj : j.toInt = (i : Int)) (hv : vs[i]? = some v) {g : JFrame} (hg : g.method = m) {rest : List Value} (hs : g.stack = .int j :: .ref a :: rest) (hd : decode c.code g.pc = .ok (.iaload, 1)) {t : State}
    (k : Steps p.tables e below (T.setTop { g with pc := g.pc + 1, stack := v :: rest }) t) : Steps p.tables e below (T.setTop g) t := by
  obtain ⟨cl, A, rfl⟩ := A
  exact X.iaload hx (by rw [eT]; exact A.1) (State.isArrayOf_alike hZ.alike A.2.1) A.2.2 (own_in hj hv).1 (own_in hj hv).2 hg hs hd _ k
theorem own_ldJ (X : Stand p l e R s m args below meth c T locs cells slots) (hx : p.tables.exec = Jvm.exec) (hZ : Z.Warmed39 s.vm) (eT : T.heap = h) (A : own_A Z h a .long vs) {j : Int32} {i : Nat} {v : Value} (hj : j.toInt = (i : Int)) (hv : vs[i]? = some v) {g : JFrame} (hg : g.method = m) {rest : List Value} (hs : g.stack = .int j :: .ref a :: rest) (hd : decode c.code g.pc = .ok (.laload, 1)) {t : State}
    (k : Steps p.tables e below (T.setTop { g with pc := g.pc + 1, stack := v :: rest }) t) : Steps p.tables e below (T.setTop g) t := by
  obtain ⟨cl, A, rfl⟩ := A
  exact X.laload hx (by rw [eT]; exact A.1) (State.isArrayOf_alike hZ.alike A.2.1) A.2.2 (own_in hj hv).1 (own_in hj hv).2 hg hs hd _ k
theorem own_ldB (X : Stand p l e R s m args below meth c T locs cells slots) (hx : p.tables.exec = Jvm.exec) (hZ : Z.Warmed39 s.vm) (eT : T.heap = h) (A : own_A Z h a .byte vs) {j : Int32} {i : Nat} {v : Value} (hj : j.toInt = (i : Int)) (hv : vs[i]? = some v) {g : JFrame} (hg : g.method = m) {rest : List Value} (hs : g.stack = .int j :: .ref a :: rest) (hd : decode c.code g.pc = .ok (.baload, 1)) {t : State}
    (k : Steps p.tables e below (T.setTop { g with pc := g.pc + 1, stack := v :: rest }) t) : Steps p.tables e below (T.setTop g) t := by
  obtain ⟨cl, A, rfl⟩ := A
  exact X.baloadBytes hx (by rw [eT]; exact A.1) (State.isArrayOf_alike hZ.alike A.2.1) A.2.2 (own_in hj hv).1 (own_in hj hv).2 hg hs hd _ k
theorem own_ldZ (X : Stand p l e R s m args below meth c T locs cells slots) (hx : p.tables.exec = Jvm.exec) (hZ : Z.Warmed39 s.vm) (eT : T.heap = h) (A : own_A Z h a .boolean vs) {j : Int32} {i : Nat} {v : Value} (hj : j.toInt = (i : Int)) (hv : vs[i]? = some v) {g : JFrame} (hg : g.method = m) {rest : List Value} (hs : g.stack = .int j :: .ref a :: rest) (hd : decode c.code g.pc = .ok (.baload, 1)) {t : State}
    (k : Steps p.tables e below (T.setTop { g with pc := g.pc + 1, stack := v :: rest }) t) : Steps p.tables e below (T.setTop g) t := by
  obtain ⟨cl, A, rfl⟩ := A
  exact X.baloadBooleans hx (by rw [eT]; exact A.1) (State.isArrayOf_alike hZ.alike A.2.1) A.2.2 (own_in hj hv).1 (own_in hj hv).2 hg hs hd _ k
theorem own_ldS (X : Stand p l e R s m args below meth c T locs cells slots) (hx : p.tables.exec = Jvm.exec) (hZ : Z.Warmed39 s.vm) (eT : T.heap = h) (A : own_A Z h a .short vs) {j : Int32} {i : Nat} {v : Value} (hj : j.toInt = (i : Int)) (hv : vs[i]? = some v) {g : JFrame} (hg : g.method = m) {rest : List Value} (hs : g.stack = .int j :: .ref a :: rest) (hd : decode c.code g.pc = .ok (.saload, 1)) {t : State}
    (k : Steps p.tables e below (T.setTop { g with pc := g.pc + 1, stack := v :: rest }) t) : Steps p.tables e below (T.setTop g) t := by
  obtain ⟨cl, A, rfl⟩ := A
  exact X.saload hx (by rw [eT]; exact A.1) (State.isArrayOf_alike hZ.alike A.2.1) A.2.2 (own_in hj hv).1 (own_in hj hv).2 hg hs hd _ k
theorem own_ldC (X : Stand p l e R s m args below meth c T locs cells slots) (hx : p.tables.exec = Jvm.exec) (hZ : Z.Warmed39 s.vm) (eT : T.heap = h) (A : own_A Z h a .char vs) {j : Int32} {i : Nat} {v : Value} (hj : j.toInt = (i : Int)) (hv : vs[i]? = some v) {g : JFrame} (hg : g.method = m) {rest : List Value} (hs : g.stack = .int j :: .ref a :: rest) (hd : decode c.code g.pc = .ok (.caload, 1)) {t : State}
    (k : Steps p.tables e below (T.setTop { g with pc := g.pc + 1, stack := v :: rest }) t) : Steps p.tables e below (T.setTop g) t := by
  obtain ⟨cl, A, rfl⟩ := A
  exact X.caload hx (by rw [eT]; exact A.1) (State.isArrayOf_alike hZ.alike A.2.1) A.2.2 (own_in hj hv).1 (own_in hj hv).2 hg hs hd _ k
theorem own_ldR (X : Stand p l e R s m args below meth c T locs cells slots) (hx : p.tables.exec = Jvm.exec) (hZ : Z.Warmed39 s.vm) (eT : T.heap = h) (A : own_A Z h a ty vs) (hty : ty.isReference = true) {j : Int32} {i : Nat} {v : Value} (hj : j.toInt = (i : Int)) (hv : vs[i]? = some v) {g : JFrame} (hg : g.method = m) {rest : List Value} (hs : g.stack = .int j :: .ref a :: rest) (hd : decode c.code g.pc = .ok (.aaload, 1)) {t : State}
    (k : Steps p.tables e below (T.setTop { g with pc := g.pc + 1, stack := v :: rest }) t) : Steps p.tables e below (T.setTop g) t := by
  obtain ⟨cl, A, rfl⟩ := A
  exact X.aaload hx (by rw [eT]; exact A.1) (State.isArrayOf_alike hZ.alike A.2.1) hty A.2.2 (own_in hj hv).1 (own_in hj hv).2 hg hs hd _ k
theorem own_stI (X : Stand p l e R s m args below meth c T locs cells slots) (hx : p.tables.exec = Jvm.exec) (hZ : Z.Warmed39 s.vm) (eT : T.heap = h) (A : own_A Z h a .int vs) {j x : Int32} {i : Nat} (hj : j.toInt = (i : Int)) (hi : i < vs.length) {g : JFrame} (hg : g.method = m) {rest : List Value} (hs : g.stack = .int x :: .int j :: .ref a :: rest) (hd : decode c.code g.pc = .ok (.iastore, 1)) :
    ∃ T' h', Stand p l e R s m args below meth c T' (locs ++ [⟨a, i⟩]) cells slots ∧ T'.heap = h' ∧ Wr h h' a i (.int x) ∧ own_A Z h' a .int (vs.set i (.int x)) ∧ ∀ target, Steps p.tables e below (T'.setTop { g with pc := g.pc + 1, stack := rest }) target → Steps p.tables e below (T.setTop g) target := by
  obtain ⟨cl, A, rfl⟩ := A
  have hin := (own_in (cl := cl) (v := cl.slots.toList[i]) hj (List.getElem?_eq_getElem hi)).1
  obtain ⟨T', h', X', e', W', st⟩ := stI X hx hZ eT A (j := j) (x := x) hin hg hs hd
  rw [(own_ix hj).2] at X' W'
  exact ⟨T', h', X', e', W', own_A.set ⟨cl, A, rfl⟩ W', st⟩
theorem own_stJ (X : Stand p l e R s m args below meth c T locs cells slots) (hx : p.tables.exec = Jvm.exec) (hZ : Z.Warmed39 s.vm) (eT : T.heap = h) (A : own_A Z h a .long vs) {j : Int32} {x : Int64} {i : Nat} (hj : j.toInt = (i : Int)) (hi : i < vs.length) {g : JFrame} (hg : g.method = m) {rest : List Value} (hs : g.stack = .long x :: .int j :: .ref a :: rest) (hd : decode c.code g.pc = .ok (.lastore, 1)) :
    ∃ T' h', Stand p l e R s m args below meth c T' (locs ++ [⟨a, i⟩]) cells slots ∧ T'.heap = h' ∧ Wr h h' a i (.long x) ∧ own_A Z h' a .long (vs.set i (.long x)) ∧ ∀ target, Steps p.tables e below (T'.setTop { g with pc := g.pc + 1, stack := rest }) target → Steps p.tables e below (T.setTop g) target := by
  obtain ⟨cl, A, rfl⟩ := A
  have hin := (own_in (cl := cl) (v := cl.slots.toList[i]) hj (List.getElem?_eq_getElem hi)).1
  obtain ⟨T', h', X', e', W', st⟩ := stJ X hx hZ eT A (j := j) (x := x) hin hg hs hd
  rw [(own_ix hj).2] at X' W'
  exact ⟨T', h', X', e', W', own_A.set ⟨cl, A, rfl⟩ W', st⟩
theorem own_stB (X : Stand p l e R s m args below meth c T locs cells slots) (hx : p.tables.exec = Jvm.exec) (hZ : Z.Warmed39 s.vm) (eT : T.heap = h) (A : own_A Z h a .byte vs) {j x : Int32} {i : Nat} (hj : j.toInt = (i : Int)) (hi : i < vs.length) {g : JFrame} (hg : g.method = m) {rest : List Value} (hs : g.stack = .int x :: .int j :: .ref a :: rest) (hd : decode c.code g.pc = .ok (.bastore, 1)) :
    ∃ T' h', Stand p l e R s m args below meth c T' (locs ++ [⟨a, i⟩]) cells slots ∧ T'.heap = h' ∧ Wr h h' a i (.int x.toInt8.toInt32) ∧ own_A Z h' a .byte (vs.set i (.int x.toInt8.toInt32)) ∧ ∀ target, Steps p.tables e below (T'.setTop { g with pc := g.pc + 1, stack := rest }) target → Steps p.tables e below (T.setTop g) target := by
  obtain ⟨cl, A, rfl⟩ := A
  have hin := (own_in (cl := cl) (v := cl.slots.toList[i]) hj (List.getElem?_eq_getElem hi)).1
  obtain ⟨T', h', X', e', W', st⟩ := stB X hx hZ eT A (j := j) (x := x) hin hg hs hd
  rw [(own_ix hj).2] at X' W'
  exact ⟨T', h', X', e', W', own_A.set ⟨cl, A, rfl⟩ W', st⟩
theorem own_stS (X : Stand p l e R s m args below meth c T locs cells slots) (hx : p.tables.exec = Jvm.exec) (hZ : Z.Warmed39 s.vm) (eT : T.heap = h) (A : own_A Z h a .short vs) {j x : Int32} {i : Nat} (hj : j.toInt = (i : Int)) (hi : i < vs.length) {g : JFrame} (hg : g.method = m) {rest : List Value} (hs : g.stack = .int x :: .int j :: .ref a :: rest) (hd : decode c.code g.pc = .ok (.sastore, 1)) :
    ∃ T' h', Stand p l e R s m args below meth c T' (locs ++ [⟨a, i⟩]) cells slots ∧ T'.heap = h' ∧ Wr h h' a i (.int x.toInt16.toInt32) ∧ own_A Z h' a .short (vs.set i (.int x.toInt16.toInt32)) ∧ ∀ target, Steps p.tables e below (T'.setTop { g with pc := g.pc + 1, stack := rest }) target → Steps p.tables e below (T.setTop g) target := by
  obtain ⟨cl, A, rfl⟩ := A
  have hin := (own_in (cl := cl) (v := cl.slots.toList[i]) hj (List.getElem?_eq_getElem hi)).1
  obtain ⟨T', h', X', e', W', st⟩ := stS X hx hZ eT A (j := j) (x := x) hin hg hs hd
  rw [(own_ix hj).2] at X' W'
  exact ⟨T', h', X', e', W', own_A.set ⟨cl, A, rfl⟩ W', st⟩
theorem own_stC (X : Stand p l e R s m args below meth c T locs cells slots) (hx : p.tables.exec = Jvm.exec) (hZ : Z.Warmed39 s.vm) (eT : T.heap = h) (A : own_A Z h a .char vs) {j x : Int32} {i : Nat} (hj : j.toInt = (i : Int)) (hi : i < vs.length) {g : JFrame} (hg : g.method = m) {rest : List Value} (hs : g.stack = .int x :: .int j :: .ref a :: rest) (hd : decode c.code g.pc = .ok (.castore, 1)) :
    ∃ T' h', Stand p l e R s m args below meth c T' (locs ++ [⟨a, i⟩]) cells slots ∧ T'.heap = h' ∧ Wr h h' a i (.int x.toUInt32.toUInt16.toUInt32.toInt32) ∧ own_A Z h' a .char (vs.set i (.int x.toUInt32.toUInt16.toUInt32.toInt32)) ∧ ∀ target, Steps p.tables e below (T'.setTop { g with pc := g.pc + 1, stack := rest }) target → Steps p.tables e below (T.setTop g) target := by
  obtain ⟨cl, A, rfl⟩ := A
  have hin := (own_in (cl := cl) (v := cl.slots.toList[i]) hj (List.getElem?_eq_getElem hi)).1
  obtain ⟨T', h', X', e', W', st⟩ := stC X hx hZ eT A (j := j) (x := x) hin hg hs hd
  rw [(own_ix hj).2] at X' W'
  exact ⟨T', h', X', e', W', own_A.set ⟨cl, A, rfl⟩ W', st⟩
theorem own_newP {a0 : Array Value} (X : Stand p l e R s m args below meth c T locs cells slots) (hx : p.tables.exec = Jvm.exec) (hZ : Z.Warmed39 s.vm) {aty : ArrayType} (w : (Cond.arrayClass (newarray.typeOf aty)).before a0 Z = true) (eT : T.heap = h) {g : JFrame} (hg : g.method = m) (hd : decode c.code g.pc = .ok (.newarray aty, 2)) {n : Int32} {rest : List Value} (hs : g.stack = .int n :: rest)
    {k cap : Nat} (hk : n.toInt = (k : Int)) (hcap : k ≤ cap) (hb : cap * 8 ≤ 536870912) (hc : cells + 1 ≤ R.cells) (hl : slots + cap ≤ R.slots) {ad : String} (had : "[" ++ (newarray.typeOf aty).toString = ad) :
    ∃ T' h', Stand p l e R s m args below meth c T' locs (cells + 1) (slots + cap) ∧ T'.heap = h' ∧ Ext h h' ∧ own_A Z h' h.size (newarray.typeOf aty) (List.replicate k (defaultValue (newarray.typeOf aty))) ∧ Exa Z h' h.size ad ∧
      ∀ target, Steps p.tables e below (T'.setTop { g with pc := g.pc + 2, stack := .ref h.size :: rest }) target → Steps p.tables e below (T.setTop g) target := by
  obtain ⟨n0, n1⟩ := own_ix hk
  obtain ⟨T', h', cA, X', e', E', A', x', st⟩ := newPE X hx hZ w eT hg hd hs n0 (cap := cap) (by rw [n1]; exact hcap) hb hc hl had
  exact ⟨T', h', X', e', E', ⟨_, A', by simp [newA, n1]⟩, x', st⟩
theorem own_clone {a0 : Array Value} (X : Stand p l e R s m args below meth c T locs cells slots) (hx : p.tables.exec = Jvm.exec) (hZ : Z.Warmed39 s.vm) {own ad : String} {index : Nat} (hown : s.vm.findClass own = some m.cls)
    (w1 : (Cond.methodLink own index ⟨ad, "clone", "()Ljava/lang/Object;"⟩).before a0 Z = true) (w2 : (Cond.sameMethod ad "java/lang/Object" "clone" "()Ljava/lang/Object;").before a0 Z = true) (w3 : (Cond.native ⟨"java/lang/Object", "clone", "()Ljava/lang/Object;"⟩).before a0 Z = true)
    (w4 : (Cond.instanceMethod ⟨"java/lang/Object", "clone", "()Ljava/lang/Object;"⟩).before a0 Z = true) (w5 : (Cond.selects ad ⟨ad, "clone", "()Ljava/lang/Object;"⟩ ⟨"java/lang/Object", "clone", "()Ljava/lang/Object;"⟩).before a0 Z = true) (w6 : (Cond.castable ad "java/lang/Cloneable").before a0 Z = true)
    (eT : T.heap = h) (A : own_A Z h a ty vs) (E : Exa Z h a ad) (hf : ∀ v ∈ vs, fits ty v = true) {g : JFrame} (hg : g.method = m) (hsize : g.locals.size = c.maxLocals) {rest : List Value} (hst : g.stack = .ref a :: rest) (hd : decode c.code g.pc = .ok (.invokevirtual index, 3))
    (hfr : 1 ≤ R.frames) {W cap : Nat} (hW : 2 * g.monitorRoom + (rest.map fun v => v.category).sum ≤ W) (hl : W + 14 ≤ R.locals) (hcap : vs.length ≤ cap) (hc : cells + 1 ≤ R.cells) (hsl : slots + cap ≤ R.slots) :
    ∃ T' h', Stand p l e R s m args below meth c T' locs (cells + 1) (slots + cap) ∧ T'.heap = h' ∧ Ext h h' ∧ own_A Z h' h.size ty vs ∧ Exa Z h' h.size ad ∧
      ∀ target, Steps p.tables e below (T'.setTop { g with pc := g.pc + 3, stack := .ref h.size :: rest }) target → Steps p.tables e below (T.setTop g) target := by
  obtain ⟨cl, A, rfl⟩ := A
  have FC : FitC Z cl := fitC_of A fun i hi v hv => hf v (by
    rw [← Array.getElem?_toList] at hv
    exact List.mem_of_getElem? hv)
  obtain ⟨T', h', X', e', ex, A', E', st⟩ := cloneA X hx hZ hown w1 w2 w3 w4 w5 w6 eT A E FC hg hsize hst hd hfr hW hl (by simpa using hcap) hc hsl
  exact ⟨T', h', X', e', ex, ⟨_, A', rfl⟩, E', st⟩
def own_Ov (C : String) (Z : State) (h : Heap) (a : Addr) : Prop := ∃ c : Cell, h[a]? = some c ∧ Ovr Z c.cls C
theorem own_Ov.lt {C : String} (F : own_Ov C Z h a) : a < h.size := by obtain ⟨c, q, -⟩ := F; exact (Array.getElem?_eq_some_iff.mp q).1
theorem own_Ov.ext {C : String} (F : own_Ov C Z h a) (E : Ext h h') : own_Ov C Z h' a := by obtain ⟨c, q, r⟩ := F; exact ⟨c, E.2 _ _ q, r⟩
theorem own_Ov.other {C : String} {sl : Nat} {v : Value} (F : own_Ov C Z h a) (W : Wr h h' b sl v) (ne : a ≠ b) : own_Ov C Z h' a := by
  obtain ⟨c, q, r⟩ := F
  obtain ⟨c', q', -, -, -, e, -⟩ := wr_at W q
  exact ⟨c', q', by rw [e ne]; exact r⟩
theorem own_Ov.keep {C : String} {ws : List Addr} (F : own_Ov C Z h a) (K : Keep h h' ws) (ne : a ∉ ws) : own_Ov C Z h' a := by obtain ⟨c, q, r⟩ := F; exact ⟨c, K.2.1 _ _ q ne, r⟩
theorem own_newR {a0 : Array Value} (X : Stand p l e R s m args below meth c T locs cells slots) (hx : p.tables.exec = Jvm.exec) (hZ : Z.Warmed39 s.vm) {own C : String} {index : Nat} (hown : s.vm.findClass own = some m.cls) (w1 : (Cond.classLink own index C).before a0 Z = true) (w2 : (Cond.arrayOver (.object C)).before a0 Z = true) (eT : T.heap = h) {g : JFrame} (hg : g.method = m) (hd : decode c.code g.pc = .ok (.anewarray index, 3)) {n : Int32} {rest : List Value} (hs : g.stack = .int n :: rest)
    {k cap : Nat} (hk : n.toInt = (k : Int)) (hcap : k ≤ cap) (hb : cap * 8 ≤ 536870912) (hc : cells + 1 ≤ R.cells) (hl : slots + cap ≤ R.slots) {ad : String} (had : "[" ++ (FieldType.object C).toString = ad) :
    ∃ T' h', Stand p l e R s m args below meth c T' locs (cells + 1) (slots + cap) ∧ T'.heap = h' ∧ Ext h h' ∧ own_A Z h' h.size (.object C) (List.replicate k .null) ∧ Exa Z h' h.size ad ∧ own_Ov C Z h' h.size ∧
      ∀ target, Steps p.tables e below (T'.setTop { g with pc := g.pc + 3, stack := .ref h.size :: rest }) target → Steps p.tables e below (T.setTop g) target := by
  obtain ⟨n0, n1⟩ := own_ix hk
  obtain ⟨T', h', cA, X', e', E', A', x', O', st⟩ := newRE X hx hZ hown w1 w2 eT hg hd hs n0 (cap := cap) (by rw [n1]; exact hcap) hb hc hl had
  exact ⟨T', h', X', e', E', ⟨_, A', by simp [newA, n1, defaultValue]⟩, x', ⟨_, A'.1, O'⟩, st⟩
theorem own_stR {C : String} (X : Stand p l e R s m args below meth c T locs cells slots) (hx : p.tables.exec = Jvm.exec) (hZ : Z.Warmed39 s.vm) (eT : T.heap = h) (A : own_A Z h a (.object C) vs) (O : own_Ov C Z h a) {y : Addr} (I : Ins Z h y C true) {j : Int32} {i : Nat} (hj : j.toInt = (i : Int)) (hi : i < vs.length) {g : JFrame} (hg : g.method = m) {rest : List Value} (hs : g.stack = .ref y :: .int j :: .ref a :: rest) (hd : decode c.code g.pc = .ok (.aastore, 1)) :
    ∃ T' h', Stand p l e R s m args below meth c T' (locs ++ [⟨a, i⟩]) cells slots ∧ T'.heap = h' ∧ Wr h h' a i (.ref y) ∧ own_A Z h' a (.object C) (vs.set i (.ref y)) ∧ ∀ target, Steps p.tables e below (T'.setTop { g with pc := g.pc + 1, stack := rest }) target → Steps p.tables e below (T.setTop g) target := by
  obtain ⟨cl, A, rfl⟩ := A
  obtain ⟨c2, q, r⟩ := O
  cases A.1.symm.trans q
  have hin := (own_in (cl := cl) (v := cl.slots.toList[i]) hj (List.getElem?_eq_getElem hi)).1
  obtain ⟨T', h', X', e', W', st⟩ := stR X hx hZ eT A (j := j) (v := .ref y) hin rfl (Sto.of A r I) hg hs hd
  rw [(own_ix hj).2] at X' W'
  exact ⟨T', h', X', e', W', own_A.set ⟨cl, A, rfl⟩ W', st⟩
theorem own_len (X : Stand p l e R s m args below meth c T locs cells slots) (hx : p.tables.exec = Jvm.exec) (hZ : Z.Warmed39 s.vm) (eT : T.heap = h) (A : own_A Z h a ty vs) {n : Int32} (hn : n.toInt = (vs.length : Int)) {g : JFrame} (hg : g.method = m) {rest : List Value} (hs : g.stack = .ref a :: rest) (hd : decode c.code g.pc = .ok (.arraylength, 1)) {t : State}
    (k : Steps p.tables e below (T.setTop { g with pc := g.pc + 1, stack := .int n :: rest }) t) : Steps p.tables e below (T.setTop g) t := by
  obtain ⟨cl, A, rfl⟩ := A
  have h1 := n.toInt_lt
  have h2 : cl.slots.size.toInt32 = n := by
    refine Int32.toInt_inj.mp ?_
    rw [hn]
    have h3 : cl.slots.toList.length = cl.slots.size := by simp
    rw [h3] at hn ⊢
    exact len_toInt (by omega)
  refine X.arraylength hx (by rw [eT]; exact A.1) (State.isArrayOf_alike hZ.alike A.2.1) hg hs hd _ ?_
  rw [h2]; exact k
theorem own_lrem (X : Stand p l e R s m args below meth c T locs cells slots) (hx : p.tables.exec = Jvm.exec) {g : JFrame} (hg : g.method = m) {x y : Int64} {rest : List Value} (hd : decode c.code g.pc = .ok (.lrem, 1)) (hs : g.stack = .long y :: .long x :: rest) (hy : y ≠ 0) {t : State}
    (k : Steps p.tables e below (T.setTop { g with pc := g.pc + 1, stack := .long (x % y) :: rest }) t) : Steps p.tables e below (T.setTop g) t := XS.lrem X.here hx hg hd hs hy (by rw [lrem_mod]; exact k)
end OwnA
theorem own_Sta.keep {Z : State} {h h' : Heap} {ws : List Addr} {C n d : String} {v : Value} (F : Sta Z h C n d v) (K : Keep h h' ws) (q : ∀ st ∈ ws, ∀ cell : Cell, h[st]? = some cell → cell.vm.isStatics = false) : Sta Z h' C n d v := by
  obtain ⟨cf, i, k, f, st, cell, h1, h2, h3, h4, h5, h6, h7⟩ := F
  refine ⟨cf, i, k, f, st, cell, h1, h2, h3, h4, K.2.1 st cell h5 fun hm => ?_, h6, h7⟩
  rw [q st hm cell h5] at h6
  cases h6
theorem own_z_eq_t {c : Prop} [Decidable c] (h : ¬ c) : ifCond.holds .eq (if c then (1 : Int32) else 0) = true := by rw [if_neg h]; rfl
theorem own_z_eq_f {c : Prop} [Decidable c] (h : c) : ifCond.holds .eq (if c then (1 : Int32) else 0) = false := by rw [if_pos h]; rfl
theorem own_z_ne_t {c : Prop} [Decidable c] (h : c) : ifCond.holds .ne (if c then (1 : Int32) else 0) = true := by rw [if_pos h]; rfl
theorem own_z_ne_f {c : Prop} [Decidable c] (h : ¬ c) : ifCond.holds .ne (if c then (1 : Int32) else 0) = false := by rw [if_neg h]; rfl
theorem own_z_nar {c : Prop} [Decidable c] : nar .boolean (if c then (1 : Int32) else 0) = if c then (1 : Int32) else 0 := by split <;> rfl
/-- two slots that hold nothing or a long, whose value nobody reads again -/
def own_Two (a b : Slot) : Prop := (a = .unset ∧ b = .unset) ∨ ∃ z, a = .val (.long z) ∧ b = .second
theorem own_plainE {Z : State} {h : Heap} {a : Addr} {C : String} (F : Exa Z h a C) : ∀ cell : Cell, h[a]? = some cell → cell.vm.isStatics = false := fun cell hc => by
  obtain ⟨c, k, h1, -, -, h4, -⟩ := F
  cases h1.symm.trans hc
  exact h4
theorem own_plainA {Z : State} {h : Heap} {a : Addr} {ty : FieldType} {vs : List Value} (F : own_A Z h a ty vs) : ∀ cell : Cell, h[a]? = some cell → cell.vm.isStatics = false := fun cell hc => by
  obtain ⟨c, A, -⟩ := F
  cases A.1.symm.trans hc
  exact A.plain
theorem own_pop2 {tb : Tables} [Ours tb] {e : Env} {below : List Frame} {T target : State} {m : MethodId} {c : Code} {g : JFrame} (h : At T m c below) (hx : tb.exec = Jvm.exec) (hg : g.method = m) {x : Int64} {rest : List Value} (hd : decode c.code g.pc = .ok (.pop2, 1)) (hs : g.stack = .long x :: rest)
    (hr : Steps tb e below (T.setTop { g with pc := g.pc + 1, stack := rest }) target) : Steps tb e below (T.setTop g) target := by
  subst hg
  jvm_step h [h.top, hx, hd, hs, Value.category]
  exact hr
theorem own_min1 {i : Int32} {n : Nat} (h0 : 0 ≤ i.toInt) (h1 : i.toInt < (n : Int)) (hn : n < 1000) : (i + 1).toInt.toNat = i.toInt.toNat + 1 ∧ (i + 1).toInt = i.toInt + 1 := by
  have h2 := c_iadd i 1
  have h3 := rng32 (i + 1)
  have h4 : (1 : Int32).toInt = 1 := rfl
  omega
theorem own_ltN {i : Int32} {n : Nat} (hn : n < 1000) : i < n.toInt32 ↔ i.toInt < (n : Int) := by
  rw [Int32.lt_iff_toInt_lt, len_toInt (by omega)]
theorem own_getI {bs : List Int32} {i : Nat} (h : i < bs.length) : (bs.map Value.int)[i]? = some (.int (bs.getD i 0)) := by
  simp [List.getElem?_map, h]
theorem own_nat {i : Int32} (h : 0 ≤ i.toInt) : i.toInt = ((i.toInt.toNat : Nat) : Int) := by omega
theorem w_0 {a0 : Array Value} {Z : State} (hw : ∀ d ∈ tables_1, d.before a0 Z = true) : (Jvm.Cond.methodLink "com/example/relayframe/relayframe/PalettePackPinLaw" (7 : Nat) ({ cls := "java/lang/Math", name := "min", desc := "(II)I" } : Jvm.MethodName)).before a0 Z = true := hw _ (List.mem_of_getElem? (i := 0) rfl)
theorem w_1 {a0 : Array Value} {Z : State} (hw : ∀ d ∈ tables_1, d.before a0 Z = true) : (Jvm.Cond.static ({ cls := "java/lang/Math", name := "min", desc := "(II)I" } : Jvm.MethodName)).before a0 Z = true := hw _ (List.mem_of_getElem? (i := 1) rfl)
theorem w_2 {a0 : Array Value} {Z : State} (hw : ∀ d ∈ tables_1, d.before a0 Z = true) : (Jvm.Cond.initialized "java/lang/Math").before a0 Z = true := hw _ (List.mem_of_getElem? (i := 2) rfl)
theorem w_3 {a0 : Array Value} {Z : State} (hw : ∀ d ∈ tables_1, d.before a0 Z = true) : (Jvm.Cond.code ({ cls := "java/lang/Math", name := "min", desc := "(II)I" } : Jvm.MethodName) jdk_29_method_69_code (2 : Nat) (Option.some Jvm.ClassFile.FieldType.int)).before a0 Z = true := hw _ (List.mem_of_getElem? (i := 3) rfl)
theorem w_4 {a0 : Array Value} {Z : State} (hw : ∀ d ∈ tables_1, d.before a0 Z = true) : (Jvm.Cond.arrayClass Jvm.ClassFile.FieldType.byte).before a0 Z = true := hw _ (List.mem_of_getElem? (i := 4) rfl)
theorem w_5 {a0 : Array Value} {Z : State} (hw : ∀ d ∈ tables_1, d.before a0 Z = true) : (Jvm.Cond.methodLink "com/example/relayframe/relayframe/PalettePackPinLaw" (13 : Nat) ({ cls := "com/example/relayframe/relayframe/PalettePackPinLaw", name := "idx", desc := "(JII)I" } : Jvm.MethodName)).before a0 Z = true := hw _ (List.mem_of_getElem? (i := 5) rfl)
theorem w_6 {a0 : Array Value} {Z : State} (hw : ∀ d ∈ tables_1, d.before a0 Z = true) : (Jvm.Cond.static ({ cls := "com/example/relayframe/relayframe/PalettePackPinLaw", name := "idx", desc := "(JII)I" } : Jvm.MethodName)).before a0 Z = true := hw _ (List.mem_of_getElem? (i := 6) rfl)
theorem w_7 {a0 : Array Value} {Z : State} (hw : ∀ d ∈ tables_1, d.before a0 Z = true) : (Jvm.Cond.initialized "com/example/relayframe/relayframe/PalettePackPinLaw").before a0 Z = true := hw _ (List.mem_of_getElem? (i := 7) rfl)
theorem w_8 {a0 : Array Value} {Z : State} (hw : ∀ d ∈ tables_1, d.before a0 Z = true) : (Jvm.Cond.code ({ cls := "com/example/relayframe/relayframe/PalettePackPinLaw", name := "idx", desc := "(JII)I" } : Jvm.MethodName) method_3_code (4 : Nat) (Option.some Jvm.ClassFile.FieldType.int)).before a0 Z = true := hw _ (List.mem_of_getElem? (i := 8) rfl)
theorem w_9 {a0 : Array Value} {Z : State} (hw : ∀ d ∈ tables_1, d.before a0 Z = true) : (Jvm.Cond.methodLink "com/example/relayframe/relayframe/PalettePackPinLaw" (19 : Nat) ({ cls := "com/example/relayframe/relayframe/Palette", name := "pack", desc := "([BIII[BI)I" } : Jvm.MethodName)).before a0 Z = true := hw _ (List.mem_of_getElem? (i := 9) rfl)
theorem w_10 {a0 : Array Value} {Z : State} (hw : ∀ d ∈ tables_1, d.before a0 Z = true) : (Jvm.Cond.static ({ cls := "com/example/relayframe/relayframe/Palette", name := "pack", desc := "([BIII[BI)I" } : Jvm.MethodName)).before a0 Z = true := hw _ (List.mem_of_getElem? (i := 10) rfl)
theorem w_11 {a0 : Array Value} {Z : State} (hw : ∀ d ∈ tables_1, d.before a0 Z = true) : (Jvm.Cond.initialized "com/example/relayframe/relayframe/Palette").before a0 Z = true := hw _ (List.mem_of_getElem? (i := 11) rfl)
theorem w_12 {a0 : Array Value} {Z : State} (hw : ∀ d ∈ tables_1, d.before a0 Z = true) : (Jvm.Cond.code ({ cls := "com/example/relayframe/relayframe/Palette", name := "pack", desc := "([BIII[BI)I" } : Jvm.MethodName) prog_3_method_7_code (11 : Nat) (Option.some Jvm.ClassFile.FieldType.int)).before a0 Z = true := hw _ (List.mem_of_getElem? (i := 12) rfl)
theorem w_13 {a0 : Array Value} {Z : State} (hw : ∀ d ∈ tables_1, d.before a0 Z = true) : (Jvm.Cond.methodLink "com/example/relayframe/relayframe/PalettePackPinLaw" (25 : Nat) ({ cls := "com/example/relayframe/relayframe/PalettePackPinLaw", name := "same", desc := "([BIJIIIII)Z" } : Jvm.MethodName)).before a0 Z = true := hw _ (List.mem_of_getElem? (i := 13) rfl)
theorem w_14 {a0 : Array Value} {Z : State} (hw : ∀ d ∈ tables_1, d.before a0 Z = true) : (Jvm.Cond.static ({ cls := "com/example/relayframe/relayframe/PalettePackPinLaw", name := "same", desc := "([BIJIIIII)Z" } : Jvm.MethodName)).before a0 Z = true := hw _ (List.mem_of_getElem? (i := 14) rfl)
theorem w_15 {a0 : Array Value} {Z : State} (hw : ∀ d ∈ tables_1, d.before a0 Z = true) : (Jvm.Cond.code ({ cls := "com/example/relayframe/relayframe/PalettePackPinLaw", name := "same", desc := "([BIJIIIII)Z" } : Jvm.MethodName) method_4_code (9 : Nat) (Option.some Jvm.ClassFile.FieldType.boolean)).before a0 Z = true := hw _ (List.mem_of_getElem? (i := 15) rfl)
theorem w_16 {a0 : Array Value} {Z : State} (hw : ∀ d ∈ tables_1, d.before a0 Z = true) : (Jvm.Cond.methodLink "com/example/relayframe/relayframe/PalettePackPinLaw" (29 : Nat) ({ cls := "com/example/relayframe/relayframe/PalettePackPinLaw", name := "expectedByte", desc := "(JIIIIII)B" } : Jvm.MethodName)).before a0 Z = true := hw _ (List.mem_of_getElem? (i := 16) rfl)
theorem w_17 {a0 : Array Value} {Z : State} (hw : ∀ d ∈ tables_1, d.before a0 Z = true) : (Jvm.Cond.static ({ cls := "com/example/relayframe/relayframe/PalettePackPinLaw", name := "expectedByte", desc := "(JIIIIII)B" } : Jvm.MethodName)).before a0 Z = true := hw _ (List.mem_of_getElem? (i := 17) rfl)
theorem w_18 {a0 : Array Value} {Z : State} (hw : ∀ d ∈ tables_1, d.before a0 Z = true) : (Jvm.Cond.code ({ cls := "com/example/relayframe/relayframe/PalettePackPinLaw", name := "expectedByte", desc := "(JIIIIII)B" } : Jvm.MethodName) method_5_code (14 : Nat) (Option.some Jvm.ClassFile.FieldType.byte)).before a0 Z = true := hw _ (List.mem_of_getElem? (i := 18) rfl)
theorem w_19 {a0 : Array Value} {Z : State} (hw : ∀ d ∈ tables_1, d.before a0 Z = true) : (Jvm.Cond.methodLink "com/example/relayframe/relayframe/PalettePackPinLaw" (33 : Nat) ({ cls := "com/example/relayframe/relayframe/PalettePackPinLaw", name := "term", desc := "(JIIIIII)I" } : Jvm.MethodName)).before a0 Z = true := hw _ (List.mem_of_getElem? (i := 19) rfl)
theorem w_20 {a0 : Array Value} {Z : State} (hw : ∀ d ∈ tables_1, d.before a0 Z = true) : (Jvm.Cond.static ({ cls := "com/example/relayframe/relayframe/PalettePackPinLaw", name := "term", desc := "(JIIIIII)I" } : Jvm.MethodName)).before a0 Z = true := hw _ (List.mem_of_getElem? (i := 20) rfl)
theorem w_21 {a0 : Array Value} {Z : State} (hw : ∀ d ∈ tables_1, d.before a0 Z = true) : (Jvm.Cond.code ({ cls := "com/example/relayframe/relayframe/PalettePackPinLaw", name := "term", desc := "(JIIIIII)I" } : Jvm.MethodName) method_6_code (9 : Nat) (Option.some Jvm.ClassFile.FieldType.int)).before a0 Z = true := hw _ (List.mem_of_getElem? (i := 21) rfl)
abbrev iV (z : Int32) : Slot := .val (.int z)
abbrev jV (z : Int64) : Slot := .val (.long z)
abbrev rV (z : Addr) : Slot := .val (.ref z)
abbrev uV : Slot := .unset
abbrev sV : Slot := .second
/-- what is gathered of a row behind n columns, the full bytes being handed on -/
def own_cu (b : Nat) (B : Int32) (f : Nat → Int32) : Nat → Int32
  | 0 => 0
  | n + 1 => if ((n + 1) * b) % 8 = 0 then 0 else (own_cu b B f n <<< (B &&& 31)) ||| f n
def own_cv (b : Nat) (B : Int32) (f : Nat → Int32) (n : Nat) : Int32 := (own_cu b B f n <<< (B &&& 31)) ||| f n
/-- sixteen bytes: those of ys, but for n of them from o on, which are G's -/
def own_Ow (ys : List Int32) (o n : Nat) (G : Nat → Int32) (vs : List Value) : Prop := vs.length = 16 ∧ ∀ k, k < 16 → vs[k]? = some (.int (if o ≤ k ∧ k < o + n then G (k - o) else ys.getD k 0))
theorem own_Ow.start {ys : List Int32} {o : Nat} {G : Nat → Int32} (h : ys.length = 16) : own_Ow ys o 0 G (ys.map Value.int) := by
  refine ⟨by rw [List.length_map]; exact h, fun k hk => ?_⟩
  rw [if_neg (by omega)]
  exact own_getI (by omega)
theorem own_Ow.step {ys : List Int32} {o n i : Nat} {G : Nat → Int32} {vs : List Value} {v : Int32} (h : own_Ow ys o n G vs) (hi : i = o + n) (hl : i < 16) (hv : G n = v) : own_Ow ys o (n + 1) G (vs.set i (.int v)) := by
  obtain ⟨h1, h2⟩ := h
  refine ⟨by rw [List.length_set]; exact h1, fun k hk => ?_⟩
  by_cases e : k = i
  · have h3 : k - o = n := by omega
    rw [e, List.getElem?_set_self (by omega), if_pos (by omega)]
    rw [← e, h3, hv]
  · rw [List.getElem?_set_ne (fun q => e q.symm), h2 k hk]
    by_cases c : o ≤ k ∧ k < o + n
    · rw [if_pos c, if_pos (by omega)]
    · rw [if_neg c, if_neg (by omega)]
theorem own_bb (x : Int32) : x.toInt8.toInt32.toInt8.toInt32 = x.toInt8.toInt32 := by rw [Int8.toInt8_toInt32]
theorem own_sml {x : Int32} (h : 0 ≤ x.toInt ∧ x.toInt < 128) : x.toInt8.toInt32 = x := by
  have h1 := c_i2b x
  exact Int32.toInt_inj.mp (by omega)
theorem own_inc {x : Int32} (h : -1 ≤ x.toInt ∧ x.toInt ≤ 1000) : (x + (1 : Int32)).toInt = x.toInt + 1 := by
  have h1 := c_iadd x 1
  have h2 := rng32 (x + 1)
  have h3 : (1 : Int32).toInt = 1 := rfl
  omega
theorem own_r0 {p q : Int32} (hp : 0 ≤ p.toInt ∧ p.toInt ≤ 8) (hq : 0 ≤ q.toInt ∧ q.toInt ≤ 8) : (((0 : Int32) * p) + q).toInt = ((0 + q.toInt.toNat : Nat) : Int) := by
  have h1 := c_imul 0 p
  have z : (0 : Int32).toInt = 0 := rfl
  rw [z] at h1
  have h2 := rng32 ((0 : Int32) * p)
  have h3 := c_iadd ((0 : Int32) * p) q
  have h4 := rng32 (((0 : Int32) * p) + q)
  omega
theorem own_r1 {p q : Int32} (hp : 0 ≤ p.toInt ∧ p.toInt ≤ 8) (hq : 0 ≤ q.toInt ∧ q.toInt ≤ 8) : (((1 : Int32) * p) + q).toInt = ((p.toInt.toNat + q.toInt.toNat : Nat) : Int) := by
  have h1 := c_imul 1 p
  have z : (1 : Int32).toInt = 1 := rfl
  rw [z] at h1
  have h2 := rng32 ((1 : Int32) * p)
  have h3 := c_iadd ((1 : Int32) * p) q
  have h4 := rng32 (((1 : Int32) * p) + q)
  omega
theorem own_eq8 {v : Int32} : v = (8 : Int32) ↔ v.toInt = 8 := ⟨fun h => by rw [h]; rfl, fun h => Int32.toInt_inj.mp (h.trans (show (8 : Int) = (8 : Int32).toInt from rfl))⟩
theorem d1_0 : decode jdk_29_method_69_code 0 = .ok (.iload_n 0, 1) := by decide +kernel
theorem d1_1 : decode jdk_29_method_69_code 1 = .ok (.iload_n 1, 1) := by decide +kernel
theorem d1_2 : decode jdk_29_method_69_code 2 = .ok (.if_icmp .gt 7, 3) := by decide +kernel
theorem d1_5 : decode jdk_29_method_69_code 5 = .ok (.iload_n 0, 1) := by decide +kernel
theorem d1_6 : decode jdk_29_method_69_code 6 = .ok (.goto 4, 3) := by decide +kernel
theorem d1_9 : decode jdk_29_method_69_code 9 = .ok (.iload_n 1, 1) := by decide +kernel
theorem d1_10 : decode jdk_29_method_69_code 10 = .ok (.ireturn, 1) := by decide +kernel
theorem ef_1 (m : MethodId) (x0 : Int32) (x1 : Int32) : entryFrame m #[(.int x0), (.int x1)] 2 = mkF m 0 #[.val (.int x0), .val (.int x1)] [] := by first | (simp [entryFrame, mkF, argsToLocals, Value.category]; done) | rfl
def own_min (p1 : Int32) (p2 : Int32) : Int32 := (if p2 < p1 then p2 else p1)
def Q1 (Z : State) (p1 : Int32) (p2 : Int32) (h0 : Heap) (n0 : Nat) (v : Option Value) (h : Heap) (L : List Loc) : Prop := v = some (.int (own_min p1 p2)) ∧ Fr n0 L ∧ h = h0
set_option maxHeartbeats 40000000 in
theorem rm1 (l : Launch) (Z : State) (a0 : Array Value) (hw : ∀ d ∈ tables_1, d.before a0 Z = true) (ws : List Jvm.Cond) (p1 : Int32) (p2 : Int32) (h0 : Heap) (n0 : Nat) (Z0 : n0 ≤ h0.size) :
    MetFree l (⟨"java/lang/Math", "min", "(II)I"⟩ : MethodName) (head1 (Jvm.Cond.code (⟨"java/lang/Math", "min", "(II)I"⟩ : MethodName) jdk_29_method_69_code 2 (some .int) :: ws) ({ frames := 0, cells := 0, slots := 0, locals := 0 } : Room)) (fun a U => a = #[(.int p1), (.int p2)] ∧ Z.Warmed39 U.vm ∧ U.heap = h0) (fun _ _ _ _ _ => True) (fun _ U o U' => ∃ v L, o = .returned v ∧ Q1 Z p1 p2 h0 n0 v U'.heap L ∧ FrameEnd U o U' L ({ frames := 0, cells := 0, slots := 0, locals := 0 } : Room).cells ({ frames := 0, cells := 0, slots := 0, locals := 0 } : Room).slots) := by
  refine MetFree.of_bodySF (Jvm.Free.JP.mathPlain rfl (by decide +kernel)) hisR ?_
  intro p e s m args below meth c s₁ Bd hml0 hP hK
  obtain ⟨rfl, hZ, hh⟩ := hP
  have hx := Bd.exec
  have hby := Bd.bytes
  have hml : c.maxLocals = 2 := hml0
  have hlk : meth.locks = false := BodyLoose.notSynchronized Bd
  have hown : s.vm.findClass "java/lang/Math" = some m.cls := findClass_of_methodNamed Bd.named
  have hnm := (name_of_methodNamed Bd.named Bd.method).1
  have X0 : Stand p l e ({ frames := 0, cells := 0, slots := 0, locals := 0 } : Room) s m #[(.int p1), (.int p2)] below meth c s₁ [] 0 0 := Stand.of_body Bd
  have e0 : s₁.heap = h0 := by rw [← hh, Bd.state]; rfl
  have N0 := Fr.nil n0
  show own_Go p e below s (Q1 Z p1 p2 h0 n0) ({ frames := 0, cells := 0, slots := 0, locals := 0 } : Room).cells ({ frames := 0, cells := 0, slots := 0, locals := 0 } : Room).slots _
  refine own_st (B := s₁.setTop (mkF m 0 #[(iV p1), (iV p2)] [])) (fun t k => castTop (ef_1 m (p1) (p2)) k) ?_
  refine own_st (B := s₁.setTop (mkF m 1 #[(iV p1), (iV p2)] [(.int p1)])) (fun t k => XS.iloadN X0.here hx rfl (hb hby d1_0) rfl k) ?_
  refine own_st (B := s₁.setTop (mkF m 2 #[(iV p1), (iV p2)] [(.int p2), (.int p1)])) (fun t k => XS.iloadN X0.here hx rfl (hb hby d1_1) rfl k) ?_
  by_cases hc1 : p2 < p1
  · refine own_st (B := s₁.setTop (mkF m 9 #[(iV p1), (iV p2)] [])) (fun t k => XS.icmpYes X0.here hx rfl (pc0 := 2) (pc' := 9) rfl (hb hby d1_2) rfl (XT.ii_gt_t hc1) (by decide) (by decide) k) ?_
    refine own_st (B := s₁.setTop (mkF m 10 #[(iV p1), (iV p2)] [(.int p2)])) (fun t k => XS.iloadN X0.here hx rfl (hb hby d1_9) rfl k) ?_
    refine own_retI X0 hx hlk Bd.returns (hb hby d1_10) (by decide) (by decide) ?_
    show Q1 Z p1 p2 h0 n0 _ s₁.heap _
    rw [e0]
    exact ⟨(by unfold own_min; rw [if_pos hc1]), N0, rfl⟩
  · refine own_st (B := s₁.setTop (mkF m 5 #[(iV p1), (iV p2)] [])) (fun t k => XS.icmpNo X0.here hx rfl (hb hby d1_2) rfl (XT.ii_gt_f hc1) k) ?_
    refine own_st (B := s₁.setTop (mkF m 6 #[(iV p1), (iV p2)] [(.int p1)])) (fun t k => XS.iloadN X0.here hx rfl (hb hby d1_5) rfl k) ?_
    refine own_st (B := s₁.setTop (mkF m 10 #[(iV p1), (iV p2)] [(.int p1)])) (fun t k => XS.goto X0.here hx rfl (pc0 := 6) (pc' := 10) rfl (hb hby d1_6) (by decide) (by decide) k) ?_
    refine own_retI X0 hx hlk Bd.returns (hb hby d1_10) (by decide) (by decide) ?_
    show Q1 Z p1 p2 h0 n0 _ s₁.heap _
    rw [e0]
    exact ⟨(by unfold own_min; rw [if_neg hc1]), N0, rfl⟩
theorem own_pn1 : plainName "com/example/relayframe/relayframe/PalettePackPinLaw" = true := by first | (simp [plainName, overriddenIn]; done) | decide +kernel
theorem d2_0 : decode method_3_code 0 = .ok (.lload_n 0, 1) := by decide +kernel
theorem d2_1 : decode method_3_code 1 = .ok (.iconst 4, 1) := by decide +kernel
theorem d2_2 : decode method_3_code 2 = .ok (.iload_n 3, 1) := by decide +kernel
theorem d2_3 : decode method_3_code 3 = .ok (.imul, 1) := by decide +kernel
theorem d2_4 : decode method_3_code 4 = .ok (.lushr, 1) := by decide +kernel
theorem d2_5 : decode method_3_code 5 = .ok (.l2i, 1) := by decide +kernel
theorem d2_6 : decode method_3_code 6 = .ok (.iconst 1, 1) := by decide +kernel
theorem d2_7 : decode method_3_code 7 = .ok (.iload_n 2, 1) := by decide +kernel
theorem d2_8 : decode method_3_code 8 = .ok (.ishl, 1) := by decide +kernel
theorem d2_9 : decode method_3_code 9 = .ok (.iconst 1, 1) := by decide +kernel
theorem d2_10 : decode method_3_code 10 = .ok (.isub, 1) := by decide +kernel
theorem d2_11 : decode method_3_code 11 = .ok (.iand, 1) := by decide +kernel
theorem d2_12 : decode method_3_code 12 = .ok (.ireturn, 1) := by decide +kernel
theorem ef_2 (m : MethodId) (x0 : Int64) (x1 : Int32) (x2 : Int32) : entryFrame m #[(.long x0), (.int x1), (.int x2)] 4 = mkF m 0 #[.val (.long x0), .second, .val (.int x1), .val (.int x2)] [] := by first | (simp [entryFrame, mkF, argsToLocals, Value.category]; done) | rfl
def own_idx (q1 : Int64) (p2 : Int32) (p3 : Int32) : Int32 := ((((q1.toUInt64 >>> (((4 : Int32) * p3) &&& 0x3f).toInt64.toUInt64).toInt64).toInt32) &&& (((1 : Int32) <<< (p2 &&& 31)) - (1 : Int32)))
def Q2 (Z : State) (q1 : Int64) (p2 : Int32) (p3 : Int32) (h0 : Heap) (n0 : Nat) (v : Option Value) (h : Heap) (L : List Loc) : Prop := v = some (.int (own_idx q1 p2 p3)) ∧ Fr n0 L ∧ h = h0
set_option maxHeartbeats 40000000 in
theorem rm2 (l : Launch) (Z : State) (a0 : Array Value) (hw : ∀ d ∈ tables_1, d.before a0 Z = true) (ws : List Jvm.Cond) (q1 : Int64) (p2 : Int32) (p3 : Int32) (h0 : Heap) (n0 : Nat) (Z0 : n0 ≤ h0.size) :
    MetFree l (⟨"com/example/relayframe/relayframe/PalettePackPinLaw", "idx", "(JII)I"⟩ : MethodName) (head1 (Jvm.Cond.code (⟨"com/example/relayframe/relayframe/PalettePackPinLaw", "idx", "(JII)I"⟩ : MethodName) method_3_code 4 (some .int) :: ws) ({ frames := 0, cells := 0, slots := 0, locals := 0 } : Room)) (fun a U => a = #[(.long q1), (.int p2), (.int p3)] ∧ Z.Warmed39 U.vm ∧ U.heap = h0) (fun _ _ _ _ _ => True) (fun _ U o U' => ∃ v L, o = .returned v ∧ Q2 Z q1 p2 p3 h0 n0 v U'.heap L ∧ FrameEnd U o U' L ({ frames := 0, cells := 0, slots := 0, locals := 0 } : Room).cells ({ frames := 0, cells := 0, slots := 0, locals := 0 } : Room).slots) := by
  refine MetFree.of_bodySF (plainFor_of_name own_pn1) hisR ?_
  intro p e s m args below meth c s₁ Bd hml0 hP hK
  obtain ⟨rfl, hZ, hh⟩ := hP
  have hx := Bd.exec
  have hby := Bd.bytes
  have hml : c.maxLocals = 4 := hml0
  have hlk : meth.locks = false := BodyLoose.notSynchronized Bd
  have hown : s.vm.findClass "com/example/relayframe/relayframe/PalettePackPinLaw" = some m.cls := findClass_of_methodNamed Bd.named
  have hnm := (name_of_methodNamed Bd.named Bd.method).1
  have X0 : Stand p l e ({ frames := 0, cells := 0, slots := 0, locals := 0 } : Room) s m #[(.long q1), (.int p2), (.int p3)] below meth c s₁ [] 0 0 := Stand.of_body Bd
  have e0 : s₁.heap = h0 := by rw [← hh, Bd.state]; rfl
  have N0 := Fr.nil n0
  show own_Go p e below s (Q2 Z q1 p2 p3 h0 n0) ({ frames := 0, cells := 0, slots := 0, locals := 0 } : Room).cells ({ frames := 0, cells := 0, slots := 0, locals := 0 } : Room).slots _
  refine own_st (B := s₁.setTop (mkF m 0 #[(jV q1), sV, (iV p2), (iV p3)] [])) (fun t k => castTop (ef_2 m (q1) (p2) (p3)) k) ?_
  refine own_st (B := s₁.setTop (mkF m 1 #[(jV q1), sV, (iV p2), (iV p3)] [(.long q1)])) (fun t k => XS.lloadN X0.here hx rfl (hb hby d2_0) rfl k) ?_
  refine own_st (B := s₁.setTop (mkF m 2 #[(jV q1), sV, (iV p2), (iV p3)] [(.int (4 : Int32)), (.long q1)])) (fun t k => XS.iconst X0.here hx rfl (hb hby d2_1) k) ?_
  refine own_st (B := s₁.setTop (mkF m 3 #[(jV q1), sV, (iV p2), (iV p3)] [(.int p3), (.int (4 : Int32)), (.long q1)])) (fun t k => XS.iloadN X0.here hx rfl (hb hby d2_2) rfl k) ?_
  refine own_st (B := s₁.setTop (mkF m 4 #[(jV q1), sV, (iV p2), (iV p3)] [(.int ((4 : Int32) * p3)), (.long q1)])) (fun t k => XS.imul X0.here hx rfl (hb hby d2_3) rfl k) ?_
  refine own_st (B := s₁.setTop (mkF m 5 #[(jV q1), sV, (iV p2), (iV p3)] [(.long ((q1.toUInt64 >>> (((4 : Int32) * p3) &&& 0x3f).toInt64.toUInt64).toInt64))])) (fun t k => XS.lushr X0.here hx rfl (hb hby d2_4) rfl k) ?_
  refine own_st (B := s₁.setTop (mkF m 6 #[(jV q1), sV, (iV p2), (iV p3)] [(.int (((q1.toUInt64 >>> (((4 : Int32) * p3) &&& 0x3f).toInt64.toUInt64).toInt64).toInt32))])) (fun t k => XS.l2i X0.here hx rfl (hb hby d2_5) rfl k) ?_
  refine own_st (B := s₁.setTop (mkF m 7 #[(jV q1), sV, (iV p2), (iV p3)] [(.int (1 : Int32)), (.int (((q1.toUInt64 >>> (((4 : Int32) * p3) &&& 0x3f).toInt64.toUInt64).toInt64).toInt32))])) (fun t k => XS.iconst X0.here hx rfl (hb hby d2_6) k) ?_
  refine own_st (B := s₁.setTop (mkF m 8 #[(jV q1), sV, (iV p2), (iV p3)] [(.int p2), (.int (1 : Int32)), (.int (((q1.toUInt64 >>> (((4 : Int32) * p3) &&& 0x3f).toInt64.toUInt64).toInt64).toInt32))])) (fun t k => XS.iloadN X0.here hx rfl (hb hby d2_7) rfl k) ?_
  refine own_st (B := s₁.setTop (mkF m 9 #[(jV q1), sV, (iV p2), (iV p3)] [(.int ((1 : Int32) <<< (p2 &&& 31))), (.int (((q1.toUInt64 >>> (((4 : Int32) * p3) &&& 0x3f).toInt64.toUInt64).toInt64).toInt32))])) (fun t k => XS.ishl X0.here hx rfl (hb hby d2_8) rfl k) ?_
  refine own_st (B := s₁.setTop (mkF m 10 #[(jV q1), sV, (iV p2), (iV p3)] [(.int (1 : Int32)), (.int ((1 : Int32) <<< (p2 &&& 31))), (.int (((q1.toUInt64 >>> (((4 : Int32) * p3) &&& 0x3f).toInt64.toUInt64).toInt64).toInt32))])) (fun t k => XS.iconst X0.here hx rfl (hb hby d2_9) k) ?_
  refine own_st (B := s₁.setTop (mkF m 11 #[(jV q1), sV, (iV p2), (iV p3)] [(.int (((1 : Int32) <<< (p2 &&& 31)) - (1 : Int32))), (.int (((q1.toUInt64 >>> (((4 : Int32) * p3) &&& 0x3f).toInt64.toUInt64).toInt64).toInt32))])) (fun t k => XS.isub X0.here hx rfl (hb hby d2_10) rfl k) ?_
  refine own_st (B := s₁.setTop (mkF m 12 #[(jV q1), sV, (iV p2), (iV p3)] [(.int ((((q1.toUInt64 >>> (((4 : Int32) * p3) &&& 0x3f).toInt64.toUInt64).toInt64).toInt32) &&& (((1 : Int32) <<< (p2 &&& 31)) - (1 : Int32))))])) (fun t k => XS.iand X0.here hx rfl (hb hby d2_11) rfl k) ?_
  refine own_retI X0 hx hlk Bd.returns (hb hby d2_12) (by decide) (by decide) ?_
  show Q2 Z q1 p2 p3 h0 n0 _ s₁.heap _
  rw [e0]
  exact ⟨(by unfold own_idx; rfl), N0, rfl⟩
theorem own_pd1 : parseMethodDescriptor "(JII)I" = some ⟨[.long, .int, .int], some .int⟩ := by decide +kernel
theorem d6_0 : decode method_6_code 0 = .ok (.iload 7, 2) := by decide +kernel
theorem d6_2 : decode method_6_code 2 = .ok (.iload 5, 2) := by decide +kernel
theorem d6_4 : decode method_6_code 4 = .ok (.if_icmp .lt 5, 3) := by decide +kernel
theorem d6_7 : decode method_6_code 7 = .ok (.iconst 0, 1) := by decide +kernel
theorem d6_8 : decode method_6_code 8 = .ok (.ireturn, 1) := by decide +kernel
theorem d6_9 : decode method_6_code 9 = .ok (.iload 4, 2) := by decide +kernel
theorem d6_11 : decode method_6_code 11 = .ok (.iload 5, 2) := by decide +kernel
theorem d6_13 : decode method_6_code 13 = .ok (.imul, 1) := by decide +kernel
theorem d6_14 : decode method_6_code 14 = .ok (.iload 7, 2) := by decide +kernel
theorem d6_16 : decode method_6_code 16 = .ok (.iadd, 1) := by decide +kernel
theorem d6_17 : decode method_6_code 17 = .ok (.istore 8, 2) := by decide +kernel
theorem d6_19 : decode method_6_code 19 = .ok (.iload 8, 2) := by decide +kernel
theorem d6_21 : decode method_6_code 21 = .ok (.iload_n 2, 1) := by decide +kernel
theorem d6_22 : decode method_6_code 22 = .ok (.if_icmp .lt 5, 3) := by decide +kernel
theorem d6_25 : decode method_6_code 25 = .ok (.iconst 0, 1) := by decide +kernel
theorem d6_26 : decode method_6_code 26 = .ok (.ireturn, 1) := by decide +kernel
theorem d6_27 : decode method_6_code 27 = .ok (.lload_n 0, 1) := by decide +kernel
theorem d6_28 : decode method_6_code 28 = .ok (.iload 6, 2) := by decide +kernel
theorem d6_30 : decode method_6_code 30 = .ok (.iload_n 3, 1) := by decide +kernel
theorem d6_31 : decode method_6_code 31 = .ok (.iload_n 2, 1) := by decide +kernel
theorem d6_32 : decode method_6_code 32 = .ok (.imul, 1) := by decide +kernel
theorem d6_33 : decode method_6_code 33 = .ok (.iload 8, 2) := by decide +kernel
theorem d6_35 : decode method_6_code 35 = .ok (.iadd, 1) := by decide +kernel
theorem d6_36 : decode method_6_code 36 = .ok (.invokestatic 13, 3) := by decide +kernel
theorem d6_39 : decode method_6_code 39 = .ok (.bipush 8, 2) := by decide +kernel
theorem d6_41 : decode method_6_code 41 = .ok (.iload 6, 2) := by decide +kernel
theorem d6_43 : decode method_6_code 43 = .ok (.iload 7, 2) := by decide +kernel
theorem d6_45 : decode method_6_code 45 = .ok (.iconst 1, 1) := by decide +kernel
theorem d6_46 : decode method_6_code 46 = .ok (.iadd, 1) := by decide +kernel
theorem d6_47 : decode method_6_code 47 = .ok (.imul, 1) := by decide +kernel
theorem d6_48 : decode method_6_code 48 = .ok (.isub, 1) := by decide +kernel
theorem d6_49 : decode method_6_code 49 = .ok (.ishl, 1) := by decide +kernel
theorem d6_50 : decode method_6_code 50 = .ok (.ireturn, 1) := by decide +kernel
theorem ef_6 (m : MethodId) (x0 : Int64) (x1 : Int32) (x2 : Int32) (x3 : Int32) (x4 : Int32) (x5 : Int32) (x6 : Int32) : entryFrame m #[(.long x0), (.int x1), (.int x2), (.int x3), (.int x4), (.int x5), (.int x6)] 9 = mkF m 0 #[.val (.long x0), .second, .val (.int x1), .val (.int x2), .val (.int x3), .val (.int x4), .val (.int x5), .val (.int x6), .unset] [] := by first | (simp [entryFrame, mkF, argsToLocals, Value.category]; done) | rfl
def own_term (q1 : Int64) (p2 : Int32) (p3 : Int32) (p4 : Int32) (p5 : Int32) (p6 : Int32) (p7 : Int32) : Int32 := (if p7 < p5 then (if ((p4 * p5) + p7) < p2 then ((own_idx q1 p6 ((p3 * p2) + ((p4 * p5) + p7))) <<< (((8 : Int32) - (p6 * (p7 + (1 : Int32)))) &&& 31)) else (0 : Int32)) else (0 : Int32))
def Q6 (Z : State) (q1 : Int64) (p2 : Int32) (p3 : Int32) (p4 : Int32) (p5 : Int32) (p6 : Int32) (p7 : Int32) (h0 : Heap) (n0 : Nat) (v : Option Value) (h : Heap) (L : List Loc) : Prop := v = some (.int (own_term q1 p2 p3 p4 p5 p6 p7)) ∧ Fr n0 L ∧ h = h0
set_option maxHeartbeats 40000000 in
theorem rm6 (l : Launch) (Z : State) (a0 : Array Value) (hw : ∀ d ∈ tables_1, d.before a0 Z = true) (ws : List Jvm.Cond) (q1 : Int64) (p2 : Int32) (p3 : Int32) (p4 : Int32) (p5 : Int32) (p6 : Int32) (p7 : Int32) (h0 : Heap) (n0 : Nat) (Z0 : n0 ≤ h0.size) :
    MetFree l (⟨"com/example/relayframe/relayframe/PalettePackPinLaw", "term", "(JIIIIII)I"⟩ : MethodName) (head1 (Jvm.Cond.code (⟨"com/example/relayframe/relayframe/PalettePackPinLaw", "term", "(JIIIIII)I"⟩ : MethodName) method_6_code 9 (some .int) :: ws) ({ frames := 1, cells := 0, slots := 0, locals := 15 } : Room)) (fun a U => a = #[(.long q1), (.int p2), (.int p3), (.int p4), (.int p5), (.int p6), (.int p7)] ∧ Z.Warmed39 U.vm ∧ U.heap = h0) (fun _ _ _ _ _ => True) (fun _ U o U' => ∃ v L, o = .returned v ∧ Q6 Z q1 p2 p3 p4 p5 p6 p7 h0 n0 v U'.heap L ∧ FrameEnd U o U' L ({ frames := 1, cells := 0, slots := 0, locals := 15 } : Room).cells ({ frames := 1, cells := 0, slots := 0, locals := 15 } : Room).slots) := by
  refine MetFree.of_bodySF (plainFor_of_name own_pn1) hisR ?_
  intro p e s m args below meth c s₁ Bd hml0 hP hK
  obtain ⟨rfl, hZ, hh⟩ := hP
  have hx := Bd.exec
  have hby := Bd.bytes
  have hml : c.maxLocals = 9 := hml0
  have hlk : meth.locks = false := BodyLoose.notSynchronized Bd
  have hown : s.vm.findClass "com/example/relayframe/relayframe/PalettePackPinLaw" = some m.cls := findClass_of_methodNamed Bd.named
  have hnm := (name_of_methodNamed Bd.named Bd.method).1
  have X0 : Stand p l e ({ frames := 1, cells := 0, slots := 0, locals := 15 } : Room) s m #[(.long q1), (.int p2), (.int p3), (.int p4), (.int p5), (.int p6), (.int p7)] below meth c s₁ [] 0 0 := Stand.of_body Bd
  have e0 : s₁.heap = h0 := by rw [← hh, Bd.state]; rfl
  have N0 := Fr.nil n0
  show own_Go p e below s (Q6 Z q1 p2 p3 p4 p5 p6 p7 h0 n0) ({ frames := 1, cells := 0, slots := 0, locals := 15 } : Room).cells ({ frames := 1, cells := 0, slots := 0, locals := 15 } : Room).slots _
  refine own_st (B := s₁.setTop (mkF m 0 #[(jV q1), sV, (iV p2), (iV p3), (iV p4), (iV p5), (iV p6), (iV p7), uV] [])) (fun t k => castTop (ef_6 m (q1) (p2) (p3) (p4) (p5) (p6) (p7)) k) ?_
  refine own_st (B := s₁.setTop (mkF m 2 #[(jV q1), sV, (iV p2), (iV p3), (iV p4), (iV p5), (iV p6), (iV p7), uV] [(.int p7)])) (fun t k => XS.iload X0.here hx rfl (hb hby d6_0) rfl k) ?_
  refine own_st (B := s₁.setTop (mkF m 4 #[(jV q1), sV, (iV p2), (iV p3), (iV p4), (iV p5), (iV p6), (iV p7), uV] [(.int p5), (.int p7)])) (fun t k => XS.iload X0.here hx rfl (hb hby d6_2) rfl k) ?_
  by_cases hc1 : p7 < p5
  · refine own_st (B := s₁.setTop (mkF m 9 #[(jV q1), sV, (iV p2), (iV p3), (iV p4), (iV p5), (iV p6), (iV p7), uV] [])) (fun t k => XS.icmpYes X0.here hx rfl (pc0 := 4) (pc' := 9) rfl (hb hby d6_4) rfl (XT.ii_lt_t hc1) (by decide) (by decide) k) ?_
    refine own_st (B := s₁.setTop (mkF m 11 #[(jV q1), sV, (iV p2), (iV p3), (iV p4), (iV p5), (iV p6), (iV p7), uV] [(.int p4)])) (fun t k => XS.iload X0.here hx rfl (hb hby d6_9) rfl k) ?_
    refine own_st (B := s₁.setTop (mkF m 13 #[(jV q1), sV, (iV p2), (iV p3), (iV p4), (iV p5), (iV p6), (iV p7), uV] [(.int p5), (.int p4)])) (fun t k => XS.iload X0.here hx rfl (hb hby d6_11) rfl k) ?_
    refine own_st (B := s₁.setTop (mkF m 14 #[(jV q1), sV, (iV p2), (iV p3), (iV p4), (iV p5), (iV p6), (iV p7), uV] [(.int (p4 * p5))])) (fun t k => XS.imul X0.here hx rfl (hb hby d6_13) rfl k) ?_
    refine own_st (B := s₁.setTop (mkF m 16 #[(jV q1), sV, (iV p2), (iV p3), (iV p4), (iV p5), (iV p6), (iV p7), uV] [(.int p7), (.int (p4 * p5))])) (fun t k => XS.iload X0.here hx rfl (hb hby d6_14) rfl k) ?_
    refine own_st (B := s₁.setTop (mkF m 17 #[(jV q1), sV, (iV p2), (iV p3), (iV p4), (iV p5), (iV p6), (iV p7), uV] [(.int ((p4 * p5) + p7))])) (fun t k => XS.iadd X0.here hx rfl (hb hby d6_16) rfl k) ?_
    refine own_st (B := s₁.setTop (mkF m 19 #[(jV q1), sV, (iV p2), (iV p3), (iV p4), (iV p5), (iV p6), (iV p7), (iV ((p4 * p5) + p7))] [])) (fun t k => XS.istore X0.here hx rfl (hb hby d6_17) rfl (l' := #[(jV q1), sV, (iV p2), (iV p3), (iV p4), (iV p5), (iV p6), (iV p7), (iV ((p4 * p5) + p7))]) rfl k) ?_
    refine own_st (B := s₁.setTop (mkF m 21 #[(jV q1), sV, (iV p2), (iV p3), (iV p4), (iV p5), (iV p6), (iV p7), (iV ((p4 * p5) + p7))] [(.int ((p4 * p5) + p7))])) (fun t k => XS.iload X0.here hx rfl (hb hby d6_19) rfl k) ?_
    refine own_st (B := s₁.setTop (mkF m 22 #[(jV q1), sV, (iV p2), (iV p3), (iV p4), (iV p5), (iV p6), (iV p7), (iV ((p4 * p5) + p7))] [(.int p2), (.int ((p4 * p5) + p7))])) (fun t k => XS.iloadN X0.here hx rfl (hb hby d6_21) rfl k) ?_
    by_cases hc2 : ((p4 * p5) + p7) < p2
    · refine own_st (B := s₁.setTop (mkF m 27 #[(jV q1), sV, (iV p2), (iV p3), (iV p4), (iV p5), (iV p6), (iV p7), (iV ((p4 * p5) + p7))] [])) (fun t k => XS.icmpYes X0.here hx rfl (pc0 := 22) (pc' := 27) rfl (hb hby d6_22) rfl (XT.ii_lt_t hc2) (by decide) (by decide) k) ?_
      refine own_st (B := s₁.setTop (mkF m 28 #[(jV q1), sV, (iV p2), (iV p3), (iV p4), (iV p5), (iV p6), (iV p7), (iV ((p4 * p5) + p7))] [(.long q1)])) (fun t k => XS.lloadN X0.here hx rfl (hb hby d6_27) rfl k) ?_
      refine own_st (B := s₁.setTop (mkF m 30 #[(jV q1), sV, (iV p2), (iV p3), (iV p4), (iV p5), (iV p6), (iV p7), (iV ((p4 * p5) + p7))] [(.int p6), (.long q1)])) (fun t k => XS.iload X0.here hx rfl (hb hby d6_28) rfl k) ?_
      refine own_st (B := s₁.setTop (mkF m 31 #[(jV q1), sV, (iV p2), (iV p3), (iV p4), (iV p5), (iV p6), (iV p7), (iV ((p4 * p5) + p7))] [(.int p3), (.int p6), (.long q1)])) (fun t k => XS.iloadN X0.here hx rfl (hb hby d6_30) rfl k) ?_
      refine own_st (B := s₁.setTop (mkF m 32 #[(jV q1), sV, (iV p2), (iV p3), (iV p4), (iV p5), (iV p6), (iV p7), (iV ((p4 * p5) + p7))] [(.int p2), (.int p3), (.int p6), (.long q1)])) (fun t k => XS.iloadN X0.here hx rfl (hb hby d6_31) rfl k) ?_
      refine own_st (B := s₁.setTop (mkF m 33 #[(jV q1), sV, (iV p2), (iV p3), (iV p4), (iV p5), (iV p6), (iV p7), (iV ((p4 * p5) + p7))] [(.int (p3 * p2)), (.int p6), (.long q1)])) (fun t k => XS.imul X0.here hx rfl (hb hby d6_32) rfl k) ?_
      refine own_st (B := s₁.setTop (mkF m 35 #[(jV q1), sV, (iV p2), (iV p3), (iV p4), (iV p5), (iV p6), (iV p7), (iV ((p4 * p5) + p7))] [(.int ((p4 * p5) + p7)), (.int (p3 * p2)), (.int p6), (.long q1)])) (fun t k => XS.iload X0.here hx rfl (hb hby d6_33) rfl k) ?_
      refine own_st (B := s₁.setTop (mkF m 36 #[(jV q1), sV, (iV p2), (iV p3), (iV p4), (iV p5), (iV p6), (iV p7), (iV ((p4 * p5) + p7))] [(.int ((p3 * p2) + ((p4 * p5) + p7))), (.int p6), (.long q1)])) (fun t k => XS.iadd X0.here hx rfl (hb hby d6_35) rfl k) ?_
      obtain ⟨_, _, ⟨T3, L3, k3, j3⟩, -, X3, ⟨Lc3, hQ3, l3, y3_, z3_⟩, st3⟩ := Jvm.LawKit.callS X0 hx (y := (⟨"com/example/relayframe/relayframe/PalettePackPinLaw", "idx", "(JII)I"⟩ : MethodName)) hown (mvT hZ (w_5 hw)) (mvT hZ (w_6 hw)) (mvT hZ (w_7 hw)) (mvT hZ (w_8 hw)) (by decide) (backOf (W := 0) (rm2 l Z a0 hw [] q1 p6 ((p3 * p2) + ((p4 * p5) + p7)) h0 n0 Z0 ) hZ (w_8 hw) (w_7 hw) (by decide) (by decide)) (g := (mkF m 36 #[(jV q1), sV, (iV p2), (iV p3), (iV p4), (iV p5), (iV p6), (iV p7), (iV ((p4 * p5) + p7))] [(.int ((p3 * p2) + ((p4 * p5) + p7))), (.int p6), (.long q1)])) rfl (by rw [hml]; rfl) (argsL := [(.long q1), (.int p6), (.int ((p3 * p2) + ((p4 * p5) + p7)))]) (rest := []) (lenOf own_pd1 rfl) rfl (by show 2 * 0 + _ ≤ _; exact Nat.le_of_eq rfl) (hb hby d6_36) (fun _ _ => ⟨rfl, e0, (by decide : 0 + 0 ≤ _), (by decide : 0 + 0 ≤ _)⟩)
      dsimp only [Pt.U, Pt.locs, Pt.cells, Pt.slots] at X3 l3 y3_ z3_ st3 hQ3
      obtain rfl : k3 = 0 := y3_
      obtain rfl : j3 = 0 := z3_
      obtain ⟨rfl, N3q, e3q⟩ := hQ3
      have N3 : Fr n0 L3 := by rw [l3]; exact Fr.app N0 N3q
      refine own_st (B := T3.setTop (mkF m 39 #[(jV q1), sV, (iV p2), (iV p3), (iV p4), (iV p5), (iV p6), (iV p7), (iV ((p4 * p5) + p7))] [(.int (own_idx q1 p6 ((p3 * p2) + ((p4 * p5) + p7))))])) (fun t k => st3 t k) ?_
      refine own_st (B := T3.setTop (mkF m 41 #[(jV q1), sV, (iV p2), (iV p3), (iV p4), (iV p5), (iV p6), (iV p7), (iV ((p4 * p5) + p7))] [(.int (8 : Int32)), (.int (own_idx q1 p6 ((p3 * p2) + ((p4 * p5) + p7))))])) (fun t k => XS.bipush X3.here hx rfl (hb hby d6_39) k) ?_
      refine own_st (B := T3.setTop (mkF m 43 #[(jV q1), sV, (iV p2), (iV p3), (iV p4), (iV p5), (iV p6), (iV p7), (iV ((p4 * p5) + p7))] [(.int p6), (.int (8 : Int32)), (.int (own_idx q1 p6 ((p3 * p2) + ((p4 * p5) + p7))))])) (fun t k => XS.iload X3.here hx rfl (hb hby d6_41) rfl k) ?_
      refine own_st (B := T3.setTop (mkF m 45 #[(jV q1), sV, (iV p2), (iV p3), (iV p4), (iV p5), (iV p6), (iV p7), (iV ((p4 * p5) + p7))] [(.int p7), (.int p6), (.int (8 : Int32)), (.int (own_idx q1 p6 ((p3 * p2) + ((p4 * p5) + p7))))])) (fun t k => XS.iload X3.here hx rfl (hb hby d6_43) rfl k) ?_
      refine own_st (B := T3.setTop (mkF m 46 #[(jV q1), sV, (iV p2), (iV p3), (iV p4), (iV p5), (iV p6), (iV p7), (iV ((p4 * p5) + p7))] [(.int (1 : Int32)), (.int p7), (.int p6), (.int (8 : Int32)), (.int (own_idx q1 p6 ((p3 * p2) + ((p4 * p5) + p7))))])) (fun t k => XS.iconst X3.here hx rfl (hb hby d6_45) k) ?_
      refine own_st (B := T3.setTop (mkF m 47 #[(jV q1), sV, (iV p2), (iV p3), (iV p4), (iV p5), (iV p6), (iV p7), (iV ((p4 * p5) + p7))] [(.int (p7 + (1 : Int32))), (.int p6), (.int (8 : Int32)), (.int (own_idx q1 p6 ((p3 * p2) + ((p4 * p5) + p7))))])) (fun t k => XS.iadd X3.here hx rfl (hb hby d6_46) rfl k) ?_
      refine own_st (B := T3.setTop (mkF m 48 #[(jV q1), sV, (iV p2), (iV p3), (iV p4), (iV p5), (iV p6), (iV p7), (iV ((p4 * p5) + p7))] [(.int (p6 * (p7 + (1 : Int32)))), (.int (8 : Int32)), (.int (own_idx q1 p6 ((p3 * p2) + ((p4 * p5) + p7))))])) (fun t k => XS.imul X3.here hx rfl (hb hby d6_47) rfl k) ?_
      refine own_st (B := T3.setTop (mkF m 49 #[(jV q1), sV, (iV p2), (iV p3), (iV p4), (iV p5), (iV p6), (iV p7), (iV ((p4 * p5) + p7))] [(.int ((8 : Int32) - (p6 * (p7 + (1 : Int32))))), (.int (own_idx q1 p6 ((p3 * p2) + ((p4 * p5) + p7))))])) (fun t k => XS.isub X3.here hx rfl (hb hby d6_48) rfl k) ?_
      refine own_st (B := T3.setTop (mkF m 50 #[(jV q1), sV, (iV p2), (iV p3), (iV p4), (iV p5), (iV p6), (iV p7), (iV ((p4 * p5) + p7))] [(.int ((own_idx q1 p6 ((p3 * p2) + ((p4 * p5) + p7))) <<< (((8 : Int32) - (p6 * (p7 + (1 : Int32)))) &&& 31)))])) (fun t k => XS.ishl X3.here hx rfl (hb hby d6_49) rfl k) ?_
      refine own_retI X3 hx hlk Bd.returns (hb hby d6_50) (by decide) (by decide) ?_
      show Q6 Z q1 p2 p3 p4 p5 p6 p7 h0 n0 _ T3.heap _
      rw [e3q]
      exact ⟨(by unfold own_term; rw [if_pos hc1, if_pos hc2]), N3, rfl⟩
    · refine own_st (B := s₁.setTop (mkF m 25 #[(jV q1), sV, (iV p2), (iV p3), (iV p4), (iV p5), (iV p6), (iV p7), (iV ((p4 * p5) + p7))] [])) (fun t k => XS.icmpNo X0.here hx rfl (hb hby d6_22) rfl (XT.ii_lt_f hc2) k) ?_
      refine own_st (B := s₁.setTop (mkF m 26 #[(jV q1), sV, (iV p2), (iV p3), (iV p4), (iV p5), (iV p6), (iV p7), (iV ((p4 * p5) + p7))] [(.int (0 : Int32))])) (fun t k => XS.iconst X0.here hx rfl (hb hby d6_25) k) ?_
      refine own_retI X0 hx hlk Bd.returns (hb hby d6_26) (by decide) (by decide) ?_
      show Q6 Z q1 p2 p3 p4 p5 p6 p7 h0 n0 _ s₁.heap _
      rw [e0]
      exact ⟨(by unfold own_term; rw [if_pos hc1, if_neg hc2]), N0, rfl⟩
  · refine own_st (B := s₁.setTop (mkF m 7 #[(jV q1), sV, (iV p2), (iV p3), (iV p4), (iV p5), (iV p6), (iV p7), uV] [])) (fun t k => XS.icmpNo X0.here hx rfl (hb hby d6_4) rfl (XT.ii_lt_f hc1) k) ?_
    refine own_st (B := s₁.setTop (mkF m 8 #[(jV q1), sV, (iV p2), (iV p3), (iV p4), (iV p5), (iV p6), (iV p7), uV] [(.int (0 : Int32))])) (fun t k => XS.iconst X0.here hx rfl (hb hby d6_7) k) ?_
    refine own_retI X0 hx hlk Bd.returns (hb hby d6_8) (by decide) (by decide) ?_
    show Q6 Z q1 p2 p3 p4 p5 p6 p7 h0 n0 _ s₁.heap _
    rw [e0]
    exact ⟨(by unfold own_term; rw [if_neg hc1]), N0, rfl⟩
theorem own_idx_r (q : Int64) {B : Int32} (i : Int32) (hB : B = 1 ∨ B = 2 ∨ B = 4) : 0 ≤ (own_idx q B i).toInt ∧ (own_idx q B i).toInt < 128 := by
  unfold own_idx
  rcases hB with rfl | rfl | rfl
  · have h := c_and ((q.toUInt64 >>> (((4 : Int32) * i) &&& 0x3f).toInt64.toUInt64).toInt64.toInt32) (((1 : Int32) <<< ((1 : Int32) &&& 31)) - (1 : Int32)) (by decide)
    have e : (((1 : Int32) <<< ((1 : Int32) &&& 31)) - (1 : Int32)).toInt = 1 := by decide
    omega
  · have h := c_and ((q.toUInt64 >>> (((4 : Int32) * i) &&& 0x3f).toInt64.toUInt64).toInt64.toInt32) (((1 : Int32) <<< ((2 : Int32) &&& 31)) - (1 : Int32)) (by decide)
    have e : (((1 : Int32) <<< ((2 : Int32) &&& 31)) - (1 : Int32)).toInt = 3 := by decide
    omega
  · have h := c_and ((q.toUInt64 >>> (((4 : Int32) * i) &&& 0x3f).toInt64.toUInt64).toInt64.toInt32) (((1 : Int32) <<< ((4 : Int32) &&& 31)) - (1 : Int32)) (by decide)
    have e : (((1 : Int32) <<< ((4 : Int32) &&& 31)) - (1 : Int32)).toInt = 15 := by decide
    omega
theorem own_sh2 {x j k s m n q : Int32} (h1 : (1 : Int32) <<< (j &&& 31) = m) (h2 : (1 : Int32) <<< (k &&& 31) = n) (h3 : (1 : Int32) <<< (s &&& 31) = q) (h : m * n = q) : (x <<< (j &&& 31)) <<< (k &&& 31) = x <<< (s &&& 31) := by
  rw [shlm h1, shlm h2, shlm h3, Int32.mul_assoc, h]
theorem own_sh0 (x : Int32) : x <<< ((0 : Int32) &&& 31) = x := by
  rw [show ((0 : Int32) &&& 31) = 0 from by decide, Int32.shiftLeft_zero]
theorem own_tm1 {q : Int64} {w r b p B t : Int32} (h1 : t < p) (h2 : ((b * p) + t) < w) : own_term q w r b p B t = ((own_idx q B ((r * w) + ((b * p) + t))) <<< (((8 : Int32) - (B * (t + (1 : Int32)))) &&& 31)) := by
  unfold own_term
  rw [if_pos h1, if_pos h2]
theorem own_tm0 {q : Int64} {w r b p B t : Int32} (h1 : ¬ (t < p)) : own_term q w r b p B t = 0 := by
  unfold own_term
  rw [if_neg h1]
theorem own_tm2 {q : Int64} {w r b p B t : Int32} (h1 : t < p) (h2 : ¬ (((b * p) + t) < w)) : own_term q w r b p B t = 0 := by
  unfold own_term
  rw [if_pos h1, if_neg h2]
theorem own_s1_1 (x : Int32) : (x <<< ((1 : Int32) &&& 31)) <<< ((1 : Int32) &&& 31) = x <<< ((2 : Int32) &&& 31) := own_sh2 (m := 2) (n := 2) (q := 4) (by decide) (by decide) (by decide) (by decide)
theorem own_s1_2 (x : Int32) : (x <<< ((1 : Int32) &&& 31)) <<< ((2 : Int32) &&& 31) = x <<< ((3 : Int32) &&& 31) := own_sh2 (m := 2) (n := 4) (q := 8) (by decide) (by decide) (by decide) (by decide)
theorem own_s1_3 (x : Int32) : (x <<< ((1 : Int32) &&& 31)) <<< ((3 : Int32) &&& 31) = x <<< ((4 : Int32) &&& 31) := own_sh2 (m := 2) (n := 8) (q := 16) (by decide) (by decide) (by decide) (by decide)
theorem own_s1_4 (x : Int32) : (x <<< ((1 : Int32) &&& 31)) <<< ((4 : Int32) &&& 31) = x <<< ((5 : Int32) &&& 31) := own_sh2 (m := 2) (n := 16) (q := 32) (by decide) (by decide) (by decide) (by decide)
theorem own_s1_5 (x : Int32) : (x <<< ((1 : Int32) &&& 31)) <<< ((5 : Int32) &&& 31) = x <<< ((6 : Int32) &&& 31) := own_sh2 (m := 2) (n := 32) (q := 64) (by decide) (by decide) (by decide) (by decide)
theorem own_s1_6 (x : Int32) : (x <<< ((1 : Int32) &&& 31)) <<< ((6 : Int32) &&& 31) = x <<< ((7 : Int32) &&& 31) := own_sh2 (m := 2) (n := 64) (q := 128) (by decide) (by decide) (by decide) (by decide)
theorem own_s2_1 (x : Int32) : (x <<< ((2 : Int32) &&& 31)) <<< ((1 : Int32) &&& 31) = x <<< ((3 : Int32) &&& 31) := own_sh2 (m := 4) (n := 2) (q := 8) (by decide) (by decide) (by decide) (by decide)
theorem own_s2_2 (x : Int32) : (x <<< ((2 : Int32) &&& 31)) <<< ((2 : Int32) &&& 31) = x <<< ((4 : Int32) &&& 31) := own_sh2 (m := 4) (n := 4) (q := 16) (by decide) (by decide) (by decide) (by decide)
theorem own_s2_3 (x : Int32) : (x <<< ((2 : Int32) &&& 31)) <<< ((3 : Int32) &&& 31) = x <<< ((5 : Int32) &&& 31) := own_sh2 (m := 4) (n := 8) (q := 32) (by decide) (by decide) (by decide) (by decide)
theorem own_s2_4 (x : Int32) : (x <<< ((2 : Int32) &&& 31)) <<< ((4 : Int32) &&& 31) = x <<< ((6 : Int32) &&& 31) := own_sh2 (m := 4) (n := 16) (q := 64) (by decide) (by decide) (by decide) (by decide)
theorem own_s2_5 (x : Int32) : (x <<< ((2 : Int32) &&& 31)) <<< ((5 : Int32) &&& 31) = x <<< ((7 : Int32) &&& 31) := own_sh2 (m := 4) (n := 32) (q := 128) (by decide) (by decide) (by decide) (by decide)
theorem own_s3_1 (x : Int32) : (x <<< ((3 : Int32) &&& 31)) <<< ((1 : Int32) &&& 31) = x <<< ((4 : Int32) &&& 31) := own_sh2 (m := 8) (n := 2) (q := 16) (by decide) (by decide) (by decide) (by decide)
theorem own_s3_2 (x : Int32) : (x <<< ((3 : Int32) &&& 31)) <<< ((2 : Int32) &&& 31) = x <<< ((5 : Int32) &&& 31) := own_sh2 (m := 8) (n := 4) (q := 32) (by decide) (by decide) (by decide) (by decide)
theorem own_s3_3 (x : Int32) : (x <<< ((3 : Int32) &&& 31)) <<< ((3 : Int32) &&& 31) = x <<< ((6 : Int32) &&& 31) := own_sh2 (m := 8) (n := 8) (q := 64) (by decide) (by decide) (by decide) (by decide)
theorem own_s3_4 (x : Int32) : (x <<< ((3 : Int32) &&& 31)) <<< ((4 : Int32) &&& 31) = x <<< ((7 : Int32) &&& 31) := own_sh2 (m := 8) (n := 16) (q := 128) (by decide) (by decide) (by decide) (by decide)
theorem own_s4_1 (x : Int32) : (x <<< ((4 : Int32) &&& 31)) <<< ((1 : Int32) &&& 31) = x <<< ((5 : Int32) &&& 31) := own_sh2 (m := 16) (n := 2) (q := 32) (by decide) (by decide) (by decide) (by decide)
theorem own_s4_2 (x : Int32) : (x <<< ((4 : Int32) &&& 31)) <<< ((2 : Int32) &&& 31) = x <<< ((6 : Int32) &&& 31) := own_sh2 (m := 16) (n := 4) (q := 64) (by decide) (by decide) (by decide) (by decide)
theorem own_s4_3 (x : Int32) : (x <<< ((4 : Int32) &&& 31)) <<< ((3 : Int32) &&& 31) = x <<< ((7 : Int32) &&& 31) := own_sh2 (m := 16) (n := 8) (q := 128) (by decide) (by decide) (by decide) (by decide)
theorem own_s5_1 (x : Int32) : (x <<< ((5 : Int32) &&& 31)) <<< ((1 : Int32) &&& 31) = x <<< ((6 : Int32) &&& 31) := own_sh2 (m := 32) (n := 2) (q := 64) (by decide) (by decide) (by decide) (by decide)
theorem own_s5_2 (x : Int32) : (x <<< ((5 : Int32) &&& 31)) <<< ((2 : Int32) &&& 31) = x <<< ((7 : Int32) &&& 31) := own_sh2 (m := 32) (n := 4) (q := 128) (by decide) (by decide) (by decide) (by decide)
theorem own_s6_1 (x : Int32) : (x <<< ((6 : Int32) &&& 31)) <<< ((1 : Int32) &&& 31) = x <<< ((7 : Int32) &&& 31) := own_sh2 (m := 64) (n := 2) (q := 128) (by decide) (by decide) (by decide) (by decide)
theorem own_f1_1 (a0 : Int32) : ((((0 : Int32) <<< ((1 : Int32) &&& 31)) ||| a0) <<< ((7 : Int32) &&& 31)) = (((((((((a0) <<< ((7 : Int32) &&& 31)) ||| (0 : Int32)) ||| (0 : Int32)) ||| (0 : Int32)) ||| (0 : Int32)) ||| (0 : Int32)) ||| (0 : Int32)) ||| (0 : Int32)) := by
  simp only [Int32.shiftLeft_or, Int32.zero_shiftLeft, Int32.zero_or, Int32.or_zero, own_sh0, own_s1_1, own_s1_2, own_s1_3, own_s1_4, own_s1_5, own_s1_6, own_s2_1, own_s2_2, own_s2_3, own_s2_4, own_s2_5, own_s3_1, own_s3_2, own_s3_3, own_s3_4, own_s4_1, own_s4_2, own_s4_3, own_s5_1, own_s5_2, own_s6_1]
theorem own_f1_2 (a0 a1 : Int32) : ((((((0 : Int32) <<< ((1 : Int32) &&& 31)) ||| a0) <<< ((1 : Int32) &&& 31)) ||| a1) <<< ((6 : Int32) &&& 31)) = (((((((((a0) <<< ((7 : Int32) &&& 31)) ||| ((a1) <<< ((6 : Int32) &&& 31))) ||| (0 : Int32)) ||| (0 : Int32)) ||| (0 : Int32)) ||| (0 : Int32)) ||| (0 : Int32)) ||| (0 : Int32)) := by
  simp only [Int32.shiftLeft_or, Int32.zero_shiftLeft, Int32.zero_or, Int32.or_zero, own_sh0, own_s1_1, own_s1_2, own_s1_3, own_s1_4, own_s1_5, own_s1_6, own_s2_1, own_s2_2, own_s2_3, own_s2_4, own_s2_5, own_s3_1, own_s3_2, own_s3_3, own_s3_4, own_s4_1, own_s4_2, own_s4_3, own_s5_1, own_s5_2, own_s6_1]
theorem own_f1_3 (a0 a1 a2 : Int32) : ((((((((0 : Int32) <<< ((1 : Int32) &&& 31)) ||| a0) <<< ((1 : Int32) &&& 31)) ||| a1) <<< ((1 : Int32) &&& 31)) ||| a2) <<< ((5 : Int32) &&& 31)) = (((((((((a0) <<< ((7 : Int32) &&& 31)) ||| ((a1) <<< ((6 : Int32) &&& 31))) ||| ((a2) <<< ((5 : Int32) &&& 31))) ||| (0 : Int32)) ||| (0 : Int32)) ||| (0 : Int32)) ||| (0 : Int32)) ||| (0 : Int32)) := by
  simp only [Int32.shiftLeft_or, Int32.zero_shiftLeft, Int32.zero_or, Int32.or_zero, own_sh0, own_s1_1, own_s1_2, own_s1_3, own_s1_4, own_s1_5, own_s1_6, own_s2_1, own_s2_2, own_s2_3, own_s2_4, own_s2_5, own_s3_1, own_s3_2, own_s3_3, own_s3_4, own_s4_1, own_s4_2, own_s4_3, own_s5_1, own_s5_2, own_s6_1]
theorem own_f1_4 (a0 a1 a2 a3 : Int32) : ((((((((((0 : Int32) <<< ((1 : Int32) &&& 31)) ||| a0) <<< ((1 : Int32) &&& 31)) ||| a1) <<< ((1 : Int32) &&& 31)) ||| a2) <<< ((1 : Int32) &&& 31)) ||| a3) <<< ((4 : Int32) &&& 31)) = (((((((((a0) <<< ((7 : Int32) &&& 31)) ||| ((a1) <<< ((6 : Int32) &&& 31))) ||| ((a2) <<< ((5 : Int32) &&& 31))) ||| ((a3) <<< ((4 : Int32) &&& 31))) ||| (0 : Int32)) ||| (0 : Int32)) ||| (0 : Int32)) ||| (0 : Int32)) := by
  simp only [Int32.shiftLeft_or, Int32.zero_shiftLeft, Int32.zero_or, Int32.or_zero, own_sh0, own_s1_1, own_s1_2, own_s1_3, own_s1_4, own_s1_5, own_s1_6, own_s2_1, own_s2_2, own_s2_3, own_s2_4, own_s2_5, own_s3_1, own_s3_2, own_s3_3, own_s3_4, own_s4_1, own_s4_2, own_s4_3, own_s5_1, own_s5_2, own_s6_1]
theorem own_f1_5 (a0 a1 a2 a3 a4 : Int32) : ((((((((((((0 : Int32) <<< ((1 : Int32) &&& 31)) ||| a0) <<< ((1 : Int32) &&& 31)) ||| a1) <<< ((1 : Int32) &&& 31)) ||| a2) <<< ((1 : Int32) &&& 31)) ||| a3) <<< ((1 : Int32) &&& 31)) ||| a4) <<< ((3 : Int32) &&& 31)) = (((((((((a0) <<< ((7 : Int32) &&& 31)) ||| ((a1) <<< ((6 : Int32) &&& 31))) ||| ((a2) <<< ((5 : Int32) &&& 31))) ||| ((a3) <<< ((4 : Int32) &&& 31))) ||| ((a4) <<< ((3 : Int32) &&& 31))) ||| (0 : Int32)) ||| (0 : Int32)) ||| (0 : Int32)) := by
  simp only [Int32.shiftLeft_or, Int32.zero_shiftLeft, Int32.zero_or, Int32.or_zero, own_sh0, own_s1_1, own_s1_2, own_s1_3, own_s1_4, own_s1_5, own_s1_6, own_s2_1, own_s2_2, own_s2_3, own_s2_4, own_s2_5, own_s3_1, own_s3_2, own_s3_3, own_s3_4, own_s4_1, own_s4_2, own_s4_3, own_s5_1, own_s5_2, own_s6_1]
theorem own_f1_6 (a0 a1 a2 a3 a4 a5 : Int32) : ((((((((((((((0 : Int32) <<< ((1 : Int32) &&& 31)) ||| a0) <<< ((1 : Int32) &&& 31)) ||| a1) <<< ((1 : Int32) &&& 31)) ||| a2) <<< ((1 : Int32) &&& 31)) ||| a3) <<< ((1 : Int32) &&& 31)) ||| a4) <<< ((1 : Int32) &&& 31)) ||| a5) <<< ((2 : Int32) &&& 31)) = (((((((((a0) <<< ((7 : Int32) &&& 31)) ||| ((a1) <<< ((6 : Int32) &&& 31))) ||| ((a2) <<< ((5 : Int32) &&& 31))) ||| ((a3) <<< ((4 : Int32) &&& 31))) ||| ((a4) <<< ((3 : Int32) &&& 31))) ||| ((a5) <<< ((2 : Int32) &&& 31))) ||| (0 : Int32)) ||| (0 : Int32)) := by
  simp only [Int32.shiftLeft_or, Int32.zero_shiftLeft, Int32.zero_or, Int32.or_zero, own_sh0, own_s1_1, own_s1_2, own_s1_3, own_s1_4, own_s1_5, own_s1_6, own_s2_1, own_s2_2, own_s2_3, own_s2_4, own_s2_5, own_s3_1, own_s3_2, own_s3_3, own_s3_4, own_s4_1, own_s4_2, own_s4_3, own_s5_1, own_s5_2, own_s6_1]
theorem own_f1_7 (a0 a1 a2 a3 a4 a5 a6 : Int32) : ((((((((((((((((0 : Int32) <<< ((1 : Int32) &&& 31)) ||| a0) <<< ((1 : Int32) &&& 31)) ||| a1) <<< ((1 : Int32) &&& 31)) ||| a2) <<< ((1 : Int32) &&& 31)) ||| a3) <<< ((1 : Int32) &&& 31)) ||| a4) <<< ((1 : Int32) &&& 31)) ||| a5) <<< ((1 : Int32) &&& 31)) ||| a6) <<< ((1 : Int32) &&& 31)) = (((((((((a0) <<< ((7 : Int32) &&& 31)) ||| ((a1) <<< ((6 : Int32) &&& 31))) ||| ((a2) <<< ((5 : Int32) &&& 31))) ||| ((a3) <<< ((4 : Int32) &&& 31))) ||| ((a4) <<< ((3 : Int32) &&& 31))) ||| ((a5) <<< ((2 : Int32) &&& 31))) ||| ((a6) <<< ((1 : Int32) &&& 31))) ||| (0 : Int32)) := by
  simp only [Int32.shiftLeft_or, Int32.zero_shiftLeft, Int32.zero_or, Int32.or_zero, own_sh0, own_s1_1, own_s1_2, own_s1_3, own_s1_4, own_s1_5, own_s1_6, own_s2_1, own_s2_2, own_s2_3, own_s2_4, own_s2_5, own_s3_1, own_s3_2, own_s3_3, own_s3_4, own_s4_1, own_s4_2, own_s4_3, own_s5_1, own_s5_2, own_s6_1]
theorem own_f1_8 (a0 a1 a2 a3 a4 a5 a6 a7 : Int32) : (((((((((((((((((0 : Int32) <<< ((1 : Int32) &&& 31)) ||| a0) <<< ((1 : Int32) &&& 31)) ||| a1) <<< ((1 : Int32) &&& 31)) ||| a2) <<< ((1 : Int32) &&& 31)) ||| a3) <<< ((1 : Int32) &&& 31)) ||| a4) <<< ((1 : Int32) &&& 31)) ||| a5) <<< ((1 : Int32) &&& 31)) ||| a6) <<< ((1 : Int32) &&& 31)) ||| a7) = (((((((((a0) <<< ((7 : Int32) &&& 31)) ||| ((a1) <<< ((6 : Int32) &&& 31))) ||| ((a2) <<< ((5 : Int32) &&& 31))) ||| ((a3) <<< ((4 : Int32) &&& 31))) ||| ((a4) <<< ((3 : Int32) &&& 31))) ||| ((a5) <<< ((2 : Int32) &&& 31))) ||| ((a6) <<< ((1 : Int32) &&& 31))) ||| ((a7) <<< ((0 : Int32) &&& 31))) := by
  simp only [Int32.shiftLeft_or, Int32.zero_shiftLeft, Int32.zero_or, Int32.or_zero, own_sh0, own_s1_1, own_s1_2, own_s1_3, own_s1_4, own_s1_5, own_s1_6, own_s2_1, own_s2_2, own_s2_3, own_s2_4, own_s2_5, own_s3_1, own_s3_2, own_s3_3, own_s3_4, own_s4_1, own_s4_2, own_s4_3, own_s5_1, own_s5_2, own_s6_1]
theorem own_f2_1 (a0 : Int32) : ((((0 : Int32) <<< ((2 : Int32) &&& 31)) ||| a0) <<< ((6 : Int32) &&& 31)) = (((((((((a0) <<< ((6 : Int32) &&& 31)) ||| (0 : Int32)) ||| (0 : Int32)) ||| (0 : Int32)) ||| (0 : Int32)) ||| (0 : Int32)) ||| (0 : Int32)) ||| (0 : Int32)) := by
  simp only [Int32.shiftLeft_or, Int32.zero_shiftLeft, Int32.zero_or, Int32.or_zero, own_sh0, own_s1_1, own_s1_2, own_s1_3, own_s1_4, own_s1_5, own_s1_6, own_s2_1, own_s2_2, own_s2_3, own_s2_4, own_s2_5, own_s3_1, own_s3_2, own_s3_3, own_s3_4, own_s4_1, own_s4_2, own_s4_3, own_s5_1, own_s5_2, own_s6_1]
theorem own_f2_2 (a0 a1 : Int32) : ((((((0 : Int32) <<< ((2 : Int32) &&& 31)) ||| a0) <<< ((2 : Int32) &&& 31)) ||| a1) <<< ((4 : Int32) &&& 31)) = (((((((((a0) <<< ((6 : Int32) &&& 31)) ||| ((a1) <<< ((4 : Int32) &&& 31))) ||| (0 : Int32)) ||| (0 : Int32)) ||| (0 : Int32)) ||| (0 : Int32)) ||| (0 : Int32)) ||| (0 : Int32)) := by
  simp only [Int32.shiftLeft_or, Int32.zero_shiftLeft, Int32.zero_or, Int32.or_zero, own_sh0, own_s1_1, own_s1_2, own_s1_3, own_s1_4, own_s1_5, own_s1_6, own_s2_1, own_s2_2, own_s2_3, own_s2_4, own_s2_5, own_s3_1, own_s3_2, own_s3_3, own_s3_4, own_s4_1, own_s4_2, own_s4_3, own_s5_1, own_s5_2, own_s6_1]
theorem own_f2_3 (a0 a1 a2 : Int32) : ((((((((0 : Int32) <<< ((2 : Int32) &&& 31)) ||| a0) <<< ((2 : Int32) &&& 31)) ||| a1) <<< ((2 : Int32) &&& 31)) ||| a2) <<< ((2 : Int32) &&& 31)) = (((((((((a0) <<< ((6 : Int32) &&& 31)) ||| ((a1) <<< ((4 : Int32) &&& 31))) ||| ((a2) <<< ((2 : Int32) &&& 31))) ||| (0 : Int32)) ||| (0 : Int32)) ||| (0 : Int32)) ||| (0 : Int32)) ||| (0 : Int32)) := by
  simp only [Int32.shiftLeft_or, Int32.zero_shiftLeft, Int32.zero_or, Int32.or_zero, own_sh0, own_s1_1, own_s1_2, own_s1_3, own_s1_4, own_s1_5, own_s1_6, own_s2_1, own_s2_2, own_s2_3, own_s2_4, own_s2_5, own_s3_1, own_s3_2, own_s3_3, own_s3_4, own_s4_1, own_s4_2, own_s4_3, own_s5_1, own_s5_2, own_s6_1]
theorem own_f2_4 (a0 a1 a2 a3 : Int32) : (((((((((0 : Int32) <<< ((2 : Int32) &&& 31)) ||| a0) <<< ((2 : Int32) &&& 31)) ||| a1) <<< ((2 : Int32) &&& 31)) ||| a2) <<< ((2 : Int32) &&& 31)) ||| a3) = (((((((((a0) <<< ((6 : Int32) &&& 31)) ||| ((a1) <<< ((4 : Int32) &&& 31))) ||| ((a2) <<< ((2 : Int32) &&& 31))) ||| ((a3) <<< ((0 : Int32) &&& 31))) ||| (0 : Int32)) ||| (0 : Int32)) ||| (0 : Int32)) ||| (0 : Int32)) := by
  simp only [Int32.shiftLeft_or, Int32.zero_shiftLeft, Int32.zero_or, Int32.or_zero, own_sh0, own_s1_1, own_s1_2, own_s1_3, own_s1_4, own_s1_5, own_s1_6, own_s2_1, own_s2_2, own_s2_3, own_s2_4, own_s2_5, own_s3_1, own_s3_2, own_s3_3, own_s3_4, own_s4_1, own_s4_2, own_s4_3, own_s5_1, own_s5_2, own_s6_1]
theorem own_f4_1 (a0 : Int32) : ((((0 : Int32) <<< ((4 : Int32) &&& 31)) ||| a0) <<< ((4 : Int32) &&& 31)) = (((((((((a0) <<< ((4 : Int32) &&& 31)) ||| (0 : Int32)) ||| (0 : Int32)) ||| (0 : Int32)) ||| (0 : Int32)) ||| (0 : Int32)) ||| (0 : Int32)) ||| (0 : Int32)) := by
  simp only [Int32.shiftLeft_or, Int32.zero_shiftLeft, Int32.zero_or, Int32.or_zero, own_sh0, own_s1_1, own_s1_2, own_s1_3, own_s1_4, own_s1_5, own_s1_6, own_s2_1, own_s2_2, own_s2_3, own_s2_4, own_s2_5, own_s3_1, own_s3_2, own_s3_3, own_s3_4, own_s4_1, own_s4_2, own_s4_3, own_s5_1, own_s5_2, own_s6_1]
theorem own_f4_2 (a0 a1 : Int32) : (((((0 : Int32) <<< ((4 : Int32) &&& 31)) ||| a0) <<< ((4 : Int32) &&& 31)) ||| a1) = (((((((((a0) <<< ((4 : Int32) &&& 31)) ||| ((a1) <<< ((0 : Int32) &&& 31))) ||| (0 : Int32)) ||| (0 : Int32)) ||| (0 : Int32)) ||| (0 : Int32)) ||| (0 : Int32)) ||| (0 : Int32)) := by
  simp only [Int32.shiftLeft_or, Int32.zero_shiftLeft, Int32.zero_or, Int32.or_zero, own_sh0, own_s1_1, own_s1_2, own_s1_3, own_s1_4, own_s1_5, own_s1_6, own_s2_1, own_s2_2, own_s2_3, own_s2_4, own_s2_5, own_s3_1, own_s3_2, own_s3_3, own_s3_4, own_s4_1, own_s4_2, own_s4_3, own_s5_1, own_s5_2, own_s6_1]
theorem own_pd2 : parseMethodDescriptor "(JIIIIII)I" = some ⟨[.long, .int, .int, .int, .int, .int, .int], some .int⟩ := by decide +kernel
theorem d5_0 : decode method_5_code 0 = .ok (.iload 7, 2) := by decide +kernel
theorem d5_2 : decode method_5_code 2 = .ok (.iload 4, 2) := by decide +kernel
theorem d5_4 : decode method_5_code 4 = .ok (.if_icmp .lt 10, 3) := by decide +kernel
theorem d5_7 : decode method_5_code 7 = .ok (.iload 7, 2) := by decide +kernel
theorem d5_9 : decode method_5_code 9 = .ok (.iload 5, 2) := by decide +kernel
theorem d5_11 : decode method_5_code 11 = .ok (.if_icmp .lt 10, 3) := by decide +kernel
theorem d5_14 : decode method_5_code 14 = .ok (.iload 6, 2) := by decide +kernel
theorem d5_16 : decode method_5_code 16 = .ok (.iload 7, 2) := by decide +kernel
theorem d5_18 : decode method_5_code 18 = .ok (.iadd, 1) := by decide +kernel
theorem d5_19 : decode method_5_code 19 = .ok (.i2b, 1) := by decide +kernel
theorem d5_20 : decode method_5_code 20 = .ok (.ireturn, 1) := by decide +kernel
theorem d5_21 : decode method_5_code 21 = .ok (.iload_n 2, 1) := by decide +kernel
theorem d5_22 : decode method_5_code 22 = .ok (.iload_n 3, 1) := by decide +kernel
theorem d5_23 : decode method_5_code 23 = .ok (.imul, 1) := by decide +kernel
theorem d5_24 : decode method_5_code 24 = .ok (.bipush 7, 2) := by decide +kernel
theorem d5_26 : decode method_5_code 26 = .ok (.iadd, 1) := by decide +kernel
theorem d5_27 : decode method_5_code 27 = .ok (.bipush 8, 2) := by decide +kernel
theorem d5_29 : decode method_5_code 29 = .ok (.idiv, 1) := by decide +kernel
theorem d5_30 : decode method_5_code 30 = .ok (.istore 8, 2) := by decide +kernel
theorem d5_32 : decode method_5_code 32 = .ok (.iload 7, 2) := by decide +kernel
theorem d5_34 : decode method_5_code 34 = .ok (.iload 4, 2) := by decide +kernel
theorem d5_36 : decode method_5_code 36 = .ok (.isub, 1) := by decide +kernel
theorem d5_37 : decode method_5_code 37 = .ok (.istore 9, 2) := by decide +kernel
theorem d5_39 : decode method_5_code 39 = .ok (.iload 9, 2) := by decide +kernel
theorem d5_41 : decode method_5_code 41 = .ok (.iload 8, 2) := by decide +kernel
theorem d5_43 : decode method_5_code 43 = .ok (.idiv, 1) := by decide +kernel
theorem d5_44 : decode method_5_code 44 = .ok (.istore 10, 2) := by decide +kernel
theorem d5_46 : decode method_5_code 46 = .ok (.iload 9, 2) := by decide +kernel
theorem d5_48 : decode method_5_code 48 = .ok (.iload 8, 2) := by decide +kernel
theorem d5_50 : decode method_5_code 50 = .ok (.irem, 1) := by decide +kernel
theorem d5_51 : decode method_5_code 51 = .ok (.istore 11, 2) := by decide +kernel
theorem d5_53 : decode method_5_code 53 = .ok (.bipush 8, 2) := by decide +kernel
theorem d5_55 : decode method_5_code 55 = .ok (.iload_n 3, 1) := by decide +kernel
theorem d5_56 : decode method_5_code 56 = .ok (.idiv, 1) := by decide +kernel
theorem d5_57 : decode method_5_code 57 = .ok (.istore 12, 2) := by decide +kernel
theorem d5_59 : decode method_5_code 59 = .ok (.lload_n 0, 1) := by decide +kernel
theorem d5_60 : decode method_5_code 60 = .ok (.iload_n 2, 1) := by decide +kernel
theorem d5_61 : decode method_5_code 61 = .ok (.iload 10, 2) := by decide +kernel
theorem d5_63 : decode method_5_code 63 = .ok (.iload 11, 2) := by decide +kernel
theorem d5_65 : decode method_5_code 65 = .ok (.iload 12, 2) := by decide +kernel
theorem d5_67 : decode method_5_code 67 = .ok (.iload_n 3, 1) := by decide +kernel
theorem d5_68 : decode method_5_code 68 = .ok (.iconst 0, 1) := by decide +kernel
theorem d5_69 : decode method_5_code 69 = .ok (.invokestatic 33, 3) := by decide +kernel
theorem d5_72 : decode method_5_code 72 = .ok (.lload_n 0, 1) := by decide +kernel
theorem d5_73 : decode method_5_code 73 = .ok (.iload_n 2, 1) := by decide +kernel
theorem d5_74 : decode method_5_code 74 = .ok (.iload 10, 2) := by decide +kernel
theorem d5_76 : decode method_5_code 76 = .ok (.iload 11, 2) := by decide +kernel
theorem d5_78 : decode method_5_code 78 = .ok (.iload 12, 2) := by decide +kernel
theorem d5_80 : decode method_5_code 80 = .ok (.iload_n 3, 1) := by decide +kernel
theorem d5_81 : decode method_5_code 81 = .ok (.iconst 1, 1) := by decide +kernel
theorem d5_82 : decode method_5_code 82 = .ok (.invokestatic 33, 3) := by decide +kernel
theorem d5_85 : decode method_5_code 85 = .ok (.ior, 1) := by decide +kernel
theorem d5_86 : decode method_5_code 86 = .ok (.lload_n 0, 1) := by decide +kernel
theorem d5_87 : decode method_5_code 87 = .ok (.iload_n 2, 1) := by decide +kernel
theorem d5_88 : decode method_5_code 88 = .ok (.iload 10, 2) := by decide +kernel
theorem d5_90 : decode method_5_code 90 = .ok (.iload 11, 2) := by decide +kernel
theorem d5_92 : decode method_5_code 92 = .ok (.iload 12, 2) := by decide +kernel
theorem d5_94 : decode method_5_code 94 = .ok (.iload_n 3, 1) := by decide +kernel
theorem d5_95 : decode method_5_code 95 = .ok (.iconst 2, 1) := by decide +kernel
theorem d5_96 : decode method_5_code 96 = .ok (.invokestatic 33, 3) := by decide +kernel
theorem d5_99 : decode method_5_code 99 = .ok (.ior, 1) := by decide +kernel
theorem d5_100 : decode method_5_code 100 = .ok (.lload_n 0, 1) := by decide +kernel
theorem d5_101 : decode method_5_code 101 = .ok (.iload_n 2, 1) := by decide +kernel
theorem d5_102 : decode method_5_code 102 = .ok (.iload 10, 2) := by decide +kernel
theorem d5_104 : decode method_5_code 104 = .ok (.iload 11, 2) := by decide +kernel
theorem d5_106 : decode method_5_code 106 = .ok (.iload 12, 2) := by decide +kernel
theorem d5_108 : decode method_5_code 108 = .ok (.iload_n 3, 1) := by decide +kernel
theorem d5_109 : decode method_5_code 109 = .ok (.iconst 3, 1) := by decide +kernel
theorem d5_110 : decode method_5_code 110 = .ok (.invokestatic 33, 3) := by decide +kernel
theorem d5_113 : decode method_5_code 113 = .ok (.ior, 1) := by decide +kernel
theorem d5_114 : decode method_5_code 114 = .ok (.lload_n 0, 1) := by decide +kernel
theorem d5_115 : decode method_5_code 115 = .ok (.iload_n 2, 1) := by decide +kernel
theorem d5_116 : decode method_5_code 116 = .ok (.iload 10, 2) := by decide +kernel
theorem d5_118 : decode method_5_code 118 = .ok (.iload 11, 2) := by decide +kernel
theorem d5_120 : decode method_5_code 120 = .ok (.iload 12, 2) := by decide +kernel
theorem d5_122 : decode method_5_code 122 = .ok (.iload_n 3, 1) := by decide +kernel
theorem d5_123 : decode method_5_code 123 = .ok (.iconst 4, 1) := by decide +kernel
theorem d5_124 : decode method_5_code 124 = .ok (.invokestatic 33, 3) := by decide +kernel
theorem d5_127 : decode method_5_code 127 = .ok (.ior, 1) := by decide +kernel
theorem d5_128 : decode method_5_code 128 = .ok (.lload_n 0, 1) := by decide +kernel
theorem d5_129 : decode method_5_code 129 = .ok (.iload_n 2, 1) := by decide +kernel
theorem d5_130 : decode method_5_code 130 = .ok (.iload 10, 2) := by decide +kernel
theorem d5_132 : decode method_5_code 132 = .ok (.iload 11, 2) := by decide +kernel
theorem d5_134 : decode method_5_code 134 = .ok (.iload 12, 2) := by decide +kernel
theorem d5_136 : decode method_5_code 136 = .ok (.iload_n 3, 1) := by decide +kernel
theorem d5_137 : decode method_5_code 137 = .ok (.iconst 5, 1) := by decide +kernel
theorem d5_138 : decode method_5_code 138 = .ok (.invokestatic 33, 3) := by decide +kernel
theorem d5_141 : decode method_5_code 141 = .ok (.ior, 1) := by decide +kernel
theorem d5_142 : decode method_5_code 142 = .ok (.lload_n 0, 1) := by decide +kernel
theorem d5_143 : decode method_5_code 143 = .ok (.iload_n 2, 1) := by decide +kernel
theorem d5_144 : decode method_5_code 144 = .ok (.iload 10, 2) := by decide +kernel
theorem d5_146 : decode method_5_code 146 = .ok (.iload 11, 2) := by decide +kernel
theorem d5_148 : decode method_5_code 148 = .ok (.iload 12, 2) := by decide +kernel
theorem d5_150 : decode method_5_code 150 = .ok (.iload_n 3, 1) := by decide +kernel
theorem d5_151 : decode method_5_code 151 = .ok (.bipush 6, 2) := by decide +kernel
theorem d5_153 : decode method_5_code 153 = .ok (.invokestatic 33, 3) := by decide +kernel
theorem d5_156 : decode method_5_code 156 = .ok (.ior, 1) := by decide +kernel
theorem d5_157 : decode method_5_code 157 = .ok (.lload_n 0, 1) := by decide +kernel
theorem d5_158 : decode method_5_code 158 = .ok (.iload_n 2, 1) := by decide +kernel
theorem d5_159 : decode method_5_code 159 = .ok (.iload 10, 2) := by decide +kernel
theorem d5_161 : decode method_5_code 161 = .ok (.iload 11, 2) := by decide +kernel
theorem d5_163 : decode method_5_code 163 = .ok (.iload 12, 2) := by decide +kernel
theorem d5_165 : decode method_5_code 165 = .ok (.iload_n 3, 1) := by decide +kernel
theorem d5_166 : decode method_5_code 166 = .ok (.bipush 7, 2) := by decide +kernel
theorem d5_168 : decode method_5_code 168 = .ok (.invokestatic 33, 3) := by decide +kernel
theorem d5_171 : decode method_5_code 171 = .ok (.ior, 1) := by decide +kernel
theorem d5_172 : decode method_5_code 172 = .ok (.istore 13, 2) := by decide +kernel
theorem d5_174 : decode method_5_code 174 = .ok (.iload 13, 2) := by decide +kernel
theorem d5_176 : decode method_5_code 176 = .ok (.i2b, 1) := by decide +kernel
theorem d5_177 : decode method_5_code 177 = .ok (.ireturn, 1) := by decide +kernel
theorem ef_5 (m : MethodId) (x0 : Int64) (x1 : Int32) (x2 : Int32) (x3 : Int32) (x4 : Int32) (x5 : Int32) (x6 : Int32) : entryFrame m #[(.long x0), (.int x1), (.int x2), (.int x3), (.int x4), (.int x5), (.int x6)] 14 = mkF m 0 #[.val (.long x0), .second, .val (.int x1), .val (.int x2), .val (.int x3), .val (.int x4), .val (.int x5), .val (.int x6), .unset, .unset, .unset, .unset, .unset, .unset] [] := by first | (simp [entryFrame, mkF, argsToLocals, Value.category]; done) | rfl
def own_eb (q1 : Int64) (p2 : Int32) (p3 : Int32) (p4 : Int32) (p5 : Int32) (p6 : Int32) (p7 : Int32) : Int32 := (if p7 < p4 then ((p6 + p7).toInt8.toInt32) else (if p7 < p5 then (((((((((own_term q1 p2 ((p7 - p4) / (((p2 * p3) + (7 : Int32)) / (8 : Int32))) ((p7 - p4) % (((p2 * p3) + (7 : Int32)) / (8 : Int32))) ((8 : Int32) / p3) p3 (0 : Int32)) ||| (own_term q1 p2 ((p7 - p4) / (((p2 * p3) + (7 : Int32)) / (8 : Int32))) ((p7 - p4) % (((p2 * p3) + (7 : Int32)) / (8 : Int32))) ((8 : Int32) / p3) p3 (1 : Int32))) ||| (own_term q1 p2 ((p7 - p4) / (((p2 * p3) + (7 : Int32)) / (8 : Int32))) ((p7 - p4) % (((p2 * p3) + (7 : Int32)) / (8 : Int32))) ((8 : Int32) / p3) p3 (2 : Int32))) ||| (own_term q1 p2 ((p7 - p4) / (((p2 * p3) + (7 : Int32)) / (8 : Int32))) ((p7 - p4) % (((p2 * p3) + (7 : Int32)) / (8 : Int32))) ((8 : Int32) / p3) p3 (3 : Int32))) ||| (own_term q1 p2 ((p7 - p4) / (((p2 * p3) + (7 : Int32)) / (8 : Int32))) ((p7 - p4) % (((p2 * p3) + (7 : Int32)) / (8 : Int32))) ((8 : Int32) / p3) p3 (4 : Int32))) ||| (own_term q1 p2 ((p7 - p4) / (((p2 * p3) + (7 : Int32)) / (8 : Int32))) ((p7 - p4) % (((p2 * p3) + (7 : Int32)) / (8 : Int32))) ((8 : Int32) / p3) p3 (5 : Int32))) ||| (own_term q1 p2 ((p7 - p4) / (((p2 * p3) + (7 : Int32)) / (8 : Int32))) ((p7 - p4) % (((p2 * p3) + (7 : Int32)) / (8 : Int32))) ((8 : Int32) / p3) p3 (6 : Int32))) ||| (own_term q1 p2 ((p7 - p4) / (((p2 * p3) + (7 : Int32)) / (8 : Int32))) ((p7 - p4) % (((p2 * p3) + (7 : Int32)) / (8 : Int32))) ((8 : Int32) / p3) p3 (7 : Int32))).toInt8.toInt32) else ((p6 + p7).toInt8.toInt32)))
def Q5 (Z : State) (q1 : Int64) (p2 : Int32) (p3 : Int32) (p4 : Int32) (p5 : Int32) (p6 : Int32) (p7 : Int32) (h0 : Heap) (n0 : Nat) (v : Option Value) (h : Heap) (L : List Loc) : Prop := v = some (.int (own_eb q1 p2 p3 p4 p5 p6 p7)) ∧ Fr n0 L ∧ h = h0
set_option maxHeartbeats 40000000 in
theorem rm5 (l : Launch) (Z : State) (a0 : Array Value) (hw : ∀ d ∈ tables_1, d.before a0 Z = true) (ws : List Jvm.Cond) (q1 : Int64) (p2 : Int32) (p3 : Int32) (p4 : Int32) (p5 : Int32) (p6 : Int32) (p7 : Int32) (h0 : Heap) (n0 : Nat) (Z0 : n0 ≤ h0.size) (hb0 : p3 ≠ 0) (hnz : (¬ (p7 < p4) → p7 < p5 → (((p2 * p3) + (7 : Int32)) / (8 : Int32)) ≠ 0)) :
    MetFree l (⟨"com/example/relayframe/relayframe/PalettePackPinLaw", "expectedByte", "(JIIIIII)B"⟩ : MethodName) (head1 (Jvm.Cond.code (⟨"com/example/relayframe/relayframe/PalettePackPinLaw", "expectedByte", "(JIIIIII)B"⟩ : MethodName) method_5_code 14 (some .byte) :: ws) ({ frames := 2, cells := 0, slots := 0, locals := 36 } : Room)) (fun a U => a = #[(.long q1), (.int p2), (.int p3), (.int p4), (.int p5), (.int p6), (.int p7)] ∧ Z.Warmed39 U.vm ∧ U.heap = h0) (fun _ _ _ _ _ => True) (fun _ U o U' => ∃ v L, o = .returned v ∧ Q5 Z q1 p2 p3 p4 p5 p6 p7 h0 n0 v U'.heap L ∧ FrameEnd U o U' L ({ frames := 2, cells := 0, slots := 0, locals := 36 } : Room).cells ({ frames := 2, cells := 0, slots := 0, locals := 36 } : Room).slots) := by
  refine MetFree.of_bodySF (plainFor_of_name own_pn1) hisR ?_
  intro p e s m args below meth c s₁ Bd hml0 hP hK
  obtain ⟨rfl, hZ, hh⟩ := hP
  have hx := Bd.exec
  have hby := Bd.bytes
  have hml : c.maxLocals = 14 := hml0
  have hlk : meth.locks = false := BodyLoose.notSynchronized Bd
  have hown : s.vm.findClass "com/example/relayframe/relayframe/PalettePackPinLaw" = some m.cls := findClass_of_methodNamed Bd.named
  have hnm := (name_of_methodNamed Bd.named Bd.method).1
  have X0 : Stand p l e ({ frames := 2, cells := 0, slots := 0, locals := 36 } : Room) s m #[(.long q1), (.int p2), (.int p3), (.int p4), (.int p5), (.int p6), (.int p7)] below meth c s₁ [] 0 0 := Stand.of_body Bd
  have e0 : s₁.heap = h0 := by rw [← hh, Bd.state]; rfl
  have N0 := Fr.nil n0
  show own_Go p e below s (Q5 Z q1 p2 p3 p4 p5 p6 p7 h0 n0) ({ frames := 2, cells := 0, slots := 0, locals := 36 } : Room).cells ({ frames := 2, cells := 0, slots := 0, locals := 36 } : Room).slots _
  refine own_st (B := s₁.setTop (mkF m 0 #[(jV q1), sV, (iV p2), (iV p3), (iV p4), (iV p5), (iV p6), (iV p7), uV, uV, uV, uV, uV, uV] [])) (fun t k => castTop (ef_5 m (q1) (p2) (p3) (p4) (p5) (p6) (p7)) k) ?_
  refine own_st (B := s₁.setTop (mkF m 2 #[(jV q1), sV, (iV p2), (iV p3), (iV p4), (iV p5), (iV p6), (iV p7), uV, uV, uV, uV, uV, uV] [(.int p7)])) (fun t k => XS.iload X0.here hx rfl (hb hby d5_0) rfl k) ?_
  refine own_st (B := s₁.setTop (mkF m 4 #[(jV q1), sV, (iV p2), (iV p3), (iV p4), (iV p5), (iV p6), (iV p7), uV, uV, uV, uV, uV, uV] [(.int p4), (.int p7)])) (fun t k => XS.iload X0.here hx rfl (hb hby d5_2) rfl k) ?_
  by_cases hc1 : p7 < p4
  · refine own_st (B := s₁.setTop (mkF m 14 #[(jV q1), sV, (iV p2), (iV p3), (iV p4), (iV p5), (iV p6), (iV p7), uV, uV, uV, uV, uV, uV] [])) (fun t k => XS.icmpYes X0.here hx rfl (pc0 := 4) (pc' := 14) rfl (hb hby d5_4) rfl (XT.ii_lt_t hc1) (by decide) (by decide) k) ?_
    refine own_st (B := s₁.setTop (mkF m 16 #[(jV q1), sV, (iV p2), (iV p3), (iV p4), (iV p5), (iV p6), (iV p7), uV, uV, uV, uV, uV, uV] [(.int p6)])) (fun t k => XS.iload X0.here hx rfl (hb hby d5_14) rfl k) ?_
    refine own_st (B := s₁.setTop (mkF m 18 #[(jV q1), sV, (iV p2), (iV p3), (iV p4), (iV p5), (iV p6), (iV p7), uV, uV, uV, uV, uV, uV] [(.int p7), (.int p6)])) (fun t k => XS.iload X0.here hx rfl (hb hby d5_16) rfl k) ?_
    refine own_st (B := s₁.setTop (mkF m 19 #[(jV q1), sV, (iV p2), (iV p3), (iV p4), (iV p5), (iV p6), (iV p7), uV, uV, uV, uV, uV, uV] [(.int (p6 + p7))])) (fun t k => XS.iadd X0.here hx rfl (hb hby d5_18) rfl k) ?_
    refine own_st (B := s₁.setTop (mkF m 20 #[(jV q1), sV, (iV p2), (iV p3), (iV p4), (iV p5), (iV p6), (iV p7), uV, uV, uV, uV, uV, uV] [(.int ((p6 + p7).toInt8.toInt32))])) (fun t k => XS.i2b X0.here hx rfl (hb hby d5_19) rfl k) ?_
    refine own_retN X0 hx hlk (t := .byte) Bd.returns (by simp) (z' := ((p6 + p7).toInt8.toInt32)) (own_bb _) (hb hby d5_20) (by decide) (by decide) ?_
    show Q5 Z q1 p2 p3 p4 p5 p6 p7 h0 n0 _ s₁.heap _
    rw [e0]
    exact ⟨(by unfold own_eb; rw [if_pos hc1]), N0, rfl⟩
  · refine own_st (B := s₁.setTop (mkF m 7 #[(jV q1), sV, (iV p2), (iV p3), (iV p4), (iV p5), (iV p6), (iV p7), uV, uV, uV, uV, uV, uV] [])) (fun t k => XS.icmpNo X0.here hx rfl (hb hby d5_4) rfl (XT.ii_lt_f hc1) k) ?_
    refine own_st (B := s₁.setTop (mkF m 9 #[(jV q1), sV, (iV p2), (iV p3), (iV p4), (iV p5), (iV p6), (iV p7), uV, uV, uV, uV, uV, uV] [(.int p7)])) (fun t k => XS.iload X0.here hx rfl (hb hby d5_7) rfl k) ?_
    refine own_st (B := s₁.setTop (mkF m 11 #[(jV q1), sV, (iV p2), (iV p3), (iV p4), (iV p5), (iV p6), (iV p7), uV, uV, uV, uV, uV, uV] [(.int p5), (.int p7)])) (fun t k => XS.iload X0.here hx rfl (hb hby d5_9) rfl k) ?_
    by_cases hc2 : p7 < p5
    · refine own_st (B := s₁.setTop (mkF m 21 #[(jV q1), sV, (iV p2), (iV p3), (iV p4), (iV p5), (iV p6), (iV p7), uV, uV, uV, uV, uV, uV] [])) (fun t k => XS.icmpYes X0.here hx rfl (pc0 := 11) (pc' := 21) rfl (hb hby d5_11) rfl (XT.ii_lt_t hc2) (by decide) (by decide) k) ?_
      refine own_st (B := s₁.setTop (mkF m 22 #[(jV q1), sV, (iV p2), (iV p3), (iV p4), (iV p5), (iV p6), (iV p7), uV, uV, uV, uV, uV, uV] [(.int p2)])) (fun t k => XS.iloadN X0.here hx rfl (hb hby d5_21) rfl k) ?_
      refine own_st (B := s₁.setTop (mkF m 23 #[(jV q1), sV, (iV p2), (iV p3), (iV p4), (iV p5), (iV p6), (iV p7), uV, uV, uV, uV, uV, uV] [(.int p3), (.int p2)])) (fun t k => XS.iloadN X0.here hx rfl (hb hby d5_22) rfl k) ?_
      refine own_st (B := s₁.setTop (mkF m 24 #[(jV q1), sV, (iV p2), (iV p3), (iV p4), (iV p5), (iV p6), (iV p7), uV, uV, uV, uV, uV, uV] [(.int (p2 * p3))])) (fun t k => XS.imul X0.here hx rfl (hb hby d5_23) rfl k) ?_
      refine own_st (B := s₁.setTop (mkF m 26 #[(jV q1), sV, (iV p2), (iV p3), (iV p4), (iV p5), (iV p6), (iV p7), uV, uV, uV, uV, uV, uV] [(.int (7 : Int32)), (.int (p2 * p3))])) (fun t k => XS.bipush X0.here hx rfl (hb hby d5_24) k) ?_
      refine own_st (B := s₁.setTop (mkF m 27 #[(jV q1), sV, (iV p2), (iV p3), (iV p4), (iV p5), (iV p6), (iV p7), uV, uV, uV, uV, uV, uV] [(.int ((p2 * p3) + (7 : Int32)))])) (fun t k => XS.iadd X0.here hx rfl (hb hby d5_26) rfl k) ?_
      refine own_st (B := s₁.setTop (mkF m 29 #[(jV q1), sV, (iV p2), (iV p3), (iV p4), (iV p5), (iV p6), (iV p7), uV, uV, uV, uV, uV, uV] [(.int (8 : Int32)), (.int ((p2 * p3) + (7 : Int32)))])) (fun t k => XS.bipush X0.here hx rfl (hb hby d5_27) k) ?_
      refine own_st (B := s₁.setTop (mkF m 30 #[(jV q1), sV, (iV p2), (iV p3), (iV p4), (iV p5), (iV p6), (iV p7), uV, uV, uV, uV, uV, uV] [(.int (((p2 * p3) + (7 : Int32)) / (8 : Int32)))])) (fun t k => XS.idiv X0.here hx (g := (mkF m 29 #[(jV q1), sV, (iV p2), (iV p3), (iV p4), (iV p5), (iV p6), (iV p7), uV, uV, uV, uV, uV, uV] [(.int (8 : Int32)), (.int ((p2 * p3) + (7 : Int32)))])) rfl (x := ((p2 * p3) + (7 : Int32))) (y := (8 : Int32)) (rest := []) (hb hby d5_29) rfl (by decide) k) ?_
      obtain ⟨v3, ev3⟩ : ∃ z : Int32, z = (((p2 * p3) + (7 : Int32)) / (8 : Int32)) := ⟨_, rfl⟩
      rw [← ev3]
      refine own_st (B := s₁.setTop (mkF m 32 #[(jV q1), sV, (iV p2), (iV p3), (iV p4), (iV p5), (iV p6), (iV p7), (iV v3), uV, uV, uV, uV, uV] [])) (fun t k => XS.istore X0.here hx rfl (hb hby d5_30) rfl (l' := #[(jV q1), sV, (iV p2), (iV p3), (iV p4), (iV p5), (iV p6), (iV p7), (iV v3), uV, uV, uV, uV, uV]) rfl k) ?_
      refine own_st (B := s₁.setTop (mkF m 34 #[(jV q1), sV, (iV p2), (iV p3), (iV p4), (iV p5), (iV p6), (iV p7), (iV v3), uV, uV, uV, uV, uV] [(.int p7)])) (fun t k => XS.iload X0.here hx rfl (hb hby d5_32) rfl k) ?_
      refine own_st (B := s₁.setTop (mkF m 36 #[(jV q1), sV, (iV p2), (iV p3), (iV p4), (iV p5), (iV p6), (iV p7), (iV v3), uV, uV, uV, uV, uV] [(.int p4), (.int p7)])) (fun t k => XS.iload X0.here hx rfl (hb hby d5_34) rfl k) ?_
      refine own_st (B := s₁.setTop (mkF m 37 #[(jV q1), sV, (iV p2), (iV p3), (iV p4), (iV p5), (iV p6), (iV p7), (iV v3), uV, uV, uV, uV, uV] [(.int (p7 - p4))])) (fun t k => XS.isub X0.here hx rfl (hb hby d5_36) rfl k) ?_
      obtain ⟨v4, ev4⟩ : ∃ z : Int32, z = (p7 - p4) := ⟨_, rfl⟩
      rw [← ev4]
      refine own_st (B := s₁.setTop (mkF m 39 #[(jV q1), sV, (iV p2), (iV p3), (iV p4), (iV p5), (iV p6), (iV p7), (iV v3), (iV v4), uV, uV, uV, uV] [])) (fun t k => XS.istore X0.here hx rfl (hb hby d5_37) rfl (l' := #[(jV q1), sV, (iV p2), (iV p3), (iV p4), (iV p5), (iV p6), (iV p7), (iV v3), (iV v4), uV, uV, uV, uV]) rfl k) ?_
      refine own_st (B := s₁.setTop (mkF m 41 #[(jV q1), sV, (iV p2), (iV p3), (iV p4), (iV p5), (iV p6), (iV p7), (iV v3), (iV v4), uV, uV, uV, uV] [(.int v4)])) (fun t k => XS.iload X0.here hx rfl (hb hby d5_39) rfl k) ?_
      refine own_st (B := s₁.setTop (mkF m 43 #[(jV q1), sV, (iV p2), (iV p3), (iV p4), (iV p5), (iV p6), (iV p7), (iV v3), (iV v4), uV, uV, uV, uV] [(.int v3), (.int v4)])) (fun t k => XS.iload X0.here hx rfl (hb hby d5_41) rfl k) ?_
      refine own_st (B := s₁.setTop (mkF m 44 #[(jV q1), sV, (iV p2), (iV p3), (iV p4), (iV p5), (iV p6), (iV p7), (iV v3), (iV v4), uV, uV, uV, uV] [(.int (v4 / v3))])) (fun t k => XS.idiv X0.here hx (g := (mkF m 43 #[(jV q1), sV, (iV p2), (iV p3), (iV p4), (iV p5), (iV p6), (iV p7), (iV v3), (iV v4), uV, uV, uV, uV] [(.int v3), (.int v4)])) rfl (x := v4) (y := v3) (rest := []) (hb hby d5_43) rfl (by rw [ev3]; exact hnz hc1 hc2) k) ?_
      obtain ⟨v5, ev5⟩ : ∃ z : Int32, z = (v4 / v3) := ⟨_, rfl⟩
      rw [← ev5]
      refine own_st (B := s₁.setTop (mkF m 46 #[(jV q1), sV, (iV p2), (iV p3), (iV p4), (iV p5), (iV p6), (iV p7), (iV v3), (iV v4), (iV v5), uV, uV, uV] [])) (fun t k => XS.istore X0.here hx rfl (hb hby d5_44) rfl (l' := #[(jV q1), sV, (iV p2), (iV p3), (iV p4), (iV p5), (iV p6), (iV p7), (iV v3), (iV v4), (iV v5), uV, uV, uV]) rfl k) ?_
      refine own_st (B := s₁.setTop (mkF m 48 #[(jV q1), sV, (iV p2), (iV p3), (iV p4), (iV p5), (iV p6), (iV p7), (iV v3), (iV v4), (iV v5), uV, uV, uV] [(.int v4)])) (fun t k => XS.iload X0.here hx rfl (hb hby d5_46) rfl k) ?_
      refine own_st (B := s₁.setTop (mkF m 50 #[(jV q1), sV, (iV p2), (iV p3), (iV p4), (iV p5), (iV p6), (iV p7), (iV v3), (iV v4), (iV v5), uV, uV, uV] [(.int v3), (.int v4)])) (fun t k => XS.iload X0.here hx rfl (hb hby d5_48) rfl k) ?_
      refine own_st (B := s₁.setTop (mkF m 51 #[(jV q1), sV, (iV p2), (iV p3), (iV p4), (iV p5), (iV p6), (iV p7), (iV v3), (iV v4), (iV v5), uV, uV, uV] [(.int (v4 % v3))])) (fun t k => iremM X0 hx (g := (mkF m 50 #[(jV q1), sV, (iV p2), (iV p3), (iV p4), (iV p5), (iV p6), (iV p7), (iV v3), (iV v4), (iV v5), uV, uV, uV] [(.int v3), (.int v4)])) rfl (x := v4) (y := v3) (rest := []) (hb hby d5_50) rfl (by rw [ev3]; exact hnz hc1 hc2) k) ?_
      obtain ⟨v6, ev6⟩ : ∃ z : Int32, z = (v4 % v3) := ⟨_, rfl⟩
      rw [← ev6]
      refine own_st (B := s₁.setTop (mkF m 53 #[(jV q1), sV, (iV p2), (iV p3), (iV p4), (iV p5), (iV p6), (iV p7), (iV v3), (iV v4), (iV v5), (iV v6), uV, uV] [])) (fun t k => XS.istore X0.here hx rfl (hb hby d5_51) rfl (l' := #[(jV q1), sV, (iV p2), (iV p3), (iV p4), (iV p5), (iV p6), (iV p7), (iV v3), (iV v4), (iV v5), (iV v6), uV, uV]) rfl k) ?_
      refine own_st (B := s₁.setTop (mkF m 55 #[(jV q1), sV, (iV p2), (iV p3), (iV p4), (iV p5), (iV p6), (iV p7), (iV v3), (iV v4), (iV v5), (iV v6), uV, uV] [(.int (8 : Int32))])) (fun t k => XS.bipush X0.here hx rfl (hb hby d5_53) k) ?_
      refine own_st (B := s₁.setTop (mkF m 56 #[(jV q1), sV, (iV p2), (iV p3), (iV p4), (iV p5), (iV p6), (iV p7), (iV v3), (iV v4), (iV v5), (iV v6), uV, uV] [(.int p3), (.int (8 : Int32))])) (fun t k => XS.iloadN X0.here hx rfl (hb hby d5_55) rfl k) ?_
      refine own_st (B := s₁.setTop (mkF m 57 #[(jV q1), sV, (iV p2), (iV p3), (iV p4), (iV p5), (iV p6), (iV p7), (iV v3), (iV v4), (iV v5), (iV v6), uV, uV] [(.int ((8 : Int32) / p3))])) (fun t k => XS.idiv X0.here hx (g := (mkF m 56 #[(jV q1), sV, (iV p2), (iV p3), (iV p4), (iV p5), (iV p6), (iV p7), (iV v3), (iV v4), (iV v5), (iV v6), uV, uV] [(.int p3), (.int (8 : Int32))])) rfl (x := (8 : Int32)) (y := p3) (rest := []) (hb hby d5_56) rfl hb0 k) ?_
      obtain ⟨v7, ev7⟩ : ∃ z : Int32, z = ((8 : Int32) / p3) := ⟨_, rfl⟩
      rw [← ev7]
      refine own_st (B := s₁.setTop (mkF m 59 #[(jV q1), sV, (iV p2), (iV p3), (iV p4), (iV p5), (iV p6), (iV p7), (iV v3), (iV v4), (iV v5), (iV v6), (iV v7), uV] [])) (fun t k => XS.istore X0.here hx rfl (hb hby d5_57) rfl (l' := #[(jV q1), sV, (iV p2), (iV p3), (iV p4), (iV p5), (iV p6), (iV p7), (iV v3), (iV v4), (iV v5), (iV v6), (iV v7), uV]) rfl k) ?_
      refine own_st (B := s₁.setTop (mkF m 60 #[(jV q1), sV, (iV p2), (iV p3), (iV p4), (iV p5), (iV p6), (iV p7), (iV v3), (iV v4), (iV v5), (iV v6), (iV v7), uV] [(.long q1)])) (fun t k => XS.lloadN X0.here hx rfl (hb hby d5_59) rfl k) ?_
      refine own_st (B := s₁.setTop (mkF m 61 #[(jV q1), sV, (iV p2), (iV p3), (iV p4), (iV p5), (iV p6), (iV p7), (iV v3), (iV v4), (iV v5), (iV v6), (iV v7), uV] [(.int p2), (.long q1)])) (fun t k => XS.iloadN X0.here hx rfl (hb hby d5_60) rfl k) ?_
      refine own_st (B := s₁.setTop (mkF m 63 #[(jV q1), sV, (iV p2), (iV p3), (iV p4), (iV p5), (iV p6), (iV p7), (iV v3), (iV v4), (iV v5), (iV v6), (iV v7), uV] [(.int v5), (.int p2), (.long q1)])) (fun t k => XS.iload X0.here hx rfl (hb hby d5_61) rfl k) ?_
      refine own_st (B := s₁.setTop (mkF m 65 #[(jV q1), sV, (iV p2), (iV p3), (iV p4), (iV p5), (iV p6), (iV p7), (iV v3), (iV v4), (iV v5), (iV v6), (iV v7), uV] [(.int v6), (.int v5), (.int p2), (.long q1)])) (fun t k => XS.iload X0.here hx rfl (hb hby d5_63) rfl k) ?_
      refine own_st (B := s₁.setTop (mkF m 67 #[(jV q1), sV, (iV p2), (iV p3), (iV p4), (iV p5), (iV p6), (iV p7), (iV v3), (iV v4), (iV v5), (iV v6), (iV v7), uV] [(.int v7), (.int v6), (.int v5), (.int p2), (.long q1)])) (fun t k => XS.iload X0.here hx rfl (hb hby d5_65) rfl k) ?_
      refine own_st (B := s₁.setTop (mkF m 68 #[(jV q1), sV, (iV p2), (iV p3), (iV p4), (iV p5), (iV p6), (iV p7), (iV v3), (iV v4), (iV v5), (iV v6), (iV v7), uV] [(.int p3), (.int v7), (.int v6), (.int v5), (.int p2), (.long q1)])) (fun t k => XS.iloadN X0.here hx rfl (hb hby d5_67) rfl k) ?_
      refine own_st (B := s₁.setTop (mkF m 69 #[(jV q1), sV, (iV p2), (iV p3), (iV p4), (iV p5), (iV p6), (iV p7), (iV v3), (iV v4), (iV v5), (iV v6), (iV v7), uV] [(.int (0 : Int32)), (.int p3), (.int v7), (.int v6), (.int v5), (.int p2), (.long q1)])) (fun t k => XS.iconst X0.here hx rfl (hb hby d5_68) k) ?_
      obtain ⟨_, _, ⟨T8, L8, k8, j8⟩, -, X8, ⟨Lc8, hQ8, l8, y8_, z8_⟩, st8⟩ := Jvm.LawKit.callS X0 hx (y := (⟨"com/example/relayframe/relayframe/PalettePackPinLaw", "term", "(JIIIIII)I"⟩ : MethodName)) hown (mvT hZ (w_19 hw)) (mvT hZ (w_20 hw)) (mvT hZ (w_7 hw)) (mvT hZ (w_21 hw)) (by decide) (backOf (W := 0) (rm6 l Z a0 hw [] q1 p2 v5 v6 v7 p3 (0 : Int32) h0 n0 Z0 ) hZ (w_21 hw) (w_7 hw) (by decide) (by decide)) (g := (mkF m 69 #[(jV q1), sV, (iV p2), (iV p3), (iV p4), (iV p5), (iV p6), (iV p7), (iV v3), (iV v4), (iV v5), (iV v6), (iV v7), uV] [(.int (0 : Int32)), (.int p3), (.int v7), (.int v6), (.int v5), (.int p2), (.long q1)])) rfl (by rw [hml]; rfl) (argsL := [(.long q1), (.int p2), (.int v5), (.int v6), (.int v7), (.int p3), (.int (0 : Int32))]) (rest := []) (lenOf own_pd2 rfl) rfl (by show 2 * 0 + _ ≤ _; exact Nat.le_of_eq rfl) (hb hby d5_69) (fun _ _ => ⟨rfl, e0, (by decide : 0 + 0 ≤ _), (by decide : 0 + 0 ≤ _)⟩)
      dsimp only [Pt.U, Pt.locs, Pt.cells, Pt.slots] at X8 l8 y8_ z8_ st8 hQ8
      obtain rfl : k8 = 0 := y8_
      obtain rfl : j8 = 0 := z8_
      obtain ⟨rfl, N8q, e8q⟩ := hQ8
      have N8 : Fr n0 L8 := by rw [l8]; exact Fr.app N0 N8q
      refine own_st (B := T8.setTop (mkF m 72 #[(jV q1), sV, (iV p2), (iV p3), (iV p4), (iV p5), (iV p6), (iV p7), (iV v3), (iV v4), (iV v5), (iV v6), (iV v7), uV] [(.int (own_term q1 p2 v5 v6 v7 p3 (0 : Int32)))])) (fun t k => st8 t k) ?_
      refine own_st (B := T8.setTop (mkF m 73 #[(jV q1), sV, (iV p2), (iV p3), (iV p4), (iV p5), (iV p6), (iV p7), (iV v3), (iV v4), (iV v5), (iV v6), (iV v7), uV] [(.long q1), (.int (own_term q1 p2 v5 v6 v7 p3 (0 : Int32)))])) (fun t k => XS.lloadN X8.here hx rfl (hb hby d5_72) rfl k) ?_
      refine own_st (B := T8.setTop (mkF m 74 #[(jV q1), sV, (iV p2), (iV p3), (iV p4), (iV p5), (iV p6), (iV p7), (iV v3), (iV v4), (iV v5), (iV v6), (iV v7), uV] [(.int p2), (.long q1), (.int (own_term q1 p2 v5 v6 v7 p3 (0 : Int32)))])) (fun t k => XS.iloadN X8.here hx rfl (hb hby d5_73) rfl k) ?_
      refine own_st (B := T8.setTop (mkF m 76 #[(jV q1), sV, (iV p2), (iV p3), (iV p4), (iV p5), (iV p6), (iV p7), (iV v3), (iV v4), (iV v5), (iV v6), (iV v7), uV] [(.int v5), (.int p2), (.long q1), (.int (own_term q1 p2 v5 v6 v7 p3 (0 : Int32)))])) (fun t k => XS.iload X8.here hx rfl (hb hby d5_74) rfl k) ?_
      refine own_st (B := T8.setTop (mkF m 78 #[(jV q1), sV, (iV p2), (iV p3), (iV p4), (iV p5), (iV p6), (iV p7), (iV v3), (iV v4), (iV v5), (iV v6), (iV v7), uV] [(.int v6), (.int v5), (.int p2), (.long q1), (.int (own_term q1 p2 v5 v6 v7 p3 (0 : Int32)))])) (fun t k => XS.iload X8.here hx rfl (hb hby d5_76) rfl k) ?_
      refine own_st (B := T8.setTop (mkF m 80 #[(jV q1), sV, (iV p2), (iV p3), (iV p4), (iV p5), (iV p6), (iV p7), (iV v3), (iV v4), (iV v5), (iV v6), (iV v7), uV] [(.int v7), (.int v6), (.int v5), (.int p2), (.long q1), (.int (own_term q1 p2 v5 v6 v7 p3 (0 : Int32)))])) (fun t k => XS.iload X8.here hx rfl (hb hby d5_78) rfl k) ?_
      refine own_st (B := T8.setTop (mkF m 81 #[(jV q1), sV, (iV p2), (iV p3), (iV p4), (iV p5), (iV p6), (iV p7), (iV v3), (iV v4), (iV v5), (iV v6), (iV v7), uV] [(.int p3), (.int v7), (.int v6), (.int v5), (.int p2), (.long q1), (.int (own_term q1 p2 v5 v6 v7 p3 (0 : Int32)))])) (fun t k => XS.iloadN X8.here hx rfl (hb hby d5_80) rfl k) ?_
      refine own_st (B := T8.setTop (mkF m 82 #[(jV q1), sV, (iV p2), (iV p3), (iV p4), (iV p5), (iV p6), (iV p7), (iV v3), (iV v4), (iV v5), (iV v6), (iV v7), uV] [(.int (1 : Int32)), (.int p3), (.int v7), (.int v6), (.int v5), (.int p2), (.long q1), (.int (own_term q1 p2 v5 v6 v7 p3 (0 : Int32)))])) (fun t k => XS.iconst X8.here hx rfl (hb hby d5_81) k) ?_
      obtain ⟨_, _, ⟨T9, L9, k9, j9⟩, -, X9, ⟨Lc9, hQ9, l9, y9_, z9_⟩, st9⟩ := Jvm.LawKit.callS X8 hx (y := (⟨"com/example/relayframe/relayframe/PalettePackPinLaw", "term", "(JIIIIII)I"⟩ : MethodName)) hown (mvT hZ (w_19 hw)) (mvT hZ (w_20 hw)) (mvT hZ (w_7 hw)) (mvT hZ (w_21 hw)) (by decide) (backOf (W := 1) (rm6 l Z a0 hw [] q1 p2 v5 v6 v7 p3 (1 : Int32) h0 n0 Z0 ) hZ (w_21 hw) (w_7 hw) (by decide) (by decide)) (g := (mkF m 82 #[(jV q1), sV, (iV p2), (iV p3), (iV p4), (iV p5), (iV p6), (iV p7), (iV v3), (iV v4), (iV v5), (iV v6), (iV v7), uV] [(.int (1 : Int32)), (.int p3), (.int v7), (.int v6), (.int v5), (.int p2), (.long q1), (.int (own_term q1 p2 v5 v6 v7 p3 (0 : Int32)))])) rfl (by rw [hml]; rfl) (argsL := [(.long q1), (.int p2), (.int v5), (.int v6), (.int v7), (.int p3), (.int (1 : Int32))]) (rest := [(.int (own_term q1 p2 v5 v6 v7 p3 (0 : Int32)))]) (lenOf own_pd2 rfl) rfl (by show 2 * 0 + _ ≤ _; exact Nat.le_of_eq rfl) (hb hby d5_82) (fun _ _ => ⟨rfl, e8q, (by decide : 0 + 0 ≤ _), (by decide : 0 + 0 ≤ _)⟩)
      dsimp only [Pt.U, Pt.locs, Pt.cells, Pt.slots] at X9 l9 y9_ z9_ st9 hQ9
      obtain rfl : k9 = 0 := y9_
      obtain rfl : j9 = 0 := z9_
      obtain ⟨rfl, N9q, e9q⟩ := hQ9
      have N9 : Fr n0 L9 := by rw [l9]; exact Fr.app N8 N9q
      refine own_st (B := T9.setTop (mkF m 85 #[(jV q1), sV, (iV p2), (iV p3), (iV p4), (iV p5), (iV p6), (iV p7), (iV v3), (iV v4), (iV v5), (iV v6), (iV v7), uV] [(.int (own_term q1 p2 v5 v6 v7 p3 (1 : Int32))), (.int (own_term q1 p2 v5 v6 v7 p3 (0 : Int32)))])) (fun t k => st9 t k) ?_
      refine own_st (B := T9.setTop (mkF m 86 #[(jV q1), sV, (iV p2), (iV p3), (iV p4), (iV p5), (iV p6), (iV p7), (iV v3), (iV v4), (iV v5), (iV v6), (iV v7), uV] [(.int ((own_term q1 p2 v5 v6 v7 p3 (0 : Int32)) ||| (own_term q1 p2 v5 v6 v7 p3 (1 : Int32))))])) (fun t k => XS.ior X9.here hx rfl (hb hby d5_85) rfl k) ?_
      refine own_st (B := T9.setTop (mkF m 87 #[(jV q1), sV, (iV p2), (iV p3), (iV p4), (iV p5), (iV p6), (iV p7), (iV v3), (iV v4), (iV v5), (iV v6), (iV v7), uV] [(.long q1), (.int ((own_term q1 p2 v5 v6 v7 p3 (0 : Int32)) ||| (own_term q1 p2 v5 v6 v7 p3 (1 : Int32))))])) (fun t k => XS.lloadN X9.here hx rfl (hb hby d5_86) rfl k) ?_
      refine own_st (B := T9.setTop (mkF m 88 #[(jV q1), sV, (iV p2), (iV p3), (iV p4), (iV p5), (iV p6), (iV p7), (iV v3), (iV v4), (iV v5), (iV v6), (iV v7), uV] [(.int p2), (.long q1), (.int ((own_term q1 p2 v5 v6 v7 p3 (0 : Int32)) ||| (own_term q1 p2 v5 v6 v7 p3 (1 : Int32))))])) (fun t k => XS.iloadN X9.here hx rfl (hb hby d5_87) rfl k) ?_
      refine own_st (B := T9.setTop (mkF m 90 #[(jV q1), sV, (iV p2), (iV p3), (iV p4), (iV p5), (iV p6), (iV p7), (iV v3), (iV v4), (iV v5), (iV v6), (iV v7), uV] [(.int v5), (.int p2), (.long q1), (.int ((own_term q1 p2 v5 v6 v7 p3 (0 : Int32)) ||| (own_term q1 p2 v5 v6 v7 p3 (1 : Int32))))])) (fun t k => XS.iload X9.here hx rfl (hb hby d5_88) rfl k) ?_
      refine own_st (B := T9.setTop (mkF m 92 #[(jV q1), sV, (iV p2), (iV p3), (iV p4), (iV p5), (iV p6), (iV p7), (iV v3), (iV v4), (iV v5), (iV v6), (iV v7), uV] [(.int v6), (.int v5), (.int p2), (.long q1), (.int ((own_term q1 p2 v5 v6 v7 p3 (0 : Int32)) ||| (own_term q1 p2 v5 v6 v7 p3 (1 : Int32))))])) (fun t k => XS.iload X9.here hx rfl (hb hby d5_90) rfl k) ?_
      refine own_st (B := T9.setTop (mkF m 94 #[(jV q1), sV, (iV p2), (iV p3), (iV p4), (iV p5), (iV p6), (iV p7), (iV v3), (iV v4), (iV v5), (iV v6), (iV v7), uV] [(.int v7), (.int v6), (.int v5), (.int p2), (.long q1), (.int ((own_term q1 p2 v5 v6 v7 p3 (0 : Int32)) ||| (own_term q1 p2 v5 v6 v7 p3 (1 : Int32))))])) (fun t k => XS.iload X9.here hx rfl (hb hby d5_92) rfl k) ?_
      refine own_st (B := T9.setTop (mkF m 95 #[(jV q1), sV, (iV p2), (iV p3), (iV p4), (iV p5), (iV p6), (iV p7), (iV v3), (iV v4), (iV v5), (iV v6), (iV v7), uV] [(.int p3), (.int v7), (.int v6), (.int v5), (.int p2), (.long q1), (.int ((own_term q1 p2 v5 v6 v7 p3 (0 : Int32)) ||| (own_term q1 p2 v5 v6 v7 p3 (1 : Int32))))])) (fun t k => XS.iloadN X9.here hx rfl (hb hby d5_94) rfl k) ?_
      refine own_st (B := T9.setTop (mkF m 96 #[(jV q1), sV, (iV p2), (iV p3), (iV p4), (iV p5), (iV p6), (iV p7), (iV v3), (iV v4), (iV v5), (iV v6), (iV v7), uV] [(.int (2 : Int32)), (.int p3), (.int v7), (.int v6), (.int v5), (.int p2), (.long q1), (.int ((own_term q1 p2 v5 v6 v7 p3 (0 : Int32)) ||| (own_term q1 p2 v5 v6 v7 p3 (1 : Int32))))])) (fun t k => XS.iconst X9.here hx rfl (hb hby d5_95) k) ?_
      obtain ⟨_, _, ⟨T10, L10, k10, j10⟩, -, X10, ⟨Lc10, hQ10, l10, y10_, z10_⟩, st10⟩ := Jvm.LawKit.callS X9 hx (y := (⟨"com/example/relayframe/relayframe/PalettePackPinLaw", "term", "(JIIIIII)I"⟩ : MethodName)) hown (mvT hZ (w_19 hw)) (mvT hZ (w_20 hw)) (mvT hZ (w_7 hw)) (mvT hZ (w_21 hw)) (by decide) (backOf (W := 1) (rm6 l Z a0 hw [] q1 p2 v5 v6 v7 p3 (2 : Int32) h0 n0 Z0 ) hZ (w_21 hw) (w_7 hw) (by decide) (by decide)) (g := (mkF m 96 #[(jV q1), sV, (iV p2), (iV p3), (iV p4), (iV p5), (iV p6), (iV p7), (iV v3), (iV v4), (iV v5), (iV v6), (iV v7), uV] [(.int (2 : Int32)), (.int p3), (.int v7), (.int v6), (.int v5), (.int p2), (.long q1), (.int ((own_term q1 p2 v5 v6 v7 p3 (0 : Int32)) ||| (own_term q1 p2 v5 v6 v7 p3 (1 : Int32))))])) rfl (by rw [hml]; rfl) (argsL := [(.long q1), (.int p2), (.int v5), (.int v6), (.int v7), (.int p3), (.int (2 : Int32))]) (rest := [(.int ((own_term q1 p2 v5 v6 v7 p3 (0 : Int32)) ||| (own_term q1 p2 v5 v6 v7 p3 (1 : Int32))))]) (lenOf own_pd2 rfl) rfl (by show 2 * 0 + _ ≤ _; exact Nat.le_of_eq rfl) (hb hby d5_96) (fun _ _ => ⟨rfl, e9q, (by decide : 0 + 0 ≤ _), (by decide : 0 + 0 ≤ _)⟩)
      dsimp only [Pt.U, Pt.locs, Pt.cells, Pt.slots] at X10 l10 y10_ z10_ st10 hQ10
      obtain rfl : k10 = 0 := y10_
      obtain rfl : j10 = 0 := z10_
      obtain ⟨rfl, N10q, e10q⟩ := hQ10
      have N10 : Fr n0 L10 := by rw [l10]; exact Fr.app N9 N10q
      refine own_st (B := T10.setTop (mkF m 99 #[(jV q1), sV, (iV p2), (iV p3), (iV p4), (iV p5), (iV p6), (iV p7), (iV v3), (iV v4), (iV v5), (iV v6), (iV v7), uV] [(.int (own_term q1 p2 v5 v6 v7 p3 (2 : Int32))), (.int ((own_term q1 p2 v5 v6 v7 p3 (0 : Int32)) ||| (own_term q1 p2 v5 v6 v7 p3 (1 : Int32))))])) (fun t k => st10 t k) ?_
      refine own_st (B := T10.setTop (mkF m 100 #[(jV q1), sV, (iV p2), (iV p3), (iV p4), (iV p5), (iV p6), (iV p7), (iV v3), (iV v4), (iV v5), (iV v6), (iV v7), uV] [(.int (((own_term q1 p2 v5 v6 v7 p3 (0 : Int32)) ||| (own_term q1 p2 v5 v6 v7 p3 (1 : Int32))) ||| (own_term q1 p2 v5 v6 v7 p3 (2 : Int32))))])) (fun t k => XS.ior X10.here hx rfl (hb hby d5_99) rfl k) ?_
      refine own_st (B := T10.setTop (mkF m 101 #[(jV q1), sV, (iV p2), (iV p3), (iV p4), (iV p5), (iV p6), (iV p7), (iV v3), (iV v4), (iV v5), (iV v6), (iV v7), uV] [(.long q1), (.int (((own_term q1 p2 v5 v6 v7 p3 (0 : Int32)) ||| (own_term q1 p2 v5 v6 v7 p3 (1 : Int32))) ||| (own_term q1 p2 v5 v6 v7 p3 (2 : Int32))))])) (fun t k => XS.lloadN X10.here hx rfl (hb hby d5_100) rfl k) ?_
      refine own_st (B := T10.setTop (mkF m 102 #[(jV q1), sV, (iV p2), (iV p3), (iV p4), (iV p5), (iV p6), (iV p7), (iV v3), (iV v4), (iV v5), (iV v6), (iV v7), uV] [(.int p2), (.long q1), (.int (((own_term q1 p2 v5 v6 v7 p3 (0 : Int32)) ||| (own_term q1 p2 v5 v6 v7 p3 (1 : Int32))) ||| (own_term q1 p2 v5 v6 v7 p3 (2 : Int32))))])) (fun t k => XS.iloadN X10.here hx rfl (hb hby d5_101) rfl k) ?_
      refine own_st (B := T10.setTop (mkF m 104 #[(jV q1), sV, (iV p2), (iV p3), (iV p4), (iV p5), (iV p6), (iV p7), (iV v3), (iV v4), (iV v5), (iV v6), (iV v7), uV] [(.int v5), (.int p2), (.long q1), (.int (((own_term q1 p2 v5 v6 v7 p3 (0 : Int32)) ||| (own_term q1 p2 v5 v6 v7 p3 (1 : Int32))) ||| (own_term q1 p2 v5 v6 v7 p3 (2 : Int32))))])) (fun t k => XS.iload X10.here hx rfl (hb hby d5_102) rfl k) ?_
      refine own_st (B := T10.setTop (mkF m 106 #[(jV q1), sV, (iV p2), (iV p3), (iV p4), (iV p5), (iV p6), (iV p7), (iV v3), (iV v4), (iV v5), (iV v6), (iV v7), uV] [(.int v6), (.int v5), (.int p2), (.long q1), (.int (((own_term q1 p2 v5 v6 v7 p3 (0 : Int32)) ||| (own_term q1 p2 v5 v6 v7 p3 (1 : Int32))) ||| (own_term q1 p2 v5 v6 v7 p3 (2 : Int32))))])) (fun t k => XS.iload X10.here hx rfl (hb hby d5_104) rfl k) ?_
      refine own_st (B := T10.setTop (mkF m 108 #[(jV q1), sV, (iV p2), (iV p3), (iV p4), (iV p5), (iV p6), (iV p7), (iV v3), (iV v4), (iV v5), (iV v6), (iV v7), uV] [(.int v7), (.int v6), (.int v5), (.int p2), (.long q1), (.int (((own_term q1 p2 v5 v6 v7 p3 (0 : Int32)) ||| (own_term q1 p2 v5 v6 v7 p3 (1 : Int32))) ||| (own_term q1 p2 v5 v6 v7 p3 (2 : Int32))))])) (fun t k => XS.iload X10.here hx rfl (hb hby d5_106) rfl k) ?_
      refine own_st (B := T10.setTop (mkF m 109 #[(jV q1), sV, (iV p2), (iV p3), (iV p4), (iV p5), (iV p6), (iV p7), (iV v3), (iV v4), (iV v5), (iV v6), (iV v7), uV] [(.int p3), (.int v7), (.int v6), (.int v5), (.int p2), (.long q1), (.int (((own_term q1 p2 v5 v6 v7 p3 (0 : Int32)) ||| (own_term q1 p2 v5 v6 v7 p3 (1 : Int32))) ||| (own_term q1 p2 v5 v6 v7 p3 (2 : Int32))))])) (fun t k => XS.iloadN X10.here hx rfl (hb hby d5_108) rfl k) ?_
      refine own_st (B := T10.setTop (mkF m 110 #[(jV q1), sV, (iV p2), (iV p3), (iV p4), (iV p5), (iV p6), (iV p7), (iV v3), (iV v4), (iV v5), (iV v6), (iV v7), uV] [(.int (3 : Int32)), (.int p3), (.int v7), (.int v6), (.int v5), (.int p2), (.long q1), (.int (((own_term q1 p2 v5 v6 v7 p3 (0 : Int32)) ||| (own_term q1 p2 v5 v6 v7 p3 (1 : Int32))) ||| (own_term q1 p2 v5 v6 v7 p3 (2 : Int32))))])) (fun t k => XS.iconst X10.here hx rfl (hb hby d5_109) k) ?_
      obtain ⟨_, _, ⟨T11, L11, k11, j11⟩, -, X11, ⟨Lc11, hQ11, l11, y11_, z11_⟩, st11⟩ := Jvm.LawKit.callS X10 hx (y := (⟨"com/example/relayframe/relayframe/PalettePackPinLaw", "term", "(JIIIIII)I"⟩ : MethodName)) hown (mvT hZ (w_19 hw)) (mvT hZ (w_20 hw)) (mvT hZ (w_7 hw)) (mvT hZ (w_21 hw)) (by decide) (backOf (W := 1) (rm6 l Z a0 hw [] q1 p2 v5 v6 v7 p3 (3 : Int32) h0 n0 Z0 ) hZ (w_21 hw) (w_7 hw) (by decide) (by decide)) (g := (mkF m 110 #[(jV q1), sV, (iV p2), (iV p3), (iV p4), (iV p5), (iV p6), (iV p7), (iV v3), (iV v4), (iV v5), (iV v6), (iV v7), uV] [(.int (3 : Int32)), (.int p3), (.int v7), (.int v6), (.int v5), (.int p2), (.long q1), (.int (((own_term q1 p2 v5 v6 v7 p3 (0 : Int32)) ||| (own_term q1 p2 v5 v6 v7 p3 (1 : Int32))) ||| (own_term q1 p2 v5 v6 v7 p3 (2 : Int32))))])) rfl (by rw [hml]; rfl) (argsL := [(.long q1), (.int p2), (.int v5), (.int v6), (.int v7), (.int p3), (.int (3 : Int32))]) (rest := [(.int (((own_term q1 p2 v5 v6 v7 p3 (0 : Int32)) ||| (own_term q1 p2 v5 v6 v7 p3 (1 : Int32))) ||| (own_term q1 p2 v5 v6 v7 p3 (2 : Int32))))]) (lenOf own_pd2 rfl) rfl (by show 2 * 0 + _ ≤ _; exact Nat.le_of_eq rfl) (hb hby d5_110) (fun _ _ => ⟨rfl, e10q, (by decide : 0 + 0 ≤ _), (by decide : 0 + 0 ≤ _)⟩)
      dsimp only [Pt.U, Pt.locs, Pt.cells, Pt.slots] at X11 l11 y11_ z11_ st11 hQ11
      obtain rfl : k11 = 0 := y11_
      obtain rfl : j11 = 0 := z11_
      obtain ⟨rfl, N11q, e11q⟩ := hQ11
      have N11 : Fr n0 L11 := by rw [l11]; exact Fr.app N10 N11q
      refine own_st (B := T11.setTop (mkF m 113 #[(jV q1), sV, (iV p2), (iV p3), (iV p4), (iV p5), (iV p6), (iV p7), (iV v3), (iV v4), (iV v5), (iV v6), (iV v7), uV] [(.int (own_term q1 p2 v5 v6 v7 p3 (3 : Int32))), (.int (((own_term q1 p2 v5 v6 v7 p3 (0 : Int32)) ||| (own_term q1 p2 v5 v6 v7 p3 (1 : Int32))) ||| (own_term q1 p2 v5 v6 v7 p3 (2 : Int32))))])) (fun t k => st11 t k) ?_
      refine own_st (B := T11.setTop (mkF m 114 #[(jV q1), sV, (iV p2), (iV p3), (iV p4), (iV p5), (iV p6), (iV p7), (iV v3), (iV v4), (iV v5), (iV v6), (iV v7), uV] [(.int ((((own_term q1 p2 v5 v6 v7 p3 (0 : Int32)) ||| (own_term q1 p2 v5 v6 v7 p3 (1 : Int32))) ||| (own_term q1 p2 v5 v6 v7 p3 (2 : Int32))) ||| (own_term q1 p2 v5 v6 v7 p3 (3 : Int32))))])) (fun t k => XS.ior X11.here hx rfl (hb hby d5_113) rfl k) ?_
      refine own_st (B := T11.setTop (mkF m 115 #[(jV q1), sV, (iV p2), (iV p3), (iV p4), (iV p5), (iV p6), (iV p7), (iV v3), (iV v4), (iV v5), (iV v6), (iV v7), uV] [(.long q1), (.int ((((own_term q1 p2 v5 v6 v7 p3 (0 : Int32)) ||| (own_term q1 p2 v5 v6 v7 p3 (1 : Int32))) ||| (own_term q1 p2 v5 v6 v7 p3 (2 : Int32))) ||| (own_term q1 p2 v5 v6 v7 p3 (3 : Int32))))])) (fun t k => XS.lloadN X11.here hx rfl (hb hby d5_114) rfl k) ?_
      refine own_st (B := T11.setTop (mkF m 116 #[(jV q1), sV, (iV p2), (iV p3), (iV p4), (iV p5), (iV p6), (iV p7), (iV v3), (iV v4), (iV v5), (iV v6), (iV v7), uV] [(.int p2), (.long q1), (.int ((((own_term q1 p2 v5 v6 v7 p3 (0 : Int32)) ||| (own_term q1 p2 v5 v6 v7 p3 (1 : Int32))) ||| (own_term q1 p2 v5 v6 v7 p3 (2 : Int32))) ||| (own_term q1 p2 v5 v6 v7 p3 (3 : Int32))))])) (fun t k => XS.iloadN X11.here hx rfl (hb hby d5_115) rfl k) ?_
      refine own_st (B := T11.setTop (mkF m 118 #[(jV q1), sV, (iV p2), (iV p3), (iV p4), (iV p5), (iV p6), (iV p7), (iV v3), (iV v4), (iV v5), (iV v6), (iV v7), uV] [(.int v5), (.int p2), (.long q1), (.int ((((own_term q1 p2 v5 v6 v7 p3 (0 : Int32)) ||| (own_term q1 p2 v5 v6 v7 p3 (1 : Int32))) ||| (own_term q1 p2 v5 v6 v7 p3 (2 : Int32))) ||| (own_term q1 p2 v5 v6 v7 p3 (3 : Int32))))])) (fun t k => XS.iload X11.here hx rfl (hb hby d5_116) rfl k) ?_
      refine own_st (B := T11.setTop (mkF m 120 #[(jV q1), sV, (iV p2), (iV p3), (iV p4), (iV p5), (iV p6), (iV p7), (iV v3), (iV v4), (iV v5), (iV v6), (iV v7), uV] [(.int v6), (.int v5), (.int p2), (.long q1), (.int ((((own_term q1 p2 v5 v6 v7 p3 (0 : Int32)) ||| (own_term q1 p2 v5 v6 v7 p3 (1 : Int32))) ||| (own_term q1 p2 v5 v6 v7 p3 (2 : Int32))) ||| (own_term q1 p2 v5 v6 v7 p3 (3 : Int32))))])) (fun t k => XS.iload X11.here hx rfl (hb hby d5_118) rfl k) ?_
      refine own_st (B := T11.setTop (mkF m 122 #[(jV q1), sV, (iV p2), (iV p3), (iV p4), (iV p5), (iV p6), (iV p7), (iV v3), (iV v4), (iV v5), (iV v6), (iV v7), uV] [(.int v7), (.int v6), (.int v5), (.int p2), (.long q1), (.int ((((own_term q1 p2 v5 v6 v7 p3 (0 : Int32)) ||| (own_term q1 p2 v5 v6 v7 p3 (1 : Int32))) ||| (own_term q1 p2 v5 v6 v7 p3 (2 : Int32))) ||| (own_term q1 p2 v5 v6 v7 p3 (3 : Int32))))])) (fun t k => XS.iload X11.here hx rfl (hb hby d5_120) rfl k) ?_
      refine own_st (B := T11.setTop (mkF m 123 #[(jV q1), sV, (iV p2), (iV p3), (iV p4), (iV p5), (iV p6), (iV p7), (iV v3), (iV v4), (iV v5), (iV v6), (iV v7), uV] [(.int p3), (.int v7), (.int v6), (.int v5), (.int p2), (.long q1), (.int ((((own_term q1 p2 v5 v6 v7 p3 (0 : Int32)) ||| (own_term q1 p2 v5 v6 v7 p3 (1 : Int32))) ||| (own_term q1 p2 v5 v6 v7 p3 (2 : Int32))) ||| (own_term q1 p2 v5 v6 v7 p3 (3 : Int32))))])) (fun t k => XS.iloadN X11.here hx rfl (hb hby d5_122) rfl k) ?_
      refine own_st (B := T11.setTop (mkF m 124 #[(jV q1), sV, (iV p2), (iV p3), (iV p4), (iV p5), (iV p6), (iV p7), (iV v3), (iV v4), (iV v5), (iV v6), (iV v7), uV] [(.int (4 : Int32)), (.int p3), (.int v7), (.int v6), (.int v5), (.int p2), (.long q1), (.int ((((own_term q1 p2 v5 v6 v7 p3 (0 : Int32)) ||| (own_term q1 p2 v5 v6 v7 p3 (1 : Int32))) ||| (own_term q1 p2 v5 v6 v7 p3 (2 : Int32))) ||| (own_term q1 p2 v5 v6 v7 p3 (3 : Int32))))])) (fun t k => XS.iconst X11.here hx rfl (hb hby d5_123) k) ?_
      obtain ⟨_, _, ⟨T12, L12, k12, j12⟩, -, X12, ⟨Lc12, hQ12, l12, y12_, z12_⟩, st12⟩ := Jvm.LawKit.callS X11 hx (y := (⟨"com/example/relayframe/relayframe/PalettePackPinLaw", "term", "(JIIIIII)I"⟩ : MethodName)) hown (mvT hZ (w_19 hw)) (mvT hZ (w_20 hw)) (mvT hZ (w_7 hw)) (mvT hZ (w_21 hw)) (by decide) (backOf (W := 1) (rm6 l Z a0 hw [] q1 p2 v5 v6 v7 p3 (4 : Int32) h0 n0 Z0 ) hZ (w_21 hw) (w_7 hw) (by decide) (by decide)) (g := (mkF m 124 #[(jV q1), sV, (iV p2), (iV p3), (iV p4), (iV p5), (iV p6), (iV p7), (iV v3), (iV v4), (iV v5), (iV v6), (iV v7), uV] [(.int (4 : Int32)), (.int p3), (.int v7), (.int v6), (.int v5), (.int p2), (.long q1), (.int ((((own_term q1 p2 v5 v6 v7 p3 (0 : Int32)) ||| (own_term q1 p2 v5 v6 v7 p3 (1 : Int32))) ||| (own_term q1 p2 v5 v6 v7 p3 (2 : Int32))) ||| (own_term q1 p2 v5 v6 v7 p3 (3 : Int32))))])) rfl (by rw [hml]; rfl) (argsL := [(.long q1), (.int p2), (.int v5), (.int v6), (.int v7), (.int p3), (.int (4 : Int32))]) (rest := [(.int ((((own_term q1 p2 v5 v6 v7 p3 (0 : Int32)) ||| (own_term q1 p2 v5 v6 v7 p3 (1 : Int32))) ||| (own_term q1 p2 v5 v6 v7 p3 (2 : Int32))) ||| (own_term q1 p2 v5 v6 v7 p3 (3 : Int32))))]) (lenOf own_pd2 rfl) rfl (by show 2 * 0 + _ ≤ _; exact Nat.le_of_eq rfl) (hb hby d5_124) (fun _ _ => ⟨rfl, e11q, (by decide : 0 + 0 ≤ _), (by decide : 0 + 0 ≤ _)⟩)
      dsimp only [Pt.U, Pt.locs, Pt.cells, Pt.slots] at X12 l12 y12_ z12_ st12 hQ12
      obtain rfl : k12 = 0 := y12_
      obtain rfl : j12 = 0 := z12_
      obtain ⟨rfl, N12q, e12q⟩ := hQ12
      have N12 : Fr n0 L12 := by rw [l12]; exact Fr.app N11 N12q
      refine own_st (B := T12.setTop (mkF m 127 #[(jV q1), sV, (iV p2), (iV p3), (iV p4), (iV p5), (iV p6), (iV p7), (iV v3), (iV v4), (iV v5), (iV v6), (iV v7), uV] [(.int (own_term q1 p2 v5 v6 v7 p3 (4 : Int32))), (.int ((((own_term q1 p2 v5 v6 v7 p3 (0 : Int32)) ||| (own_term q1 p2 v5 v6 v7 p3 (1 : Int32))) ||| (own_term q1 p2 v5 v6 v7 p3 (2 : Int32))) ||| (own_term q1 p2 v5 v6 v7 p3 (3 : Int32))))])) (fun t k => st12 t k) ?_
      refine own_st (B := T12.setTop (mkF m 128 #[(jV q1), sV, (iV p2), (iV p3), (iV p4), (iV p5), (iV p6), (iV p7), (iV v3), (iV v4), (iV v5), (iV v6), (iV v7), uV] [(.int (((((own_term q1 p2 v5 v6 v7 p3 (0 : Int32)) ||| (own_term q1 p2 v5 v6 v7 p3 (1 : Int32))) ||| (own_term q1 p2 v5 v6 v7 p3 (2 : Int32))) ||| (own_term q1 p2 v5 v6 v7 p3 (3 : Int32))) ||| (own_term q1 p2 v5 v6 v7 p3 (4 : Int32))))])) (fun t k => XS.ior X12.here hx rfl (hb hby d5_127) rfl k) ?_
      refine own_st (B := T12.setTop (mkF m 129 #[(jV q1), sV, (iV p2), (iV p3), (iV p4), (iV p5), (iV p6), (iV p7), (iV v3), (iV v4), (iV v5), (iV v6), (iV v7), uV] [(.long q1), (.int (((((own_term q1 p2 v5 v6 v7 p3 (0 : Int32)) ||| (own_term q1 p2 v5 v6 v7 p3 (1 : Int32))) ||| (own_term q1 p2 v5 v6 v7 p3 (2 : Int32))) ||| (own_term q1 p2 v5 v6 v7 p3 (3 : Int32))) ||| (own_term q1 p2 v5 v6 v7 p3 (4 : Int32))))])) (fun t k => XS.lloadN X12.here hx rfl (hb hby d5_128) rfl k) ?_
      refine own_st (B := T12.setTop (mkF m 130 #[(jV q1), sV, (iV p2), (iV p3), (iV p4), (iV p5), (iV p6), (iV p7), (iV v3), (iV v4), (iV v5), (iV v6), (iV v7), uV] [(.int p2), (.long q1), (.int (((((own_term q1 p2 v5 v6 v7 p3 (0 : Int32)) ||| (own_term q1 p2 v5 v6 v7 p3 (1 : Int32))) ||| (own_term q1 p2 v5 v6 v7 p3 (2 : Int32))) ||| (own_term q1 p2 v5 v6 v7 p3 (3 : Int32))) ||| (own_term q1 p2 v5 v6 v7 p3 (4 : Int32))))])) (fun t k => XS.iloadN X12.here hx rfl (hb hby d5_129) rfl k) ?_
      refine own_st (B := T12.setTop (mkF m 132 #[(jV q1), sV, (iV p2), (iV p3), (iV p4), (iV p5), (iV p6), (iV p7), (iV v3), (iV v4), (iV v5), (iV v6), (iV v7), uV] [(.int v5), (.int p2), (.long q1), (.int (((((own_term q1 p2 v5 v6 v7 p3 (0 : Int32)) ||| (own_term q1 p2 v5 v6 v7 p3 (1 : Int32))) ||| (own_term q1 p2 v5 v6 v7 p3 (2 : Int32))) ||| (own_term q1 p2 v5 v6 v7 p3 (3 : Int32))) ||| (own_term q1 p2 v5 v6 v7 p3 (4 : Int32))))])) (fun t k => XS.iload X12.here hx rfl (hb hby d5_130) rfl k) ?_
      refine own_st (B := T12.setTop (mkF m 134 #[(jV q1), sV, (iV p2), (iV p3), (iV p4), (iV p5), (iV p6), (iV p7), (iV v3), (iV v4), (iV v5), (iV v6), (iV v7), uV] [(.int v6), (.int v5), (.int p2), (.long q1), (.int (((((own_term q1 p2 v5 v6 v7 p3 (0 : Int32)) ||| (own_term q1 p2 v5 v6 v7 p3 (1 : Int32))) ||| (own_term q1 p2 v5 v6 v7 p3 (2 : Int32))) ||| (own_term q1 p2 v5 v6 v7 p3 (3 : Int32))) ||| (own_term q1 p2 v5 v6 v7 p3 (4 : Int32))))])) (fun t k => XS.iload X12.here hx rfl (hb hby d5_132) rfl k) ?_
      refine own_st (B := T12.setTop (mkF m 136 #[(jV q1), sV, (iV p2), (iV p3), (iV p4), (iV p5), (iV p6), (iV p7), (iV v3), (iV v4), (iV v5), (iV v6), (iV v7), uV] [(.int v7), (.int v6), (.int v5), (.int p2), (.long q1), (.int (((((own_term q1 p2 v5 v6 v7 p3 (0 : Int32)) ||| (own_term q1 p2 v5 v6 v7 p3 (1 : Int32))) ||| (own_term q1 p2 v5 v6 v7 p3 (2 : Int32))) ||| (own_term q1 p2 v5 v6 v7 p3 (3 : Int32))) ||| (own_term q1 p2 v5 v6 v7 p3 (4 : Int32))))])) (fun t k => XS.iload X12.here hx rfl (hb hby d5_134) rfl k) ?_
      refine own_st (B := T12.setTop (mkF m 137 #[(jV q1), sV, (iV p2), (iV p3), (iV p4), (iV p5), (iV p6), (iV p7), (iV v3), (iV v4), (iV v5), (iV v6), (iV v7), uV] [(.int p3), (.int v7), (.int v6), (.int v5), (.int p2), (.long q1), (.int (((((own_term q1 p2 v5 v6 v7 p3 (0 : Int32)) ||| (own_term q1 p2 v5 v6 v7 p3 (1 : Int32))) ||| (own_term q1 p2 v5 v6 v7 p3 (2 : Int32))) ||| (own_term q1 p2 v5 v6 v7 p3 (3 : Int32))) ||| (own_term q1 p2 v5 v6 v7 p3 (4 : Int32))))])) (fun t k => XS.iloadN X12.here hx rfl (hb hby d5_136) rfl k) ?_
      refine own_st (B := T12.setTop (mkF m 138 #[(jV q1), sV, (iV p2), (iV p3), (iV p4), (iV p5), (iV p6), (iV p7), (iV v3), (iV v4), (iV v5), (iV v6), (iV v7), uV] [(.int (5 : Int32)), (.int p3), (.int v7), (.int v6), (.int v5), (.int p2), (.long q1), (.int (((((own_term q1 p2 v5 v6 v7 p3 (0 : Int32)) ||| (own_term q1 p2 v5 v6 v7 p3 (1 : Int32))) ||| (own_term q1 p2 v5 v6 v7 p3 (2 : Int32))) ||| (own_term q1 p2 v5 v6 v7 p3 (3 : Int32))) ||| (own_term q1 p2 v5 v6 v7 p3 (4 : Int32))))])) (fun t k => XS.iconst X12.here hx rfl (hb hby d5_137) k) ?_
      obtain ⟨_, _, ⟨T13, L13, k13, j13⟩, -, X13, ⟨Lc13, hQ13, l13, y13_, z13_⟩, st13⟩ := Jvm.LawKit.callS X12 hx (y := (⟨"com/example/relayframe/relayframe/PalettePackPinLaw", "term", "(JIIIIII)I"⟩ : MethodName)) hown (mvT hZ (w_19 hw)) (mvT hZ (w_20 hw)) (mvT hZ (w_7 hw)) (mvT hZ (w_21 hw)) (by decide) (backOf (W := 1) (rm6 l Z a0 hw [] q1 p2 v5 v6 v7 p3 (5 : Int32) h0 n0 Z0 ) hZ (w_21 hw) (w_7 hw) (by decide) (by decide)) (g := (mkF m 138 #[(jV q1), sV, (iV p2), (iV p3), (iV p4), (iV p5), (iV p6), (iV p7), (iV v3), (iV v4), (iV v5), (iV v6), (iV v7), uV] [(.int (5 : Int32)), (.int p3), (.int v7), (.int v6), (.int v5), (.int p2), (.long q1), (.int (((((own_term q1 p2 v5 v6 v7 p3 (0 : Int32)) ||| (own_term q1 p2 v5 v6 v7 p3 (1 : Int32))) ||| (own_term q1 p2 v5 v6 v7 p3 (2 : Int32))) ||| (own_term q1 p2 v5 v6 v7 p3 (3 : Int32))) ||| (own_term q1 p2 v5 v6 v7 p3 (4 : Int32))))])) rfl (by rw [hml]; rfl) (argsL := [(.long q1), (.int p2), (.int v5), (.int v6), (.int v7), (.int p3), (.int (5 : Int32))]) (rest := [(.int (((((own_term q1 p2 v5 v6 v7 p3 (0 : Int32)) ||| (own_term q1 p2 v5 v6 v7 p3 (1 : Int32))) ||| (own_term q1 p2 v5 v6 v7 p3 (2 : Int32))) ||| (own_term q1 p2 v5 v6 v7 p3 (3 : Int32))) ||| (own_term q1 p2 v5 v6 v7 p3 (4 : Int32))))]) (lenOf own_pd2 rfl) rfl (by show 2 * 0 + _ ≤ _; exact Nat.le_of_eq rfl) (hb hby d5_138) (fun _ _ => ⟨rfl, e12q, (by decide : 0 + 0 ≤ _), (by decide : 0 + 0 ≤ _)⟩)
      dsimp only [Pt.U, Pt.locs, Pt.cells, Pt.slots] at X13 l13 y13_ z13_ st13 hQ13
      obtain rfl : k13 = 0 := y13_
      obtain rfl : j13 = 0 := z13_
      obtain ⟨rfl, N13q, e13q⟩ := hQ13
      have N13 : Fr n0 L13 := by rw [l13]; exact Fr.app N12 N13q
      refine own_st (B := T13.setTop (mkF m 141 #[(jV q1), sV, (iV p2), (iV p3), (iV p4), (iV p5), (iV p6), (iV p7), (iV v3), (iV v4), (iV v5), (iV v6), (iV v7), uV] [(.int (own_term q1 p2 v5 v6 v7 p3 (5 : Int32))), (.int (((((own_term q1 p2 v5 v6 v7 p3 (0 : Int32)) ||| (own_term q1 p2 v5 v6 v7 p3 (1 : Int32))) ||| (own_term q1 p2 v5 v6 v7 p3 (2 : Int32))) ||| (own_term q1 p2 v5 v6 v7 p3 (3 : Int32))) ||| (own_term q1 p2 v5 v6 v7 p3 (4 : Int32))))])) (fun t k => st13 t k) ?_
      refine own_st (B := T13.setTop (mkF m 142 #[(jV q1), sV, (iV p2), (iV p3), (iV p4), (iV p5), (iV p6), (iV p7), (iV v3), (iV v4), (iV v5), (iV v6), (iV v7), uV] [(.int ((((((own_term q1 p2 v5 v6 v7 p3 (0 : Int32)) ||| (own_term q1 p2 v5 v6 v7 p3 (1 : Int32))) ||| (own_term q1 p2 v5 v6 v7 p3 (2 : Int32))) ||| (own_term q1 p2 v5 v6 v7 p3 (3 : Int32))) ||| (own_term q1 p2 v5 v6 v7 p3 (4 : Int32))) ||| (own_term q1 p2 v5 v6 v7 p3 (5 : Int32))))])) (fun t k => XS.ior X13.here hx rfl (hb hby d5_141) rfl k) ?_
      refine own_st (B := T13.setTop (mkF m 143 #[(jV q1), sV, (iV p2), (iV p3), (iV p4), (iV p5), (iV p6), (iV p7), (iV v3), (iV v4), (iV v5), (iV v6), (iV v7), uV] [(.long q1), (.int ((((((own_term q1 p2 v5 v6 v7 p3 (0 : Int32)) ||| (own_term q1 p2 v5 v6 v7 p3 (1 : Int32))) ||| (own_term q1 p2 v5 v6 v7 p3 (2 : Int32))) ||| (own_term q1 p2 v5 v6 v7 p3 (3 : Int32))) ||| (own_term q1 p2 v5 v6 v7 p3 (4 : Int32))) ||| (own_term q1 p2 v5 v6 v7 p3 (5 : Int32))))])) (fun t k => XS.lloadN X13.here hx rfl (hb hby d5_142) rfl k) ?_
      refine own_st (B := T13.setTop (mkF m 144 #[(jV q1), sV, (iV p2), (iV p3), (iV p4), (iV p5), (iV p6), (iV p7), (iV v3), (iV v4), (iV v5), (iV v6), (iV v7), uV] [(.int p2), (.long q1), (.int ((((((own_term q1 p2 v5 v6 v7 p3 (0 : Int32)) ||| (own_term q1 p2 v5 v6 v7 p3 (1 : Int32))) ||| (own_term q1 p2 v5 v6 v7 p3 (2 : Int32))) ||| (own_term q1 p2 v5 v6 v7 p3 (3 : Int32))) ||| (own_term q1 p2 v5 v6 v7 p3 (4 : Int32))) ||| (own_term q1 p2 v5 v6 v7 p3 (5 : Int32))))])) (fun t k => XS.iloadN X13.here hx rfl (hb hby d5_143) rfl k) ?_
      refine own_st (B := T13.setTop (mkF m 146 #[(jV q1), sV, (iV p2), (iV p3), (iV p4), (iV p5), (iV p6), (iV p7), (iV v3), (iV v4), (iV v5), (iV v6), (iV v7), uV] [(.int v5), (.int p2), (.long q1), (.int ((((((own_term q1 p2 v5 v6 v7 p3 (0 : Int32)) ||| (own_term q1 p2 v5 v6 v7 p3 (1 : Int32))) ||| (own_term q1 p2 v5 v6 v7 p3 (2 : Int32))) ||| (own_term q1 p2 v5 v6 v7 p3 (3 : Int32))) ||| (own_term q1 p2 v5 v6 v7 p3 (4 : Int32))) ||| (own_term q1 p2 v5 v6 v7 p3 (5 : Int32))))])) (fun t k => XS.iload X13.here hx rfl (hb hby d5_144) rfl k) ?_
      refine own_st (B := T13.setTop (mkF m 148 #[(jV q1), sV, (iV p2), (iV p3), (iV p4), (iV p5), (iV p6), (iV p7), (iV v3), (iV v4), (iV v5), (iV v6), (iV v7), uV] [(.int v6), (.int v5), (.int p2), (.long q1), (.int ((((((own_term q1 p2 v5 v6 v7 p3 (0 : Int32)) ||| (own_term q1 p2 v5 v6 v7 p3 (1 : Int32))) ||| (own_term q1 p2 v5 v6 v7 p3 (2 : Int32))) ||| (own_term q1 p2 v5 v6 v7 p3 (3 : Int32))) ||| (own_term q1 p2 v5 v6 v7 p3 (4 : Int32))) ||| (own_term q1 p2 v5 v6 v7 p3 (5 : Int32))))])) (fun t k => XS.iload X13.here hx rfl (hb hby d5_146) rfl k) ?_
      refine own_st (B := T13.setTop (mkF m 150 #[(jV q1), sV, (iV p2), (iV p3), (iV p4), (iV p5), (iV p6), (iV p7), (iV v3), (iV v4), (iV v5), (iV v6), (iV v7), uV] [(.int v7), (.int v6), (.int v5), (.int p2), (.long q1), (.int ((((((own_term q1 p2 v5 v6 v7 p3 (0 : Int32)) ||| (own_term q1 p2 v5 v6 v7 p3 (1 : Int32))) ||| (own_term q1 p2 v5 v6 v7 p3 (2 : Int32))) ||| (own_term q1 p2 v5 v6 v7 p3 (3 : Int32))) ||| (own_term q1 p2 v5 v6 v7 p3 (4 : Int32))) ||| (own_term q1 p2 v5 v6 v7 p3 (5 : Int32))))])) (fun t k => XS.iload X13.here hx rfl (hb hby d5_148) rfl k) ?_
      refine own_st (B := T13.setTop (mkF m 151 #[(jV q1), sV, (iV p2), (iV p3), (iV p4), (iV p5), (iV p6), (iV p7), (iV v3), (iV v4), (iV v5), (iV v6), (iV v7), uV] [(.int p3), (.int v7), (.int v6), (.int v5), (.int p2), (.long q1), (.int ((((((own_term q1 p2 v5 v6 v7 p3 (0 : Int32)) ||| (own_term q1 p2 v5 v6 v7 p3 (1 : Int32))) ||| (own_term q1 p2 v5 v6 v7 p3 (2 : Int32))) ||| (own_term q1 p2 v5 v6 v7 p3 (3 : Int32))) ||| (own_term q1 p2 v5 v6 v7 p3 (4 : Int32))) ||| (own_term q1 p2 v5 v6 v7 p3 (5 : Int32))))])) (fun t k => XS.iloadN X13.here hx rfl (hb hby d5_150) rfl k) ?_
      refine own_st (B := T13.setTop (mkF m 153 #[(jV q1), sV, (iV p2), (iV p3), (iV p4), (iV p5), (iV p6), (iV p7), (iV v3), (iV v4), (iV v5), (iV v6), (iV v7), uV] [(.int (6 : Int32)), (.int p3), (.int v7), (.int v6), (.int v5), (.int p2), (.long q1), (.int ((((((own_term q1 p2 v5 v6 v7 p3 (0 : Int32)) ||| (own_term q1 p2 v5 v6 v7 p3 (1 : Int32))) ||| (own_term q1 p2 v5 v6 v7 p3 (2 : Int32))) ||| (own_term q1 p2 v5 v6 v7 p3 (3 : Int32))) ||| (own_term q1 p2 v5 v6 v7 p3 (4 : Int32))) ||| (own_term q1 p2 v5 v6 v7 p3 (5 : Int32))))])) (fun t k => XS.bipush X13.here hx rfl (hb hby d5_151) k) ?_
      obtain ⟨_, _, ⟨T14, L14, k14, j14⟩, -, X14, ⟨Lc14, hQ14, l14, y14_, z14_⟩, st14⟩ := Jvm.LawKit.callS X13 hx (y := (⟨"com/example/relayframe/relayframe/PalettePackPinLaw", "term", "(JIIIIII)I"⟩ : MethodName)) hown (mvT hZ (w_19 hw)) (mvT hZ (w_20 hw)) (mvT hZ (w_7 hw)) (mvT hZ (w_21 hw)) (by decide) (backOf (W := 1) (rm6 l Z a0 hw [] q1 p2 v5 v6 v7 p3 (6 : Int32) h0 n0 Z0 ) hZ (w_21 hw) (w_7 hw) (by decide) (by decide)) (g := (mkF m 153 #[(jV q1), sV, (iV p2), (iV p3), (iV p4), (iV p5), (iV p6), (iV p7), (iV v3), (iV v4), (iV v5), (iV v6), (iV v7), uV] [(.int (6 : Int32)), (.int p3), (.int v7), (.int v6), (.int v5), (.int p2), (.long q1), (.int ((((((own_term q1 p2 v5 v6 v7 p3 (0 : Int32)) ||| (own_term q1 p2 v5 v6 v7 p3 (1 : Int32))) ||| (own_term q1 p2 v5 v6 v7 p3 (2 : Int32))) ||| (own_term q1 p2 v5 v6 v7 p3 (3 : Int32))) ||| (own_term q1 p2 v5 v6 v7 p3 (4 : Int32))) ||| (own_term q1 p2 v5 v6 v7 p3 (5 : Int32))))])) rfl (by rw [hml]; rfl) (argsL := [(.long q1), (.int p2), (.int v5), (.int v6), (.int v7), (.int p3), (.int (6 : Int32))]) (rest := [(.int ((((((own_term q1 p2 v5 v6 v7 p3 (0 : Int32)) ||| (own_term q1 p2 v5 v6 v7 p3 (1 : Int32))) ||| (own_term q1 p2 v5 v6 v7 p3 (2 : Int32))) ||| (own_term q1 p2 v5 v6 v7 p3 (3 : Int32))) ||| (own_term q1 p2 v5 v6 v7 p3 (4 : Int32))) ||| (own_term q1 p2 v5 v6 v7 p3 (5 : Int32))))]) (lenOf own_pd2 rfl) rfl (by show 2 * 0 + _ ≤ _; exact Nat.le_of_eq rfl) (hb hby d5_153) (fun _ _ => ⟨rfl, e13q, (by decide : 0 + 0 ≤ _), (by decide : 0 + 0 ≤ _)⟩)
      dsimp only [Pt.U, Pt.locs, Pt.cells, Pt.slots] at X14 l14 y14_ z14_ st14 hQ14
      obtain rfl : k14 = 0 := y14_
      obtain rfl : j14 = 0 := z14_
      obtain ⟨rfl, N14q, e14q⟩ := hQ14
      have N14 : Fr n0 L14 := by rw [l14]; exact Fr.app N13 N14q
      refine own_st (B := T14.setTop (mkF m 156 #[(jV q1), sV, (iV p2), (iV p3), (iV p4), (iV p5), (iV p6), (iV p7), (iV v3), (iV v4), (iV v5), (iV v6), (iV v7), uV] [(.int (own_term q1 p2 v5 v6 v7 p3 (6 : Int32))), (.int ((((((own_term q1 p2 v5 v6 v7 p3 (0 : Int32)) ||| (own_term q1 p2 v5 v6 v7 p3 (1 : Int32))) ||| (own_term q1 p2 v5 v6 v7 p3 (2 : Int32))) ||| (own_term q1 p2 v5 v6 v7 p3 (3 : Int32))) ||| (own_term q1 p2 v5 v6 v7 p3 (4 : Int32))) ||| (own_term q1 p2 v5 v6 v7 p3 (5 : Int32))))])) (fun t k => st14 t k) ?_
      refine own_st (B := T14.setTop (mkF m 157 #[(jV q1), sV, (iV p2), (iV p3), (iV p4), (iV p5), (iV p6), (iV p7), (iV v3), (iV v4), (iV v5), (iV v6), (iV v7), uV] [(.int (((((((own_term q1 p2 v5 v6 v7 p3 (0 : Int32)) ||| (own_term q1 p2 v5 v6 v7 p3 (1 : Int32))) ||| (own_term q1 p2 v5 v6 v7 p3 (2 : Int32))) ||| (own_term q1 p2 v5 v6 v7 p3 (3 : Int32))) ||| (own_term q1 p2 v5 v6 v7 p3 (4 : Int32))) ||| (own_term q1 p2 v5 v6 v7 p3 (5 : Int32))) ||| (own_term q1 p2 v5 v6 v7 p3 (6 : Int32))))])) (fun t k => XS.ior X14.here hx rfl (hb hby d5_156) rfl k) ?_
      refine own_st (B := T14.setTop (mkF m 158 #[(jV q1), sV, (iV p2), (iV p3), (iV p4), (iV p5), (iV p6), (iV p7), (iV v3), (iV v4), (iV v5), (iV v6), (iV v7), uV] [(.long q1), (.int (((((((own_term q1 p2 v5 v6 v7 p3 (0 : Int32)) ||| (own_term q1 p2 v5 v6 v7 p3 (1 : Int32))) ||| (own_term q1 p2 v5 v6 v7 p3 (2 : Int32))) ||| (own_term q1 p2 v5 v6 v7 p3 (3 : Int32))) ||| (own_term q1 p2 v5 v6 v7 p3 (4 : Int32))) ||| (own_term q1 p2 v5 v6 v7 p3 (5 : Int32))) ||| (own_term q1 p2 v5 v6 v7 p3 (6 : Int32))))])) (fun t k => XS.lloadN X14.here hx rfl (hb hby d5_157) rfl k) ?_
      refine own_st (B := T14.setTop (mkF m 159 #[(jV q1), sV, (iV p2), (iV p3), (iV p4), (iV p5), (iV p6), (iV p7), (iV v3), (iV v4), (iV v5), (iV v6), (iV v7), uV] [(.int p2), (.long q1), (.int (((((((own_term q1 p2 v5 v6 v7 p3 (0 : Int32)) ||| (own_term q1 p2 v5 v6 v7 p3 (1 : Int32))) ||| (own_term q1 p2 v5 v6 v7 p3 (2 : Int32))) ||| (own_term q1 p2 v5 v6 v7 p3 (3 : Int32))) ||| (own_term q1 p2 v5 v6 v7 p3 (4 : Int32))) ||| (own_term q1 p2 v5 v6 v7 p3 (5 : Int32))) ||| (own_term q1 p2 v5 v6 v7 p3 (6 : Int32))))])) (fun t k => XS.iloadN X14.here hx rfl (hb hby d5_158) rfl k) ?_
      refine own_st (B := T14.setTop (mkF m 161 #[(jV q1), sV, (iV p2), (iV p3), (iV p4), (iV p5), (iV p6), (iV p7), (iV v3), (iV v4), (iV v5), (iV v6), (iV v7), uV] [(.int v5), (.int p2), (.long q1), (.int (((((((own_term q1 p2 v5 v6 v7 p3 (0 : Int32)) ||| (own_term q1 p2 v5 v6 v7 p3 (1 : Int32))) ||| (own_term q1 p2 v5 v6 v7 p3 (2 : Int32))) ||| (own_term q1 p2 v5 v6 v7 p3 (3 : Int32))) ||| (own_term q1 p2 v5 v6 v7 p3 (4 : Int32))) ||| (own_term q1 p2 v5 v6 v7 p3 (5 : Int32))) ||| (own_term q1 p2 v5 v6 v7 p3 (6 : Int32))))])) (fun t k => XS.iload X14.here hx rfl (hb hby d5_159) rfl k) ?_
      refine own_st (B := T14.setTop (mkF m 163 #[(jV q1), sV, (iV p2), (iV p3), (iV p4), (iV p5), (iV p6), (iV p7), (iV v3), (iV v4), (iV v5), (iV v6), (iV v7), uV] [(.int v6), (.int v5), (.int p2), (.long q1), (.int (((((((own_term q1 p2 v5 v6 v7 p3 (0 : Int32)) ||| (own_term q1 p2 v5 v6 v7 p3 (1 : Int32))) ||| (own_term q1 p2 v5 v6 v7 p3 (2 : Int32))) ||| (own_term q1 p2 v5 v6 v7 p3 (3 : Int32))) ||| (own_term q1 p2 v5 v6 v7 p3 (4 : Int32))) ||| (own_term q1 p2 v5 v6 v7 p3 (5 : Int32))) ||| (own_term q1 p2 v5 v6 v7 p3 (6 : Int32))))])) (fun t k => XS.iload X14.here hx rfl (hb hby d5_161) rfl k) ?_
      refine own_st (B := T14.setTop (mkF m 165 #[(jV q1), sV, (iV p2), (iV p3), (iV p4), (iV p5), (iV p6), (iV p7), (iV v3), (iV v4), (iV v5), (iV v6), (iV v7), uV] [(.int v7), (.int v6), (.int v5), (.int p2), (.long q1), (.int (((((((own_term q1 p2 v5 v6 v7 p3 (0 : Int32)) ||| (own_term q1 p2 v5 v6 v7 p3 (1 : Int32))) ||| (own_term q1 p2 v5 v6 v7 p3 (2 : Int32))) ||| (own_term q1 p2 v5 v6 v7 p3 (3 : Int32))) ||| (own_term q1 p2 v5 v6 v7 p3 (4 : Int32))) ||| (own_term q1 p2 v5 v6 v7 p3 (5 : Int32))) ||| (own_term q1 p2 v5 v6 v7 p3 (6 : Int32))))])) (fun t k => XS.iload X14.here hx rfl (hb hby d5_163) rfl k) ?_
      refine own_st (B := T14.setTop (mkF m 166 #[(jV q1), sV, (iV p2), (iV p3), (iV p4), (iV p5), (iV p6), (iV p7), (iV v3), (iV v4), (iV v5), (iV v6), (iV v7), uV] [(.int p3), (.int v7), (.int v6), (.int v5), (.int p2), (.long q1), (.int (((((((own_term q1 p2 v5 v6 v7 p3 (0 : Int32)) ||| (own_term q1 p2 v5 v6 v7 p3 (1 : Int32))) ||| (own_term q1 p2 v5 v6 v7 p3 (2 : Int32))) ||| (own_term q1 p2 v5 v6 v7 p3 (3 : Int32))) ||| (own_term q1 p2 v5 v6 v7 p3 (4 : Int32))) ||| (own_term q1 p2 v5 v6 v7 p3 (5 : Int32))) ||| (own_term q1 p2 v5 v6 v7 p3 (6 : Int32))))])) (fun t k => XS.iloadN X14.here hx rfl (hb hby d5_165) rfl k) ?_
      refine own_st (B := T14.setTop (mkF m 168 #[(jV q1), sV, (iV p2), (iV p3), (iV p4), (iV p5), (iV p6), (iV p7), (iV v3), (iV v4), (iV v5), (iV v6), (iV v7), uV] [(.int (7 : Int32)), (.int p3), (.int v7), (.int v6), (.int v5), (.int p2), (.long q1), (.int (((((((own_term q1 p2 v5 v6 v7 p3 (0 : Int32)) ||| (own_term q1 p2 v5 v6 v7 p3 (1 : Int32))) ||| (own_term q1 p2 v5 v6 v7 p3 (2 : Int32))) ||| (own_term q1 p2 v5 v6 v7 p3 (3 : Int32))) ||| (own_term q1 p2 v5 v6 v7 p3 (4 : Int32))) ||| (own_term q1 p2 v5 v6 v7 p3 (5 : Int32))) ||| (own_term q1 p2 v5 v6 v7 p3 (6 : Int32))))])) (fun t k => XS.bipush X14.here hx rfl (hb hby d5_166) k) ?_
      obtain ⟨_, _, ⟨T15, L15, k15, j15⟩, -, X15, ⟨Lc15, hQ15, l15, y15_, z15_⟩, st15⟩ := Jvm.LawKit.callS X14 hx (y := (⟨"com/example/relayframe/relayframe/PalettePackPinLaw", "term", "(JIIIIII)I"⟩ : MethodName)) hown (mvT hZ (w_19 hw)) (mvT hZ (w_20 hw)) (mvT hZ (w_7 hw)) (mvT hZ (w_21 hw)) (by decide) (backOf (W := 1) (rm6 l Z a0 hw [] q1 p2 v5 v6 v7 p3 (7 : Int32) h0 n0 Z0 ) hZ (w_21 hw) (w_7 hw) (by decide) (by decide)) (g := (mkF m 168 #[(jV q1), sV, (iV p2), (iV p3), (iV p4), (iV p5), (iV p6), (iV p7), (iV v3), (iV v4), (iV v5), (iV v6), (iV v7), uV] [(.int (7 : Int32)), (.int p3), (.int v7), (.int v6), (.int v5), (.int p2), (.long q1), (.int (((((((own_term q1 p2 v5 v6 v7 p3 (0 : Int32)) ||| (own_term q1 p2 v5 v6 v7 p3 (1 : Int32))) ||| (own_term q1 p2 v5 v6 v7 p3 (2 : Int32))) ||| (own_term q1 p2 v5 v6 v7 p3 (3 : Int32))) ||| (own_term q1 p2 v5 v6 v7 p3 (4 : Int32))) ||| (own_term q1 p2 v5 v6 v7 p3 (5 : Int32))) ||| (own_term q1 p2 v5 v6 v7 p3 (6 : Int32))))])) rfl (by rw [hml]; rfl) (argsL := [(.long q1), (.int p2), (.int v5), (.int v6), (.int v7), (.int p3), (.int (7 : Int32))]) (rest := [(.int (((((((own_term q1 p2 v5 v6 v7 p3 (0 : Int32)) ||| (own_term q1 p2 v5 v6 v7 p3 (1 : Int32))) ||| (own_term q1 p2 v5 v6 v7 p3 (2 : Int32))) ||| (own_term q1 p2 v5 v6 v7 p3 (3 : Int32))) ||| (own_term q1 p2 v5 v6 v7 p3 (4 : Int32))) ||| (own_term q1 p2 v5 v6 v7 p3 (5 : Int32))) ||| (own_term q1 p2 v5 v6 v7 p3 (6 : Int32))))]) (lenOf own_pd2 rfl) rfl (by show 2 * 0 + _ ≤ _; exact Nat.le_of_eq rfl) (hb hby d5_168) (fun _ _ => ⟨rfl, e14q, (by decide : 0 + 0 ≤ _), (by decide : 0 + 0 ≤ _)⟩)
      dsimp only [Pt.U, Pt.locs, Pt.cells, Pt.slots] at X15 l15 y15_ z15_ st15 hQ15
      obtain rfl : k15 = 0 := y15_
      obtain rfl : j15 = 0 := z15_
      obtain ⟨rfl, N15q, e15q⟩ := hQ15
      have N15 : Fr n0 L15 := by rw [l15]; exact Fr.app N14 N15q
      refine own_st (B := T15.setTop (mkF m 171 #[(jV q1), sV, (iV p2), (iV p3), (iV p4), (iV p5), (iV p6), (iV p7), (iV v3), (iV v4), (iV v5), (iV v6), (iV v7), uV] [(.int (own_term q1 p2 v5 v6 v7 p3 (7 : Int32))), (.int (((((((own_term q1 p2 v5 v6 v7 p3 (0 : Int32)) ||| (own_term q1 p2 v5 v6 v7 p3 (1 : Int32))) ||| (own_term q1 p2 v5 v6 v7 p3 (2 : Int32))) ||| (own_term q1 p2 v5 v6 v7 p3 (3 : Int32))) ||| (own_term q1 p2 v5 v6 v7 p3 (4 : Int32))) ||| (own_term q1 p2 v5 v6 v7 p3 (5 : Int32))) ||| (own_term q1 p2 v5 v6 v7 p3 (6 : Int32))))])) (fun t k => st15 t k) ?_
      refine own_st (B := T15.setTop (mkF m 172 #[(jV q1), sV, (iV p2), (iV p3), (iV p4), (iV p5), (iV p6), (iV p7), (iV v3), (iV v4), (iV v5), (iV v6), (iV v7), uV] [(.int ((((((((own_term q1 p2 v5 v6 v7 p3 (0 : Int32)) ||| (own_term q1 p2 v5 v6 v7 p3 (1 : Int32))) ||| (own_term q1 p2 v5 v6 v7 p3 (2 : Int32))) ||| (own_term q1 p2 v5 v6 v7 p3 (3 : Int32))) ||| (own_term q1 p2 v5 v6 v7 p3 (4 : Int32))) ||| (own_term q1 p2 v5 v6 v7 p3 (5 : Int32))) ||| (own_term q1 p2 v5 v6 v7 p3 (6 : Int32))) ||| (own_term q1 p2 v5 v6 v7 p3 (7 : Int32))))])) (fun t k => XS.ior X15.here hx rfl (hb hby d5_171) rfl k) ?_
      obtain ⟨v16, ev16⟩ : ∃ z : Int32, z = ((((((((own_term q1 p2 v5 v6 v7 p3 (0 : Int32)) ||| (own_term q1 p2 v5 v6 v7 p3 (1 : Int32))) ||| (own_term q1 p2 v5 v6 v7 p3 (2 : Int32))) ||| (own_term q1 p2 v5 v6 v7 p3 (3 : Int32))) ||| (own_term q1 p2 v5 v6 v7 p3 (4 : Int32))) ||| (own_term q1 p2 v5 v6 v7 p3 (5 : Int32))) ||| (own_term q1 p2 v5 v6 v7 p3 (6 : Int32))) ||| (own_term q1 p2 v5 v6 v7 p3 (7 : Int32))) := ⟨_, rfl⟩
      rw [← ev16]
      refine own_st (B := T15.setTop (mkF m 174 #[(jV q1), sV, (iV p2), (iV p3), (iV p4), (iV p5), (iV p6), (iV p7), (iV v3), (iV v4), (iV v5), (iV v6), (iV v7), (iV v16)] [])) (fun t k => XS.istore X15.here hx rfl (hb hby d5_172) rfl (l' := #[(jV q1), sV, (iV p2), (iV p3), (iV p4), (iV p5), (iV p6), (iV p7), (iV v3), (iV v4), (iV v5), (iV v6), (iV v7), (iV v16)]) rfl k) ?_
      refine own_st (B := T15.setTop (mkF m 176 #[(jV q1), sV, (iV p2), (iV p3), (iV p4), (iV p5), (iV p6), (iV p7), (iV v3), (iV v4), (iV v5), (iV v6), (iV v7), (iV v16)] [(.int v16)])) (fun t k => XS.iload X15.here hx rfl (hb hby d5_174) rfl k) ?_
      refine own_st (B := T15.setTop (mkF m 177 #[(jV q1), sV, (iV p2), (iV p3), (iV p4), (iV p5), (iV p6), (iV p7), (iV v3), (iV v4), (iV v5), (iV v6), (iV v7), (iV v16)] [(.int (v16.toInt8.toInt32))])) (fun t k => XS.i2b X15.here hx rfl (hb hby d5_176) rfl k) ?_
      refine own_retN X15 hx hlk (t := .byte) Bd.returns (by simp) (z' := (v16.toInt8.toInt32)) (own_bb _) (hb hby d5_177) (by decide) (by decide) ?_
      show Q5 Z q1 p2 p3 p4 p5 p6 p7 h0 n0 _ T15.heap _
      rw [e15q]
      exact ⟨(by subst v3 v4 v5 v6 v7 v16; unfold own_eb; rw [if_neg hc1, if_pos hc2]), N15, rfl⟩
    · refine own_st (B := s₁.setTop (mkF m 14 #[(jV q1), sV, (iV p2), (iV p3), (iV p4), (iV p5), (iV p6), (iV p7), uV, uV, uV, uV, uV, uV] [])) (fun t k => XS.icmpNo X0.here hx rfl (hb hby d5_11) rfl (XT.ii_lt_f hc2) k) ?_
      refine own_st (B := s₁.setTop (mkF m 16 #[(jV q1), sV, (iV p2), (iV p3), (iV p4), (iV p5), (iV p6), (iV p7), uV, uV, uV, uV, uV, uV] [(.int p6)])) (fun t k => XS.iload X0.here hx rfl (hb hby d5_14) rfl k) ?_
      refine own_st (B := s₁.setTop (mkF m 18 #[(jV q1), sV, (iV p2), (iV p3), (iV p4), (iV p5), (iV p6), (iV p7), uV, uV, uV, uV, uV, uV] [(.int p7), (.int p6)])) (fun t k => XS.iload X0.here hx rfl (hb hby d5_16) rfl k) ?_
      refine own_st (B := s₁.setTop (mkF m 19 #[(jV q1), sV, (iV p2), (iV p3), (iV p4), (iV p5), (iV p6), (iV p7), uV, uV, uV, uV, uV, uV] [(.int (p6 + p7))])) (fun t k => XS.iadd X0.here hx rfl (hb hby d5_18) rfl k) ?_
      refine own_st (B := s₁.setTop (mkF m 20 #[(jV q1), sV, (iV p2), (iV p3), (iV p4), (iV p5), (iV p6), (iV p7), uV, uV, uV, uV, uV, uV] [(.int ((p6 + p7).toInt8.toInt32))])) (fun t k => XS.i2b X0.here hx rfl (hb hby d5_19) rfl k) ?_
      refine own_retN X0 hx hlk (t := .byte) Bd.returns (by simp) (z' := ((p6 + p7).toInt8.toInt32)) (own_bb _) (hb hby d5_20) (by decide) (by decide) ?_
      show Q5 Z q1 p2 p3 p4 p5 p6 p7 h0 n0 _ s₁.heap _
      rw [e0]
      exact ⟨(by unfold own_eb; rw [if_neg hc1, if_neg hc2]), N0, rfl⟩
def own_pin (q1 : Int64) (p2 p3 J : Int32) : Int32 := (((((((((own_term q1 p2 (J / (((p2 * p3) + (7 : Int32)) / (8 : Int32))) (J % (((p2 * p3) + (7 : Int32)) / (8 : Int32))) ((8 : Int32) / p3) p3 (0 : Int32)) ||| (own_term q1 p2 (J / (((p2 * p3) + (7 : Int32)) / (8 : Int32))) (J % (((p2 * p3) + (7 : Int32)) / (8 : Int32))) ((8 : Int32) / p3) p3 (1 : Int32))) ||| (own_term q1 p2 (J / (((p2 * p3) + (7 : Int32)) / (8 : Int32))) (J % (((p2 * p3) + (7 : Int32)) / (8 : Int32))) ((8 : Int32) / p3) p3 (2 : Int32))) ||| (own_term q1 p2 (J / (((p2 * p3) + (7 : Int32)) / (8 : Int32))) (J % (((p2 * p3) + (7 : Int32)) / (8 : Int32))) ((8 : Int32) / p3) p3 (3 : Int32))) ||| (own_term q1 p2 (J / (((p2 * p3) + (7 : Int32)) / (8 : Int32))) (J % (((p2 * p3) + (7 : Int32)) / (8 : Int32))) ((8 : Int32) / p3) p3 (4 : Int32))) ||| (own_term q1 p2 (J / (((p2 * p3) + (7 : Int32)) / (8 : Int32))) (J % (((p2 * p3) + (7 : Int32)) / (8 : Int32))) ((8 : Int32) / p3) p3 (5 : Int32))) ||| (own_term q1 p2 (J / (((p2 * p3) + (7 : Int32)) / (8 : Int32))) (J % (((p2 * p3) + (7 : Int32)) / (8 : Int32))) ((8 : Int32) / p3) p3 (6 : Int32))) ||| (own_term q1 p2 (J / (((p2 * p3) + (7 : Int32)) / (8 : Int32))) (J % (((p2 * p3) + (7 : Int32)) / (8 : Int32))) ((8 : Int32) / p3) p3 (7 : Int32))).toInt8.toInt32)
def own_L (q : Int64) (B : Int32) : List Int32 := [(((own_idx q B (0 : Int32)).toInt8.toInt32).toInt8.toInt32), (((own_idx q B (1 : Int32)).toInt8.toInt32).toInt8.toInt32), (((own_idx q B (2 : Int32)).toInt8.toInt32).toInt8.toInt32), (((own_idx q B (3 : Int32)).toInt8.toInt32).toInt8.toInt32), (((own_idx q B (4 : Int32)).toInt8.toInt32).toInt8.toInt32), (((own_idx q B (5 : Int32)).toInt8.toInt32).toInt8.toInt32), (((own_idx q B (6 : Int32)).toInt8.toInt32).toInt8.toInt32), (((own_idx q B (7 : Int32)).toInt8.toInt32).toInt8.toInt32), (((own_idx q B (8 : Int32)).toInt8.toInt32).toInt8.toInt32), (((own_idx q B (9 : Int32)).toInt8.toInt32).toInt8.toInt32), (((own_idx q B (10 : Int32)).toInt8.toInt32).toInt8.toInt32), (((own_idx q B (11 : Int32)).toInt8.toInt32).toInt8.toInt32), (((own_idx q B (12 : Int32)).toInt8.toInt32).toInt8.toInt32), (((own_idx q B (13 : Int32)).toInt8.toInt32).toInt8.toInt32), (((own_idx q B (14 : Int32)).toInt8.toInt32).toInt8.toInt32), (((own_idx q B (15 : Int32)).toInt8.toInt32).toInt8.toInt32)]
theorem own_pd3 : parseMethodDescriptor "(JIIIIII)B" = some ⟨[.long, .int, .int, .int, .int, .int, .int], some .byte⟩ := by decide +kernel
theorem d4_0 : decode method_4_code 0 = .ok (.aload_n 0, 1) := by decide +kernel
theorem d4_1 : decode method_4_code 1 = .ok (.iload_n 1, 1) := by decide +kernel
theorem d4_2 : decode method_4_code 2 = .ok (.baload, 1) := by decide +kernel
theorem d4_3 : decode method_4_code 3 = .ok (.lload_n 2, 1) := by decide +kernel
theorem d4_4 : decode method_4_code 4 = .ok (.iload 4, 2) := by decide +kernel
theorem d4_6 : decode method_4_code 6 = .ok (.iload 5, 2) := by decide +kernel
theorem d4_8 : decode method_4_code 8 = .ok (.iload 6, 2) := by decide +kernel
theorem d4_10 : decode method_4_code 10 = .ok (.iload 7, 2) := by decide +kernel
theorem d4_12 : decode method_4_code 12 = .ok (.iload 8, 2) := by decide +kernel
theorem d4_14 : decode method_4_code 14 = .ok (.iload_n 1, 1) := by decide +kernel
theorem d4_15 : decode method_4_code 15 = .ok (.invokestatic 29, 3) := by decide +kernel
theorem d4_18 : decode method_4_code 18 = .ok (.if_icmp .ne 7, 3) := by decide +kernel
theorem d4_21 : decode method_4_code 21 = .ok (.iconst 1, 1) := by decide +kernel
theorem d4_22 : decode method_4_code 22 = .ok (.goto 4, 3) := by decide +kernel
theorem d4_26 : decode method_4_code 26 = .ok (.ireturn, 1) := by decide +kernel
theorem ef_4 (m : MethodId) (x0 : Addr) (x1 : Int32) (x2 : Int64) (x3 : Int32) (x4 : Int32) (x5 : Int32) (x6 : Int32) (x7 : Int32) : entryFrame m #[(.ref x0), (.int x1), (.long x2), (.int x3), (.int x4), (.int x5), (.int x6), (.int x7)] 9 = mkF m 0 #[.val (.ref x0), .val (.int x1), .val (.long x2), .second, .val (.int x3), .val (.int x4), .val (.int x5), .val (.int x6), .val (.int x7)] [] := by first | (simp [entryFrame, mkF, argsToLocals, Value.category]; done) | rfl
def Q4 (Z : State) (a1 : Addr) (p1 : Int32) (q1 : Int64) (p4 : Int32) (p5 : Int32) (p6 : Int32) (p7 : Int32) (p8 : Int32) (vs : List Value) (K : Nat) (h0 : Heap) (n0 : Nat) (v : Option Value) (h : Heap) (L : List Loc) : Prop := v = some (.int (1 : Int32)) ∧ Fr n0 L ∧ h = h0
set_option maxHeartbeats 40000000 in
theorem rm4 (l : Launch) (Z : State) (a0 : Array Value) (hw : ∀ d ∈ tables_1, d.before a0 Z = true) (ws : List Jvm.Cond) (a1 : Addr) (p1 : Int32) (q1 : Int64) (p4 : Int32) (p5 : Int32) (p6 : Int32) (p7 : Int32) (p8 : Int32) (vs : List Value) (K : Nat) (h0 : Heap) (n0 : Nat) (Z0 : n0 ≤ h0.size) (F0 : own_A Z h0 a1 .byte vs) (hkk : p1.toInt = (K : Int)) (hb0 : p5 ≠ 0) (hnz : (¬ (p1 < p6) → p1 < p7 → (((p4 * p5) + (7 : Int32)) / (8 : Int32)) ≠ 0)) (he : vs[K]? = some (.int (own_eb q1 p4 p5 p6 p7 p8 p1))) :
    MetFree l (⟨"com/example/relayframe/relayframe/PalettePackPinLaw", "same", "([BIJIIIII)Z"⟩ : MethodName) (head1 (Jvm.Cond.code (⟨"com/example/relayframe/relayframe/PalettePackPinLaw", "same", "([BIJIIIII)Z"⟩ : MethodName) method_4_code 9 (some .boolean) :: ws) ({ frames := 3, cells := 0, slots := 0, locals := 62 } : Room)) (fun a U => a = #[(.ref a1), (.int p1), (.long q1), (.int p4), (.int p5), (.int p6), (.int p7), (.int p8)] ∧ Z.Warmed39 U.vm ∧ U.heap = h0) (fun _ _ _ _ _ => True) (fun _ U o U' => ∃ v L, o = .returned v ∧ Q4 Z a1 p1 q1 p4 p5 p6 p7 p8 vs K h0 n0 v U'.heap L ∧ FrameEnd U o U' L ({ frames := 3, cells := 0, slots := 0, locals := 62 } : Room).cells ({ frames := 3, cells := 0, slots := 0, locals := 62 } : Room).slots) := by
  refine MetFree.of_bodySF (plainFor_of_name own_pn1) hisR ?_
  intro p e s m args below meth c s₁ Bd hml0 hP hK
  obtain ⟨rfl, hZ, hh⟩ := hP
  have hx := Bd.exec
  have hby := Bd.bytes
  have hml : c.maxLocals = 9 := hml0
  have hlk : meth.locks = false := BodyLoose.notSynchronized Bd
  have hown : s.vm.findClass "com/example/relayframe/relayframe/PalettePackPinLaw" = some m.cls := findClass_of_methodNamed Bd.named
  have hnm := (name_of_methodNamed Bd.named Bd.method).1
  have X0 : Stand p l e ({ frames := 3, cells := 0, slots := 0, locals := 62 } : Room) s m #[(.ref a1), (.int p1), (.long q1), (.int p4), (.int p5), (.int p6), (.int p7), (.int p8)] below meth c s₁ [] 0 0 := Stand.of_body Bd
  have e0 : s₁.heap = h0 := by rw [← hh, Bd.state]; rfl
  have N0 := Fr.nil n0
  show own_Go p e below s (Q4 Z a1 p1 q1 p4 p5 p6 p7 p8 vs K h0 n0) ({ frames := 3, cells := 0, slots := 0, locals := 62 } : Room).cells ({ frames := 3, cells := 0, slots := 0, locals := 62 } : Room).slots _
  refine own_st (B := s₁.setTop (mkF m 0 #[(rV a1), (iV p1), (jV q1), sV, (iV p4), (iV p5), (iV p6), (iV p7), (iV p8)] [])) (fun t k => castTop (ef_4 m (a1) (p1) (q1) (p4) (p5) (p6) (p7) (p8)) k) ?_
  refine own_st (B := s₁.setTop (mkF m 1 #[(rV a1), (iV p1), (jV q1), sV, (iV p4), (iV p5), (iV p6), (iV p7), (iV p8)] [(.ref a1)])) (fun t k => XS.aloadN X0.here hx rfl (hb hby d4_0) rfl rfl k) ?_
  refine own_st (B := s₁.setTop (mkF m 2 #[(rV a1), (iV p1), (jV q1), sV, (iV p4), (iV p5), (iV p6), (iV p7), (iV p8)] [(.int p1), (.ref a1)])) (fun t k => XS.iloadN X0.here hx rfl (hb hby d4_1) rfl k) ?_
  refine own_st (B := s₁.setTop (mkF m 3 #[(rV a1), (iV p1), (jV q1), sV, (iV p4), (iV p5), (iV p6), (iV p7), (iV p8)] [(.int (own_eb q1 p4 p5 p6 p7 p8 p1))])) (fun t k => own_ldB X0 hx hZ e0 F0 (g := (mkF m 2 #[(rV a1), (iV p1), (jV q1), sV, (iV p4), (iV p5), (iV p6), (iV p7), (iV p8)] [(.int p1), (.ref a1)])) (i := K) hkk he rfl rfl (hb hby d4_2) k) ?_
  refine own_st (B := s₁.setTop (mkF m 4 #[(rV a1), (iV p1), (jV q1), sV, (iV p4), (iV p5), (iV p6), (iV p7), (iV p8)] [(.long q1), (.int (own_eb q1 p4 p5 p6 p7 p8 p1))])) (fun t k => XS.lloadN X0.here hx rfl (hb hby d4_3) rfl k) ?_
  refine own_st (B := s₁.setTop (mkF m 6 #[(rV a1), (iV p1), (jV q1), sV, (iV p4), (iV p5), (iV p6), (iV p7), (iV p8)] [(.int p4), (.long q1), (.int (own_eb q1 p4 p5 p6 p7 p8 p1))])) (fun t k => XS.iload X0.here hx rfl (hb hby d4_4) rfl k) ?_
  refine own_st (B := s₁.setTop (mkF m 8 #[(rV a1), (iV p1), (jV q1), sV, (iV p4), (iV p5), (iV p6), (iV p7), (iV p8)] [(.int p5), (.int p4), (.long q1), (.int (own_eb q1 p4 p5 p6 p7 p8 p1))])) (fun t k => XS.iload X0.here hx rfl (hb hby d4_6) rfl k) ?_
  refine own_st (B := s₁.setTop (mkF m 10 #[(rV a1), (iV p1), (jV q1), sV, (iV p4), (iV p5), (iV p6), (iV p7), (iV p8)] [(.int p6), (.int p5), (.int p4), (.long q1), (.int (own_eb q1 p4 p5 p6 p7 p8 p1))])) (fun t k => XS.iload X0.here hx rfl (hb hby d4_8) rfl k) ?_
  refine own_st (B := s₁.setTop (mkF m 12 #[(rV a1), (iV p1), (jV q1), sV, (iV p4), (iV p5), (iV p6), (iV p7), (iV p8)] [(.int p7), (.int p6), (.int p5), (.int p4), (.long q1), (.int (own_eb q1 p4 p5 p6 p7 p8 p1))])) (fun t k => XS.iload X0.here hx rfl (hb hby d4_10) rfl k) ?_
  refine own_st (B := s₁.setTop (mkF m 14 #[(rV a1), (iV p1), (jV q1), sV, (iV p4), (iV p5), (iV p6), (iV p7), (iV p8)] [(.int p8), (.int p7), (.int p6), (.int p5), (.int p4), (.long q1), (.int (own_eb q1 p4 p5 p6 p7 p8 p1))])) (fun t k => XS.iload X0.here hx rfl (hb hby d4_12) rfl k) ?_
  refine own_st (B := s₁.setTop (mkF m 15 #[(rV a1), (iV p1), (jV q1), sV, (iV p4), (iV p5), (iV p6), (iV p7), (iV p8)] [(.int p1), (.int p8), (.int p7), (.int p6), (.int p5), (.int p4), (.long q1), (.int (own_eb q1 p4 p5 p6 p7 p8 p1))])) (fun t k => XS.iloadN X0.here hx rfl (hb hby d4_14) rfl k) ?_
  obtain ⟨_, _, ⟨T1, L1, k1, j1⟩, -, X1, ⟨Lc1, hQ1, l1, y1_, z1_⟩, st1⟩ := Jvm.LawKit.callS X0 hx (y := (⟨"com/example/relayframe/relayframe/PalettePackPinLaw", "expectedByte", "(JIIIIII)B"⟩ : MethodName)) hown (mvT hZ (w_16 hw)) (mvT hZ (w_17 hw)) (mvT hZ (w_7 hw)) (mvT hZ (w_18 hw)) (by decide) (backOf (W := 1) (rm5 l Z a0 hw [] q1 p4 p5 p6 p7 p8 p1 h0 n0 Z0 hb0 hnz) hZ (w_18 hw) (w_7 hw) (by decide) (by decide)) (g := (mkF m 15 #[(rV a1), (iV p1), (jV q1), sV, (iV p4), (iV p5), (iV p6), (iV p7), (iV p8)] [(.int p1), (.int p8), (.int p7), (.int p6), (.int p5), (.int p4), (.long q1), (.int (own_eb q1 p4 p5 p6 p7 p8 p1))])) rfl (by rw [hml]; rfl) (argsL := [(.long q1), (.int p4), (.int p5), (.int p6), (.int p7), (.int p8), (.int p1)]) (rest := [(.int (own_eb q1 p4 p5 p6 p7 p8 p1))]) (lenOf own_pd3 rfl) rfl (by show 2 * 0 + _ ≤ _; exact Nat.le_of_eq rfl) (hb hby d4_15) (fun _ _ => ⟨rfl, e0, (by decide : 0 + 0 ≤ _), (by decide : 0 + 0 ≤ _)⟩)
  dsimp only [Pt.U, Pt.locs, Pt.cells, Pt.slots] at X1 l1 y1_ z1_ st1 hQ1
  obtain rfl : k1 = 0 := y1_
  obtain rfl : j1 = 0 := z1_
  obtain ⟨rfl, N1q, e1q⟩ := hQ1
  have N1 : Fr n0 L1 := by rw [l1]; exact Fr.app N0 N1q
  refine own_st (B := T1.setTop (mkF m 18 #[(rV a1), (iV p1), (jV q1), sV, (iV p4), (iV p5), (iV p6), (iV p7), (iV p8)] [(.int (own_eb q1 p4 p5 p6 p7 p8 p1)), (.int (own_eb q1 p4 p5 p6 p7 p8 p1))])) (fun t k => st1 t k) ?_
  refine own_st (B := T1.setTop (mkF m 21 #[(rV a1), (iV p1), (jV q1), sV, (iV p4), (iV p5), (iV p6), (iV p7), (iV p8)] [])) (fun t k => XS.icmpNo X1.here hx rfl (hb hby d4_18) rfl (XT.ii_ne_f rfl) k) ?_
  refine own_st (B := T1.setTop (mkF m 22 #[(rV a1), (iV p1), (jV q1), sV, (iV p4), (iV p5), (iV p6), (iV p7), (iV p8)] [(.int (1 : Int32))])) (fun t k => XS.iconst X1.here hx rfl (hb hby d4_21) k) ?_
  refine own_st (B := T1.setTop (mkF m 26 #[(rV a1), (iV p1), (jV q1), sV, (iV p4), (iV p5), (iV p6), (iV p7), (iV p8)] [(.int (1 : Int32))])) (fun t k => XS.goto X1.here hx rfl (pc0 := 22) (pc' := 26) rfl (hb hby d4_22) (by decide) (by decide) k) ?_
  refine own_retN X1 hx hlk (t := .boolean) Bd.returns (by simp) (z' := (1 : Int32)) rfl (hb hby d4_26) (by decide) (by decide) ?_
  show Q4 Z a1 p1 q1 p4 p5 p6 p7 p8 vs K h0 n0 _ T1.heap _
  rw [e1q]
  exact ⟨rfl, N1, rfl⟩
theorem own_ib1 (q : Int64) (i : Int32) : (((own_idx q (1 : Int32) i).toInt8.toInt32).toInt8.toInt32) = own_idx q (1 : Int32) i := by
  have h := own_sml (own_idx_r q i (B := (1 : Int32)) (by decide))
  rw [h, h]
theorem own_c1_1_0_0 (q : Int64) : own_pin q (1 : Int32) (1 : Int32) (0 : Int32) = ((((((((((own_idx q (1 : Int32) (0 : Int32)) <<< ((7 : Int32) &&& 31)) ||| (0 : Int32)) ||| (0 : Int32)) ||| (0 : Int32)) ||| (0 : Int32)) ||| (0 : Int32)) ||| (0 : Int32)) ||| (0 : Int32)).toInt8.toInt32) := by
  have t0 : own_term q (1 : Int32) (0 : Int32) (0 : Int32) (8 : Int32) (1 : Int32) (0 : Int32) = ((own_idx q (1 : Int32) (0 : Int32)) <<< ((7 : Int32) &&& 31)) := by
    rw [own_tm1 (by decide) (by decide), show (((0 : Int32) * (1 : Int32)) + (((0 : Int32) * (8 : Int32)) + (0 : Int32))) = (0 : Int32) from by decide, show ((8 : Int32) - ((1 : Int32) * ((0 : Int32) + (1 : Int32)))) = (7 : Int32) from by decide]
  have t1 : own_term q (1 : Int32) (0 : Int32) (0 : Int32) (8 : Int32) (1 : Int32) (1 : Int32) = (0 : Int32) := own_tm2 (by decide) (by decide)
  have t2 : own_term q (1 : Int32) (0 : Int32) (0 : Int32) (8 : Int32) (1 : Int32) (2 : Int32) = (0 : Int32) := own_tm2 (by decide) (by decide)
  have t3 : own_term q (1 : Int32) (0 : Int32) (0 : Int32) (8 : Int32) (1 : Int32) (3 : Int32) = (0 : Int32) := own_tm2 (by decide) (by decide)
  have t4 : own_term q (1 : Int32) (0 : Int32) (0 : Int32) (8 : Int32) (1 : Int32) (4 : Int32) = (0 : Int32) := own_tm2 (by decide) (by decide)
  have t5 : own_term q (1 : Int32) (0 : Int32) (0 : Int32) (8 : Int32) (1 : Int32) (5 : Int32) = (0 : Int32) := own_tm2 (by decide) (by decide)
  have t6 : own_term q (1 : Int32) (0 : Int32) (0 : Int32) (8 : Int32) (1 : Int32) (6 : Int32) = (0 : Int32) := own_tm2 (by decide) (by decide)
  have t7 : own_term q (1 : Int32) (0 : Int32) (0 : Int32) (8 : Int32) (1 : Int32) (7 : Int32) = (0 : Int32) := own_tm2 (by decide) (by decide)
  unfold own_pin
  rw [show ((0 : Int32) / ((((1 : Int32) * (1 : Int32)) + (7 : Int32)) / (8 : Int32))) = (0 : Int32) from by decide, show ((0 : Int32) % ((((1 : Int32) * (1 : Int32)) + (7 : Int32)) / (8 : Int32))) = (0 : Int32) from by decide, show ((8 : Int32) / (1 : Int32)) = (8 : Int32) from by decide, t0, t1, t2, t3, t4, t5, t6, t7]
theorem own_c1_1_1_0 (q : Int64) : own_pin q (1 : Int32) (1 : Int32) (1 : Int32) = ((((((((((own_idx q (1 : Int32) (1 : Int32)) <<< ((7 : Int32) &&& 31)) ||| (0 : Int32)) ||| (0 : Int32)) ||| (0 : Int32)) ||| (0 : Int32)) ||| (0 : Int32)) ||| (0 : Int32)) ||| (0 : Int32)).toInt8.toInt32) := by
  have t0 : own_term q (1 : Int32) (1 : Int32) (0 : Int32) (8 : Int32) (1 : Int32) (0 : Int32) = ((own_idx q (1 : Int32) (1 : Int32)) <<< ((7 : Int32) &&& 31)) := by
    rw [own_tm1 (by decide) (by decide), show (((1 : Int32) * (1 : Int32)) + (((0 : Int32) * (8 : Int32)) + (0 : Int32))) = (1 : Int32) from by decide, show ((8 : Int32) - ((1 : Int32) * ((0 : Int32) + (1 : Int32)))) = (7 : Int32) from by decide]
  have t1 : own_term q (1 : Int32) (1 : Int32) (0 : Int32) (8 : Int32) (1 : Int32) (1 : Int32) = (0 : Int32) := own_tm2 (by decide) (by decide)
  have t2 : own_term q (1 : Int32) (1 : Int32) (0 : Int32) (8 : Int32) (1 : Int32) (2 : Int32) = (0 : Int32) := own_tm2 (by decide) (by decide)
  have t3 : own_term q (1 : Int32) (1 : Int32) (0 : Int32) (8 : Int32) (1 : Int32) (3 : Int32) = (0 : Int32) := own_tm2 (by decide) (by decide)
  have t4 : own_term q (1 : Int32) (1 : Int32) (0 : Int32) (8 : Int32) (1 : Int32) (4 : Int32) = (0 : Int32) := own_tm2 (by decide) (by decide)
  have t5 : own_term q (1 : Int32) (1 : Int32) (0 : Int32) (8 : Int32) (1 : Int32) (5 : Int32) = (0 : Int32) := own_tm2 (by decide) (by decide)
  have t6 : own_term q (1 : Int32) (1 : Int32) (0 : Int32) (8 : Int32) (1 : Int32) (6 : Int32) = (0 : Int32) := own_tm2 (by decide) (by decide)
  have t7 : own_term q (1 : Int32) (1 : Int32) (0 : Int32) (8 : Int32) (1 : Int32) (7 : Int32) = (0 : Int32) := own_tm2 (by decide) (by decide)
  unfold own_pin
  rw [show ((1 : Int32) / ((((1 : Int32) * (1 : Int32)) + (7 : Int32)) / (8 : Int32))) = (1 : Int32) from by decide, show ((1 : Int32) % ((((1 : Int32) * (1 : Int32)) + (7 : Int32)) / (8 : Int32))) = (0 : Int32) from by decide, show ((8 : Int32) / (1 : Int32)) = (8 : Int32) from by decide, t0, t1, t2, t3, t4, t5, t6, t7]
theorem own_c1_2_0_0 (q : Int64) : own_pin q (2 : Int32) (1 : Int32) (0 : Int32) = ((((((((((own_idx q (1 : Int32) (0 : Int32)) <<< ((7 : Int32) &&& 31)) ||| ((own_idx q (1 : Int32) (1 : Int32)) <<< ((6 : Int32) &&& 31))) ||| (0 : Int32)) ||| (0 : Int32)) ||| (0 : Int32)) ||| (0 : Int32)) ||| (0 : Int32)) ||| (0 : Int32)).toInt8.toInt32) := by
  have t0 : own_term q (2 : Int32) (0 : Int32) (0 : Int32) (8 : Int32) (1 : Int32) (0 : Int32) = ((own_idx q (1 : Int32) (0 : Int32)) <<< ((7 : Int32) &&& 31)) := by
    rw [own_tm1 (by decide) (by decide), show (((0 : Int32) * (2 : Int32)) + (((0 : Int32) * (8 : Int32)) + (0 : Int32))) = (0 : Int32) from by decide, show ((8 : Int32) - ((1 : Int32) * ((0 : Int32) + (1 : Int32)))) = (7 : Int32) from by decide]
  have t1 : own_term q (2 : Int32) (0 : Int32) (0 : Int32) (8 : Int32) (1 : Int32) (1 : Int32) = ((own_idx q (1 : Int32) (1 : Int32)) <<< ((6 : Int32) &&& 31)) := by
    rw [own_tm1 (by decide) (by decide), show (((0 : Int32) * (2 : Int32)) + (((0 : Int32) * (8 : Int32)) + (1 : Int32))) = (1 : Int32) from by decide, show ((8 : Int32) - ((1 : Int32) * ((1 : Int32) + (1 : Int32)))) = (6 : Int32) from by decide]
  have t2 : own_term q (2 : Int32) (0 : Int32) (0 : Int32) (8 : Int32) (1 : Int32) (2 : Int32) = (0 : Int32) := own_tm2 (by decide) (by decide)
  have t3 : own_term q (2 : Int32) (0 : Int32) (0 : Int32) (8 : Int32) (1 : Int32) (3 : Int32) = (0 : Int32) := own_tm2 (by decide) (by decide)
  have t4 : own_term q (2 : Int32) (0 : Int32) (0 : Int32) (8 : Int32) (1 : Int32) (4 : Int32) = (0 : Int32) := own_tm2 (by decide) (by decide)
  have t5 : own_term q (2 : Int32) (0 : Int32) (0 : Int32) (8 : Int32) (1 : Int32) (5 : Int32) = (0 : Int32) := own_tm2 (by decide) (by decide)
  have t6 : own_term q (2 : Int32) (0 : Int32) (0 : Int32) (8 : Int32) (1 : Int32) (6 : Int32) = (0 : Int32) := own_tm2 (by decide) (by decide)
  have t7 : own_term q (2 : Int32) (0 : Int32) (0 : Int32) (8 : Int32) (1 : Int32) (7 : Int32) = (0 : Int32) := own_tm2 (by decide) (by decide)
  unfold own_pin
  rw [show ((0 : Int32) / ((((2 : Int32) * (1 : Int32)) + (7 : Int32)) / (8 : Int32))) = (0 : Int32) from by decide, show ((0 : Int32) % ((((2 : Int32) * (1 : Int32)) + (7 : Int32)) / (8 : Int32))) = (0 : Int32) from by decide, show ((8 : Int32) / (1 : Int32)) = (8 : Int32) from by decide, t0, t1, t2, t3, t4, t5, t6, t7]
theorem own_c1_2_1_0 (q : Int64) : own_pin q (2 : Int32) (1 : Int32) (1 : Int32) = ((((((((((own_idx q (1 : Int32) (2 : Int32)) <<< ((7 : Int32) &&& 31)) ||| ((own_idx q (1 : Int32) (3 : Int32)) <<< ((6 : Int32) &&& 31))) ||| (0 : Int32)) ||| (0 : Int32)) ||| (0 : Int32)) ||| (0 : Int32)) ||| (0 : Int32)) ||| (0 : Int32)).toInt8.toInt32) := by
  have t0 : own_term q (2 : Int32) (1 : Int32) (0 : Int32) (8 : Int32) (1 : Int32) (0 : Int32) = ((own_idx q (1 : Int32) (2 : Int32)) <<< ((7 : Int32) &&& 31)) := by
    rw [own_tm1 (by decide) (by decide), show (((1 : Int32) * (2 : Int32)) + (((0 : Int32) * (8 : Int32)) + (0 : Int32))) = (2 : Int32) from by decide, show ((8 : Int32) - ((1 : Int32) * ((0 : Int32) + (1 : Int32)))) = (7 : Int32) from by decide]
  have t1 : own_term q (2 : Int32) (1 : Int32) (0 : Int32) (8 : Int32) (1 : Int32) (1 : Int32) = ((own_idx q (1 : Int32) (3 : Int32)) <<< ((6 : Int32) &&& 31)) := by
    rw [own_tm1 (by decide) (by decide), show (((1 : Int32) * (2 : Int32)) + (((0 : Int32) * (8 : Int32)) + (1 : Int32))) = (3 : Int32) from by decide, show ((8 : Int32) - ((1 : Int32) * ((1 : Int32) + (1 : Int32)))) = (6 : Int32) from by decide]
  have t2 : own_term q (2 : Int32) (1 : Int32) (0 : Int32) (8 : Int32) (1 : Int32) (2 : Int32) = (0 : Int32) := own_tm2 (by decide) (by decide)
  have t3 : own_term q (2 : Int32) (1 : Int32) (0 : Int32) (8 : Int32) (1 : Int32) (3 : Int32) = (0 : Int32) := own_tm2 (by decide) (by decide)
  have t4 : own_term q (2 : Int32) (1 : Int32) (0 : Int32) (8 : Int32) (1 : Int32) (4 : Int32) = (0 : Int32) := own_tm2 (by decide) (by decide)
  have t5 : own_term q (2 : Int32) (1 : Int32) (0 : Int32) (8 : Int32) (1 : Int32) (5 : Int32) = (0 : Int32) := own_tm2 (by decide) (by decide)
  have t6 : own_term q (2 : Int32) (1 : Int32) (0 : Int32) (8 : Int32) (1 : Int32) (6 : Int32) = (0 : Int32) := own_tm2 (by decide) (by decide)
  have t7 : own_term q (2 : Int32) (1 : Int32) (0 : Int32) (8 : Int32) (1 : Int32) (7 : Int32) = (0 : Int32) := own_tm2 (by decide) (by decide)
  unfold own_pin
  rw [show ((1 : Int32) / ((((2 : Int32) * (1 : Int32)) + (7 : Int32)) / (8 : Int32))) = (1 : Int32) from by decide, show ((1 : Int32) % ((((2 : Int32) * (1 : Int32)) + (7 : Int32)) / (8 : Int32))) = (0 : Int32) from by decide, show ((8 : Int32) / (1 : Int32)) = (8 : Int32) from by decide, t0, t1, t2, t3, t4, t5, t6, t7]
theorem own_c1_3_0_0 (q : Int64) : own_pin q (3 : Int32) (1 : Int32) (0 : Int32) = ((((((((((own_idx q (1 : Int32) (0 : Int32)) <<< ((7 : Int32) &&& 31)) ||| ((own_idx q (1 : Int32) (1 : Int32)) <<< ((6 : Int32) &&& 31))) ||| ((own_idx q (1 : Int32) (2 : Int32)) <<< ((5 : Int32) &&& 31))) ||| (0 : Int32)) ||| (0 : Int32)) ||| (0 : Int32)) ||| (0 : Int32)) ||| (0 : Int32)).toInt8.toInt32) := by
  have t0 : own_term q (3 : Int32) (0 : Int32) (0 : Int32) (8 : Int32) (1 : Int32) (0 : Int32) = ((own_idx q (1 : Int32) (0 : Int32)) <<< ((7 : Int32) &&& 31)) := by
    rw [own_tm1 (by decide) (by decide), show (((0 : Int32) * (3 : Int32)) + (((0 : Int32) * (8 : Int32)) + (0 : Int32))) = (0 : Int32) from by decide, show ((8 : Int32) - ((1 : Int32) * ((0 : Int32) + (1 : Int32)))) = (7 : Int32) from by decide]
  have t1 : own_term q (3 : Int32) (0 : Int32) (0 : Int32) (8 : Int32) (1 : Int32) (1 : Int32) = ((own_idx q (1 : Int32) (1 : Int32)) <<< ((6 : Int32) &&& 31)) := by
    rw [own_tm1 (by decide) (by decide), show (((0 : Int32) * (3 : Int32)) + (((0 : Int32) * (8 : Int32)) + (1 : Int32))) = (1 : Int32) from by decide, show ((8 : Int32) - ((1 : Int32) * ((1 : Int32) + (1 : Int32)))) = (6 : Int32) from by decide]
  have t2 : own_term q (3 : Int32) (0 : Int32) (0 : Int32) (8 : Int32) (1 : Int32) (2 : Int32) = ((own_idx q (1 : Int32) (2 : Int32)) <<< ((5 : Int32) &&& 31)) := by
    rw [own_tm1 (by decide) (by decide), show (((0 : Int32) * (3 : Int32)) + (((0 : Int32) * (8 : Int32)) + (2 : Int32))) = (2 : Int32) from by decide, show ((8 : Int32) - ((1 : Int32) * ((2 : Int32) + (1 : Int32)))) = (5 : Int32) from by decide]
  have t3 : own_term q (3 : Int32) (0 : Int32) (0 : Int32) (8 : Int32) (1 : Int32) (3 : Int32) = (0 : Int32) := own_tm2 (by decide) (by decide)
  have t4 : own_term q (3 : Int32) (0 : Int32) (0 : Int32) (8 : Int32) (1 : Int32) (4 : Int32) = (0 : Int32) := own_tm2 (by decide) (by decide)
  have t5 : own_term q (3 : Int32) (0 : Int32) (0 : Int32) (8 : Int32) (1 : Int32) (5 : Int32) = (0 : Int32) := own_tm2 (by decide) (by decide)
  have t6 : own_term q (3 : Int32) (0 : Int32) (0 : Int32) (8 : Int32) (1 : Int32) (6 : Int32) = (0 : Int32) := own_tm2 (by decide) (by decide)
  have t7 : own_term q (3 : Int32) (0 : Int32) (0 : Int32) (8 : Int32) (1 : Int32) (7 : Int32) = (0 : Int32) := own_tm2 (by decide) (by decide)
  unfold own_pin
  rw [show ((0 : Int32) / ((((3 : Int32) * (1 : Int32)) + (7 : Int32)) / (8 : Int32))) = (0 : Int32) from by decide, show ((0 : Int32) % ((((3 : Int32) * (1 : Int32)) + (7 : Int32)) / (8 : Int32))) = (0 : Int32) from by decide, show ((8 : Int32) / (1 : Int32)) = (8 : Int32) from by decide, t0, t1, t2, t3, t4, t5, t6, t7]
theorem own_c1_3_1_0 (q : Int64) : own_pin q (3 : Int32) (1 : Int32) (1 : Int32) = ((((((((((own_idx q (1 : Int32) (3 : Int32)) <<< ((7 : Int32) &&& 31)) ||| ((own_idx q (1 : Int32) (4 : Int32)) <<< ((6 : Int32) &&& 31))) ||| ((own_idx q (1 : Int32) (5 : Int32)) <<< ((5 : Int32) &&& 31))) ||| (0 : Int32)) ||| (0 : Int32)) ||| (0 : Int32)) ||| (0 : Int32)) ||| (0 : Int32)).toInt8.toInt32) := by
  have t0 : own_term q (3 : Int32) (1 : Int32) (0 : Int32) (8 : Int32) (1 : Int32) (0 : Int32) = ((own_idx q (1 : Int32) (3 : Int32)) <<< ((7 : Int32) &&& 31)) := by
    rw [own_tm1 (by decide) (by decide), show (((1 : Int32) * (3 : Int32)) + (((0 : Int32) * (8 : Int32)) + (0 : Int32))) = (3 : Int32) from by decide, show ((8 : Int32) - ((1 : Int32) * ((0 : Int32) + (1 : Int32)))) = (7 : Int32) from by decide]
  have t1 : own_term q (3 : Int32) (1 : Int32) (0 : Int32) (8 : Int32) (1 : Int32) (1 : Int32) = ((own_idx q (1 : Int32) (4 : Int32)) <<< ((6 : Int32) &&& 31)) := by
    rw [own_tm1 (by decide) (by decide), show (((1 : Int32) * (3 : Int32)) + (((0 : Int32) * (8 : Int32)) + (1 : Int32))) = (4 : Int32) from by decide, show ((8 : Int32) - ((1 : Int32) * ((1 : Int32) + (1 : Int32)))) = (6 : Int32) from by decide]
  have t2 : own_term q (3 : Int32) (1 : Int32) (0 : Int32) (8 : Int32) (1 : Int32) (2 : Int32) = ((own_idx q (1 : Int32) (5 : Int32)) <<< ((5 : Int32) &&& 31)) := by
    rw [own_tm1 (by decide) (by decide), show (((1 : Int32) * (3 : Int32)) + (((0 : Int32) * (8 : Int32)) + (2 : Int32))) = (5 : Int32) from by decide, show ((8 : Int32) - ((1 : Int32) * ((2 : Int32) + (1 : Int32)))) = (5 : Int32) from by decide]
  have t3 : own_term q (3 : Int32) (1 : Int32) (0 : Int32) (8 : Int32) (1 : Int32) (3 : Int32) = (0 : Int32) := own_tm2 (by decide) (by decide)
  have t4 : own_term q (3 : Int32) (1 : Int32) (0 : Int32) (8 : Int32) (1 : Int32) (4 : Int32) = (0 : Int32) := own_tm2 (by decide) (by decide)
  have t5 : own_term q (3 : Int32) (1 : Int32) (0 : Int32) (8 : Int32) (1 : Int32) (5 : Int32) = (0 : Int32) := own_tm2 (by decide) (by decide)
  have t6 : own_term q (3 : Int32) (1 : Int32) (0 : Int32) (8 : Int32) (1 : Int32) (6 : Int32) = (0 : Int32) := own_tm2 (by decide) (by decide)
  have t7 : own_term q (3 : Int32) (1 : Int32) (0 : Int32) (8 : Int32) (1 : Int32) (7 : Int32) = (0 : Int32) := own_tm2 (by decide) (by decide)
  unfold own_pin
  rw [show ((1 : Int32) / ((((3 : Int32) * (1 : Int32)) + (7 : Int32)) / (8 : Int32))) = (1 : Int32) from by decide, show ((1 : Int32) % ((((3 : Int32) * (1 : Int32)) + (7 : Int32)) / (8 : Int32))) = (0 : Int32) from by decide, show ((8 : Int32) / (1 : Int32)) = (8 : Int32) from by decide, t0, t1, t2, t3, t4, t5, t6, t7]
theorem own_c1_4_0_0 (q : Int64) : own_pin q (4 : Int32) (1 : Int32) (0 : Int32) = ((((((((((own_idx q (1 : Int32) (0 : Int32)) <<< ((7 : Int32) &&& 31)) ||| ((own_idx q (1 : Int32) (1 : Int32)) <<< ((6 : Int32) &&& 31))) ||| ((own_idx q (1 : Int32) (2 : Int32)) <<< ((5 : Int32) &&& 31))) ||| ((own_idx q (1 : Int32) (3 : Int32)) <<< ((4 : Int32) &&& 31))) ||| (0 : Int32)) ||| (0 : Int32)) ||| (0 : Int32)) ||| (0 : Int32)).toInt8.toInt32) := by
  have t0 : own_term q (4 : Int32) (0 : Int32) (0 : Int32) (8 : Int32) (1 : Int32) (0 : Int32) = ((own_idx q (1 : Int32) (0 : Int32)) <<< ((7 : Int32) &&& 31)) := by
    rw [own_tm1 (by decide) (by decide), show (((0 : Int32) * (4 : Int32)) + (((0 : Int32) * (8 : Int32)) + (0 : Int32))) = (0 : Int32) from by decide, show ((8 : Int32) - ((1 : Int32) * ((0 : Int32) + (1 : Int32)))) = (7 : Int32) from by decide]
  have t1 : own_term q (4 : Int32) (0 : Int32) (0 : Int32) (8 : Int32) (1 : Int32) (1 : Int32) = ((own_idx q (1 : Int32) (1 : Int32)) <<< ((6 : Int32) &&& 31)) := by
    rw [own_tm1 (by decide) (by decide), show (((0 : Int32) * (4 : Int32)) + (((0 : Int32) * (8 : Int32)) + (1 : Int32))) = (1 : Int32) from by decide, show ((8 : Int32) - ((1 : Int32) * ((1 : Int32) + (1 : Int32)))) = (6 : Int32) from by decide]
  have t2 : own_term q (4 : Int32) (0 : Int32) (0 : Int32) (8 : Int32) (1 : Int32) (2 : Int32) = ((own_idx q (1 : Int32) (2 : Int32)) <<< ((5 : Int32) &&& 31)) := by
    rw [own_tm1 (by decide) (by decide), show (((0 : Int32) * (4 : Int32)) + (((0 : Int32) * (8 : Int32)) + (2 : Int32))) = (2 : Int32) from by decide, show ((8 : Int32) - ((1 : Int32) * ((2 : Int32) + (1 : Int32)))) = (5 : Int32) from by decide]
  have t3 : own_term q (4 : Int32) (0 : Int32) (0 : Int32) (8 : Int32) (1 : Int32) (3 : Int32) = ((own_idx q (1 : Int32) (3 : Int32)) <<< ((4 : Int32) &&& 31)) := by
    rw [own_tm1 (by decide) (by decide), show (((0 : Int32) * (4 : Int32)) + (((0 : Int32) * (8 : Int32)) + (3 : Int32))) = (3 : Int32) from by decide, show ((8 : Int32) - ((1 : Int32) * ((3 : Int32) + (1 : Int32)))) = (4 : Int32) from by decide]
  have t4 : own_term q (4 : Int32) (0 : Int32) (0 : Int32) (8 : Int32) (1 : Int32) (4 : Int32) = (0 : Int32) := own_tm2 (by decide) (by decide)
  have t5 : own_term q (4 : Int32) (0 : Int32) (0 : Int32) (8 : Int32) (1 : Int32) (5 : Int32) = (0 : Int32) := own_tm2 (by decide) (by decide)
  have t6 : own_term q (4 : Int32) (0 : Int32) (0 : Int32) (8 : Int32) (1 : Int32) (6 : Int32) = (0 : Int32) := own_tm2 (by decide) (by decide)
  have t7 : own_term q (4 : Int32) (0 : Int32) (0 : Int32) (8 : Int32) (1 : Int32) (7 : Int32) = (0 : Int32) := own_tm2 (by decide) (by decide)
  unfold own_pin
  rw [show ((0 : Int32) / ((((4 : Int32) * (1 : Int32)) + (7 : Int32)) / (8 : Int32))) = (0 : Int32) from by decide, show ((0 : Int32) % ((((4 : Int32) * (1 : Int32)) + (7 : Int32)) / (8 : Int32))) = (0 : Int32) from by decide, show ((8 : Int32) / (1 : Int32)) = (8 : Int32) from by decide, t0, t1, t2, t3, t4, t5, t6, t7]
theorem own_c1_4_1_0 (q : Int64) : own_pin q (4 : Int32) (1 : Int32) (1 : Int32) = ((((((((((own_idx q (1 : Int32) (4 : Int32)) <<< ((7 : Int32) &&& 31)) ||| ((own_idx q (1 : Int32) (5 : Int32)) <<< ((6 : Int32) &&& 31))) ||| ((own_idx q (1 : Int32) (6 : Int32)) <<< ((5 : Int32) &&& 31))) ||| ((own_idx q (1 : Int32) (7 : Int32)) <<< ((4 : Int32) &&& 31))) ||| (0 : Int32)) ||| (0 : Int32)) ||| (0 : Int32)) ||| (0 : Int32)).toInt8.toInt32) := by
  have t0 : own_term q (4 : Int32) (1 : Int32) (0 : Int32) (8 : Int32) (1 : Int32) (0 : Int32) = ((own_idx q (1 : Int32) (4 : Int32)) <<< ((7 : Int32) &&& 31)) := by
    rw [own_tm1 (by decide) (by decide), show (((1 : Int32) * (4 : Int32)) + (((0 : Int32) * (8 : Int32)) + (0 : Int32))) = (4 : Int32) from by decide, show ((8 : Int32) - ((1 : Int32) * ((0 : Int32) + (1 : Int32)))) = (7 : Int32) from by decide]
  have t1 : own_term q (4 : Int32) (1 : Int32) (0 : Int32) (8 : Int32) (1 : Int32) (1 : Int32) = ((own_idx q (1 : Int32) (5 : Int32)) <<< ((6 : Int32) &&& 31)) := by
    rw [own_tm1 (by decide) (by decide), show (((1 : Int32) * (4 : Int32)) + (((0 : Int32) * (8 : Int32)) + (1 : Int32))) = (5 : Int32) from by decide, show ((8 : Int32) - ((1 : Int32) * ((1 : Int32) + (1 : Int32)))) = (6 : Int32) from by decide]
  have t2 : own_term q (4 : Int32) (1 : Int32) (0 : Int32) (8 : Int32) (1 : Int32) (2 : Int32) = ((own_idx q (1 : Int32) (6 : Int32)) <<< ((5 : Int32) &&& 31)) := by
    rw [own_tm1 (by decide) (by decide), show (((1 : Int32) * (4 : Int32)) + (((0 : Int32) * (8 : Int32)) + (2 : Int32))) = (6 : Int32) from by decide, show ((8 : Int32) - ((1 : Int32) * ((2 : Int32) + (1 : Int32)))) = (5 : Int32) from by decide]
  have t3 : own_term q (4 : Int32) (1 : Int32) (0 : Int32) (8 : Int32) (1 : Int32) (3 : Int32) = ((own_idx q (1 : Int32) (7 : Int32)) <<< ((4 : Int32) &&& 31)) := by
    rw [own_tm1 (by decide) (by decide), show (((1 : Int32) * (4 : Int32)) + (((0 : Int32) * (8 : Int32)) + (3 : Int32))) = (7 : Int32) from by decide, show ((8 : Int32) - ((1 : Int32) * ((3 : Int32) + (1 : Int32)))) = (4 : Int32) from by decide]
  have t4 : own_term q (4 : Int32) (1 : Int32) (0 : Int32) (8 : Int32) (1 : Int32) (4 : Int32) = (0 : Int32) := own_tm2 (by decide) (by decide)
  have t5 : own_term q (4 : Int32) (1 : Int32) (0 : Int32) (8 : Int32) (1 : Int32) (5 : Int32) = (0 : Int32) := own_tm2 (by decide) (by decide)
  have t6 : own_term q (4 : Int32) (1 : Int32) (0 : Int32) (8 : Int32) (1 : Int32) (6 : Int32) = (0 : Int32) := own_tm2 (by decide) (by decide)
  have t7 : own_term q (4 : Int32) (1 : Int32) (0 : Int32) (8 : Int32) (1 : Int32) (7 : Int32) = (0 : Int32) := own_tm2 (by decide) (by decide)
  unfold own_pin
  rw [show ((1 : Int32) / ((((4 : Int32) * (1 : Int32)) + (7 : Int32)) / (8 : Int32))) = (1 : Int32) from by decide, show ((1 : Int32) % ((((4 : Int32) * (1 : Int32)) + (7 : Int32)) / (8 : Int32))) = (0 : Int32) from by decide, show ((8 : Int32) / (1 : Int32)) = (8 : Int32) from by decide, t0, t1, t2, t3, t4, t5, t6, t7]
theorem own_c1_5_0_0 (q : Int64) : own_pin q (5 : Int32) (1 : Int32) (0 : Int32) = ((((((((((own_idx q (1 : Int32) (0 : Int32)) <<< ((7 : Int32) &&& 31)) ||| ((own_idx q (1 : Int32) (1 : Int32)) <<< ((6 : Int32) &&& 31))) ||| ((own_idx q (1 : Int32) (2 : Int32)) <<< ((5 : Int32) &&& 31))) ||| ((own_idx q (1 : Int32) (3 : Int32)) <<< ((4 : Int32) &&& 31))) ||| ((own_idx q (1 : Int32) (4 : Int32)) <<< ((3 : Int32) &&& 31))) ||| (0 : Int32)) ||| (0 : Int32)) ||| (0 : Int32)).toInt8.toInt32) := by
  have t0 : own_term q (5 : Int32) (0 : Int32) (0 : Int32) (8 : Int32) (1 : Int32) (0 : Int32) = ((own_idx q (1 : Int32) (0 : Int32)) <<< ((7 : Int32) &&& 31)) := by
    rw [own_tm1 (by decide) (by decide), show (((0 : Int32) * (5 : Int32)) + (((0 : Int32) * (8 : Int32)) + (0 : Int32))) = (0 : Int32) from by decide, show ((8 : Int32) - ((1 : Int32) * ((0 : Int32) + (1 : Int32)))) = (7 : Int32) from by decide]
  have t1 : own_term q (5 : Int32) (0 : Int32) (0 : Int32) (8 : Int32) (1 : Int32) (1 : Int32) = ((own_idx q (1 : Int32) (1 : Int32)) <<< ((6 : Int32) &&& 31)) := by
    rw [own_tm1 (by decide) (by decide), show (((0 : Int32) * (5 : Int32)) + (((0 : Int32) * (8 : Int32)) + (1 : Int32))) = (1 : Int32) from by decide, show ((8 : Int32) - ((1 : Int32) * ((1 : Int32) + (1 : Int32)))) = (6 : Int32) from by decide]
  have t2 : own_term q (5 : Int32) (0 : Int32) (0 : Int32) (8 : Int32) (1 : Int32) (2 : Int32) = ((own_idx q (1 : Int32) (2 : Int32)) <<< ((5 : Int32) &&& 31)) := by
    rw [own_tm1 (by decide) (by decide), show (((0 : Int32) * (5 : Int32)) + (((0 : Int32) * (8 : Int32)) + (2 : Int32))) = (2 : Int32) from by decide, show ((8 : Int32) - ((1 : Int32) * ((2 : Int32) + (1 : Int32)))) = (5 : Int32) from by decide]
  have t3 : own_term q (5 : Int32) (0 : Int32) (0 : Int32) (8 : Int32) (1 : Int32) (3 : Int32) = ((own_idx q (1 : Int32) (3 : Int32)) <<< ((4 : Int32) &&& 31)) := by
    rw [own_tm1 (by decide) (by decide), show (((0 : Int32) * (5 : Int32)) + (((0 : Int32) * (8 : Int32)) + (3 : Int32))) = (3 : Int32) from by decide, show ((8 : Int32) - ((1 : Int32) * ((3 : Int32) + (1 : Int32)))) = (4 : Int32) from by decide]
  have t4 : own_term q (5 : Int32) (0 : Int32) (0 : Int32) (8 : Int32) (1 : Int32) (4 : Int32) = ((own_idx q (1 : Int32) (4 : Int32)) <<< ((3 : Int32) &&& 31)) := by
    rw [own_tm1 (by decide) (by decide), show (((0 : Int32) * (5 : Int32)) + (((0 : Int32) * (8 : Int32)) + (4 : Int32))) = (4 : Int32) from by decide, show ((8 : Int32) - ((1 : Int32) * ((4 : Int32) + (1 : Int32)))) = (3 : Int32) from by decide]
  have t5 : own_term q (5 : Int32) (0 : Int32) (0 : Int32) (8 : Int32) (1 : Int32) (5 : Int32) = (0 : Int32) := own_tm2 (by decide) (by decide)
  have t6 : own_term q (5 : Int32) (0 : Int32) (0 : Int32) (8 : Int32) (1 : Int32) (6 : Int32) = (0 : Int32) := own_tm2 (by decide) (by decide)
  have t7 : own_term q (5 : Int32) (0 : Int32) (0 : Int32) (8 : Int32) (1 : Int32) (7 : Int32) = (0 : Int32) := own_tm2 (by decide) (by decide)
  unfold own_pin
  rw [show ((0 : Int32) / ((((5 : Int32) * (1 : Int32)) + (7 : Int32)) / (8 : Int32))) = (0 : Int32) from by decide, show ((0 : Int32) % ((((5 : Int32) * (1 : Int32)) + (7 : Int32)) / (8 : Int32))) = (0 : Int32) from by decide, show ((8 : Int32) / (1 : Int32)) = (8 : Int32) from by decide, t0, t1, t2, t3, t4, t5, t6, t7]
theorem own_c1_5_1_0 (q : Int64) : own_pin q (5 : Int32) (1 : Int32) (1 : Int32) = ((((((((((own_idx q (1 : Int32) (5 : Int32)) <<< ((7 : Int32) &&& 31)) ||| ((own_idx q (1 : Int32) (6 : Int32)) <<< ((6 : Int32) &&& 31))) ||| ((own_idx q (1 : Int32) (7 : Int32)) <<< ((5 : Int32) &&& 31))) ||| ((own_idx q (1 : Int32) (8 : Int32)) <<< ((4 : Int32) &&& 31))) ||| ((own_idx q (1 : Int32) (9 : Int32)) <<< ((3 : Int32) &&& 31))) ||| (0 : Int32)) ||| (0 : Int32)) ||| (0 : Int32)).toInt8.toInt32) := by
  have t0 : own_term q (5 : Int32) (1 : Int32) (0 : Int32) (8 : Int32) (1 : Int32) (0 : Int32) = ((own_idx q (1 : Int32) (5 : Int32)) <<< ((7 : Int32) &&& 31)) := by
    rw [own_tm1 (by decide) (by decide), show (((1 : Int32) * (5 : Int32)) + (((0 : Int32) * (8 : Int32)) + (0 : Int32))) = (5 : Int32) from by decide, show ((8 : Int32) - ((1 : Int32) * ((0 : Int32) + (1 : Int32)))) = (7 : Int32) from by decide]
  have t1 : own_term q (5 : Int32) (1 : Int32) (0 : Int32) (8 : Int32) (1 : Int32) (1 : Int32) = ((own_idx q (1 : Int32) (6 : Int32)) <<< ((6 : Int32) &&& 31)) := by
    rw [own_tm1 (by decide) (by decide), show (((1 : Int32) * (5 : Int32)) + (((0 : Int32) * (8 : Int32)) + (1 : Int32))) = (6 : Int32) from by decide, show ((8 : Int32) - ((1 : Int32) * ((1 : Int32) + (1 : Int32)))) = (6 : Int32) from by decide]
  have t2 : own_term q (5 : Int32) (1 : Int32) (0 : Int32) (8 : Int32) (1 : Int32) (2 : Int32) = ((own_idx q (1 : Int32) (7 : Int32)) <<< ((5 : Int32) &&& 31)) := by
    rw [own_tm1 (by decide) (by decide), show (((1 : Int32) * (5 : Int32)) + (((0 : Int32) * (8 : Int32)) + (2 : Int32))) = (7 : Int32) from by decide, show ((8 : Int32) - ((1 : Int32) * ((2 : Int32) + (1 : Int32)))) = (5 : Int32) from by decide]
  have t3 : own_term q (5 : Int32) (1 : Int32) (0 : Int32) (8 : Int32) (1 : Int32) (3 : Int32) = ((own_idx q (1 : Int32) (8 : Int32)) <<< ((4 : Int32) &&& 31)) := by
    rw [own_tm1 (by decide) (by decide), show (((1 : Int32) * (5 : Int32)) + (((0 : Int32) * (8 : Int32)) + (3 : Int32))) = (8 : Int32) from by decide, show ((8 : Int32) - ((1 : Int32) * ((3 : Int32) + (1 : Int32)))) = (4 : Int32) from by decide]
  have t4 : own_term q (5 : Int32) (1 : Int32) (0 : Int32) (8 : Int32) (1 : Int32) (4 : Int32) = ((own_idx q (1 : Int32) (9 : Int32)) <<< ((3 : Int32) &&& 31)) := by
    rw [own_tm1 (by decide) (by decide), show (((1 : Int32) * (5 : Int32)) + (((0 : Int32) * (8 : Int32)) + (4 : Int32))) = (9 : Int32) from by decide, show ((8 : Int32) - ((1 : Int32) * ((4 : Int32) + (1 : Int32)))) = (3 : Int32) from by decide]
  have t5 : own_term q (5 : Int32) (1 : Int32) (0 : Int32) (8 : Int32) (1 : Int32) (5 : Int32) = (0 : Int32) := own_tm2 (by decide) (by decide)
  have t6 : own_term q (5 : Int32) (1 : Int32) (0 : Int32) (8 : Int32) (1 : Int32) (6 : Int32) = (0 : Int32) := own_tm2 (by decide) (by decide)
  have t7 : own_term q (5 : Int32) (1 : Int32) (0 : Int32) (8 : Int32) (1 : Int32) (7 : Int32) = (0 : Int32) := own_tm2 (by decide) (by decide)
  unfold own_pin
  rw [show ((1 : Int32) / ((((5 : Int32) * (1 : Int32)) + (7 : Int32)) / (8 : Int32))) = (1 : Int32) from by decide, show ((1 : Int32) % ((((5 : Int32) * (1 : Int32)) + (7 : Int32)) / (8 : Int32))) = (0 : Int32) from by decide, show ((8 : Int32) / (1 : Int32)) = (8 : Int32) from by decide, t0, t1, t2, t3, t4, t5, t6, t7]
theorem own_c1_6_0_0 (q : Int64) : own_pin q (6 : Int32) (1 : Int32) (0 : Int32) = ((((((((((own_idx q (1 : Int32) (0 : Int32)) <<< ((7 : Int32) &&& 31)) ||| ((own_idx q (1 : Int32) (1 : Int32)) <<< ((6 : Int32) &&& 31))) ||| ((own_idx q (1 : Int32) (2 : Int32)) <<< ((5 : Int32) &&& 31))) ||| ((own_idx q (1 : Int32) (3 : Int32)) <<< ((4 : Int32) &&& 31))) ||| ((own_idx q (1 : Int32) (4 : Int32)) <<< ((3 : Int32) &&& 31))) ||| ((own_idx q (1 : Int32) (5 : Int32)) <<< ((2 : Int32) &&& 31))) ||| (0 : Int32)) ||| (0 : Int32)).toInt8.toInt32) := by
  have t0 : own_term q (6 : Int32) (0 : Int32) (0 : Int32) (8 : Int32) (1 : Int32) (0 : Int32) = ((own_idx q (1 : Int32) (0 : Int32)) <<< ((7 : Int32) &&& 31)) := by
    rw [own_tm1 (by decide) (by decide), show (((0 : Int32) * (6 : Int32)) + (((0 : Int32) * (8 : Int32)) + (0 : Int32))) = (0 : Int32) from by decide, show ((8 : Int32) - ((1 : Int32) * ((0 : Int32) + (1 : Int32)))) = (7 : Int32) from by decide]
  have t1 : own_term q (6 : Int32) (0 : Int32) (0 : Int32) (8 : Int32) (1 : Int32) (1 : Int32) = ((own_idx q (1 : Int32) (1 : Int32)) <<< ((6 : Int32) &&& 31)) := by
    rw [own_tm1 (by decide) (by decide), show (((0 : Int32) * (6 : Int32)) + (((0 : Int32) * (8 : Int32)) + (1 : Int32))) = (1 : Int32) from by decide, show ((8 : Int32) - ((1 : Int32) * ((1 : Int32) + (1 : Int32)))) = (6 : Int32) from by decide]
  have t2 : own_term q (6 : Int32) (0 : Int32) (0 : Int32) (8 : Int32) (1 : Int32) (2 : Int32) = ((own_idx q (1 : Int32) (2 : Int32)) <<< ((5 : Int32) &&& 31)) := by
    rw [own_tm1 (by decide) (by decide), show (((0 : Int32) * (6 : Int32)) + (((0 : Int32) * (8 : Int32)) + (2 : Int32))) = (2 : Int32) from by decide, show ((8 : Int32) - ((1 : Int32) * ((2 : Int32) + (1 : Int32)))) = (5 : Int32) from by decide]
  have t3 : own_term q (6 : Int32) (0 : Int32) (0 : Int32) (8 : Int32) (1 : Int32) (3 : Int32) = ((own_idx q (1 : Int32) (3 : Int32)) <<< ((4 : Int32) &&& 31)) := by
    rw [own_tm1 (by decide) (by decide), show (((0 : Int32) * (6 : Int32)) + (((0 : Int32) * (8 : Int32)) + (3 : Int32))) = (3 : Int32) from by decide, show ((8 : Int32) - ((1 : Int32) * ((3 : Int32) + (1 : Int32)))) = (4 : Int32) from by decide]
  have t4 : own_term q (6 : Int32) (0 : Int32) (0 : Int32) (8 : Int32) (1 : Int32) (4 : Int32) = ((own_idx q (1 : Int32) (4 : Int32)) <<< ((3 : Int32) &&& 31)) := by
    rw [own_tm1 (by decide) (by decide), show (((0 : Int32) * (6 : Int32)) + (((0 : Int32) * (8 : Int32)) + (4 : Int32))) = (4 : Int32) from by decide, show ((8 : Int32) - ((1 : Int32) * ((4 : Int32) + (1 : Int32)))) = (3 : Int32) from by decide]
  have t5 : own_term q (6 : Int32) (0 : Int32) (0 : Int32) (8 : Int32) (1 : Int32) (5 : Int32) = ((own_idx q (1 : Int32) (5 : Int32)) <<< ((2 : Int32) &&& 31)) := by
    rw [own_tm1 (by decide) (by decide), show (((0 : Int32) * (6 : Int32)) + (((0 : Int32) * (8 : Int32)) + (5 : Int32))) = (5 : Int32) from by decide, show ((8 : Int32) - ((1 : Int32) * ((5 : Int32) + (1 : Int32)))) = (2 : Int32) from by decide]
  have t6 : own_term q (6 : Int32) (0 : Int32) (0 : Int32) (8 : Int32) (1 : Int32) (6 : Int32) = (0 : Int32) := own_tm2 (by decide) (by decide)
  have t7 : own_term q (6 : Int32) (0 : Int32) (0 : Int32) (8 : Int32) (1 : Int32) (7 : Int32) = (0 : Int32) := own_tm2 (by decide) (by decide)
  unfold own_pin
  rw [show ((0 : Int32) / ((((6 : Int32) * (1 : Int32)) + (7 : Int32)) / (8 : Int32))) = (0 : Int32) from by decide, show ((0 : Int32) % ((((6 : Int32) * (1 : Int32)) + (7 : Int32)) / (8 : Int32))) = (0 : Int32) from by decide, show ((8 : Int32) / (1 : Int32)) = (8 : Int32) from by decide, t0, t1, t2, t3, t4, t5, t6, t7]
theorem own_c1_6_1_0 (q : Int64) : own_pin q (6 : Int32) (1 : Int32) (1 : Int32) = ((((((((((own_idx q (1 : Int32) (6 : Int32)) <<< ((7 : Int32) &&& 31)) ||| ((own_idx q (1 : Int32) (7 : Int32)) <<< ((6 : Int32) &&& 31))) ||| ((own_idx q (1 : Int32) (8 : Int32)) <<< ((5 : Int32) &&& 31))) ||| ((own_idx q (1 : Int32) (9 : Int32)) <<< ((4 : Int32) &&& 31))) ||| ((own_idx q (1 : Int32) (10 : Int32)) <<< ((3 : Int32) &&& 31))) ||| ((own_idx q (1 : Int32) (11 : Int32)) <<< ((2 : Int32) &&& 31))) ||| (0 : Int32)) ||| (0 : Int32)).toInt8.toInt32) := by
  have t0 : own_term q (6 : Int32) (1 : Int32) (0 : Int32) (8 : Int32) (1 : Int32) (0 : Int32) = ((own_idx q (1 : Int32) (6 : Int32)) <<< ((7 : Int32) &&& 31)) := by
    rw [own_tm1 (by decide) (by decide), show (((1 : Int32) * (6 : Int32)) + (((0 : Int32) * (8 : Int32)) + (0 : Int32))) = (6 : Int32) from by decide, show ((8 : Int32) - ((1 : Int32) * ((0 : Int32) + (1 : Int32)))) = (7 : Int32) from by decide]
  have t1 : own_term q (6 : Int32) (1 : Int32) (0 : Int32) (8 : Int32) (1 : Int32) (1 : Int32) = ((own_idx q (1 : Int32) (7 : Int32)) <<< ((6 : Int32) &&& 31)) := by
    rw [own_tm1 (by decide) (by decide), show (((1 : Int32) * (6 : Int32)) + (((0 : Int32) * (8 : Int32)) + (1 : Int32))) = (7 : Int32) from by decide, show ((8 : Int32) - ((1 : Int32) * ((1 : Int32) + (1 : Int32)))) = (6 : Int32) from by decide]
  have t2 : own_term q (6 : Int32) (1 : Int32) (0 : Int32) (8 : Int32) (1 : Int32) (2 : Int32) = ((own_idx q (1 : Int32) (8 : Int32)) <<< ((5 : Int32) &&& 31)) := by
    rw [own_tm1 (by decide) (by decide), show (((1 : Int32) * (6 : Int32)) + (((0 : Int32) * (8 : Int32)) + (2 : Int32))) = (8 : Int32) from by decide, show ((8 : Int32) - ((1 : Int32) * ((2 : Int32) + (1 : Int32)))) = (5 : Int32) from by decide]
  have t3 : own_term q (6 : Int32) (1 : Int32) (0 : Int32) (8 : Int32) (1 : Int32) (3 : Int32) = ((own_idx q (1 : Int32) (9 : Int32)) <<< ((4 : Int32) &&& 31)) := by
    rw [own_tm1 (by decide) (by decide), show (((1 : Int32) * (6 : Int32)) + (((0 : Int32) * (8 : Int32)) + (3 : Int32))) = (9 : Int32) from by decide, show ((8 : Int32) - ((1 : Int32) * ((3 : Int32) + (1 : Int32)))) = (4 : Int32) from by decide]
  have t4 : own_term q (6 : Int32) (1 : Int32) (0 : Int32) (8 : Int32) (1 : Int32) (4 : Int32) = ((own_idx q (1 : Int32) (10 : Int32)) <<< ((3 : Int32) &&& 31)) := by
    rw [own_tm1 (by decide) (by decide), show (((1 : Int32) * (6 : Int32)) + (((0 : Int32) * (8 : Int32)) + (4 : Int32))) = (10 : Int32) from by decide, show ((8 : Int32) - ((1 : Int32) * ((4 : Int32) + (1 : Int32)))) = (3 : Int32) from by decide]
  have t5 : own_term q (6 : Int32) (1 : Int32) (0 : Int32) (8 : Int32) (1 : Int32) (5 : Int32) = ((own_idx q (1 : Int32) (11 : Int32)) <<< ((2 : Int32) &&& 31)) := by
    rw [own_tm1 (by decide) (by decide), show (((1 : Int32) * (6 : Int32)) + (((0 : Int32) * (8 : Int32)) + (5 : Int32))) = (11 : Int32) from by decide, show ((8 : Int32) - ((1 : Int32) * ((5 : Int32) + (1 : Int32)))) = (2 : Int32) from by decide]
  have t6 : own_term q (6 : Int32) (1 : Int32) (0 : Int32) (8 : Int32) (1 : Int32) (6 : Int32) = (0 : Int32) := own_tm2 (by decide) (by decide)
  have t7 : own_term q (6 : Int32) (1 : Int32) (0 : Int32) (8 : Int32) (1 : Int32) (7 : Int32) = (0 : Int32) := own_tm2 (by decide) (by decide)
  unfold own_pin
  rw [show ((1 : Int32) / ((((6 : Int32) * (1 : Int32)) + (7 : Int32)) / (8 : Int32))) = (1 : Int32) from by decide, show ((1 : Int32) % ((((6 : Int32) * (1 : Int32)) + (7 : Int32)) / (8 : Int32))) = (0 : Int32) from by decide, show ((8 : Int32) / (1 : Int32)) = (8 : Int32) from by decide, t0, t1, t2, t3, t4, t5, t6, t7]
theorem own_c1_7_0_0 (q : Int64) : own_pin q (7 : Int32) (1 : Int32) (0 : Int32) = ((((((((((own_idx q (1 : Int32) (0 : Int32)) <<< ((7 : Int32) &&& 31)) ||| ((own_idx q (1 : Int32) (1 : Int32)) <<< ((6 : Int32) &&& 31))) ||| ((own_idx q (1 : Int32) (2 : Int32)) <<< ((5 : Int32) &&& 31))) ||| ((own_idx q (1 : Int32) (3 : Int32)) <<< ((4 : Int32) &&& 31))) ||| ((own_idx q (1 : Int32) (4 : Int32)) <<< ((3 : Int32) &&& 31))) ||| ((own_idx q (1 : Int32) (5 : Int32)) <<< ((2 : Int32) &&& 31))) ||| ((own_idx q (1 : Int32) (6 : Int32)) <<< ((1 : Int32) &&& 31))) ||| (0 : Int32)).toInt8.toInt32) := by
  have t0 : own_term q (7 : Int32) (0 : Int32) (0 : Int32) (8 : Int32) (1 : Int32) (0 : Int32) = ((own_idx q (1 : Int32) (0 : Int32)) <<< ((7 : Int32) &&& 31)) := by
    rw [own_tm1 (by decide) (by decide), show (((0 : Int32) * (7 : Int32)) + (((0 : Int32) * (8 : Int32)) + (0 : Int32))) = (0 : Int32) from by decide, show ((8 : Int32) - ((1 : Int32) * ((0 : Int32) + (1 : Int32)))) = (7 : Int32) from by decide]
  have t1 : own_term q (7 : Int32) (0 : Int32) (0 : Int32) (8 : Int32) (1 : Int32) (1 : Int32) = ((own_idx q (1 : Int32) (1 : Int32)) <<< ((6 : Int32) &&& 31)) := by
    rw [own_tm1 (by decide) (by decide), show (((0 : Int32) * (7 : Int32)) + (((0 : Int32) * (8 : Int32)) + (1 : Int32))) = (1 : Int32) from by decide, show ((8 : Int32) - ((1 : Int32) * ((1 : Int32) + (1 : Int32)))) = (6 : Int32) from by decide]
  have t2 : own_term q (7 : Int32) (0 : Int32) (0 : Int32) (8 : Int32) (1 : Int32) (2 : Int32) = ((own_idx q (1 : Int32) (2 : Int32)) <<< ((5 : Int32) &&& 31)) := by
    rw [own_tm1 (by decide) (by decide), show (((0 : Int32) * (7 : Int32)) + (((0 : Int32) * (8 : Int32)) + (2 : Int32))) = (2 : Int32) from by decide, show ((8 : Int32) - ((1 : Int32) * ((2 : Int32) + (1 : Int32)))) = (5 : Int32) from by decide]
  have t3 : own_term q (7 : Int32) (0 : Int32) (0 : Int32) (8 : Int32) (1 : Int32) (3 : Int32) = ((own_idx q (1 : Int32) (3 : Int32)) <<< ((4 : Int32) &&& 31)) := by
    rw [own_tm1 (by decide) (by decide), show (((0 : Int32) * (7 : Int32)) + (((0 : Int32) * (8 : Int32)) + (3 : Int32))) = (3 : Int32) from by decide, show ((8 : Int32) - ((1 : Int32) * ((3 : Int32) + (1 : Int32)))) = (4 : Int32) from by decide]
  have t4 : own_term q (7 : Int32) (0 : Int32) (0 : Int32) (8 : Int32) (1 : Int32) (4 : Int32) = ((own_idx q (1 : Int32) (4 : Int32)) <<< ((3 : Int32) &&& 31)) := by
    rw [own_tm1 (by decide) (by decide), show (((0 : Int32) * (7 : Int32)) + (((0 : Int32) * (8 : Int32)) + (4 : Int32))) = (4 : Int32) from by decide, show ((8 : Int32) - ((1 : Int32) * ((4 : Int32) + (1 : Int32)))) = (3 : Int32) from by decide]
  have t5 : own_term q (7 : Int32) (0 : Int32) (0 : Int32) (8 : Int32) (1 : Int32) (5 : Int32) = ((own_idx q (1 : Int32) (5 : Int32)) <<< ((2 : Int32) &&& 31)) := by
    rw [own_tm1 (by decide) (by decide), show (((0 : Int32) * (7 : Int32)) + (((0 : Int32) * (8 : Int32)) + (5 : Int32))) = (5 : Int32) from by decide, show ((8 : Int32) - ((1 : Int32) * ((5 : Int32) + (1 : Int32)))) = (2 : Int32) from by decide]
  have t6 : own_term q (7 : Int32) (0 : Int32) (0 : Int32) (8 : Int32) (1 : Int32) (6 : Int32) = ((own_idx q (1 : Int32) (6 : Int32)) <<< ((1 : Int32) &&& 31)) := by
    rw [own_tm1 (by decide) (by decide), show (((0 : Int32) * (7 : Int32)) + (((0 : Int32) * (8 : Int32)) + (6 : Int32))) = (6 : Int32) from by decide, show ((8 : Int32) - ((1 : Int32) * ((6 : Int32) + (1 : Int32)))) = (1 : Int32) from by decide]
  have t7 : own_term q (7 : Int32) (0 : Int32) (0 : Int32) (8 : Int32) (1 : Int32) (7 : Int32) = (0 : Int32) := own_tm2 (by decide) (by decide)
  unfold own_pin
  rw [show ((0 : Int32) / ((((7 : Int32) * (1 : Int32)) + (7 : Int32)) / (8 : Int32))) = (0 : Int32) from by decide, show ((0 : Int32) % ((((7 : Int32) * (1 : Int32)) + (7 : Int32)) / (8 : Int32))) = (0 : Int32) from by decide, show ((8 : Int32) / (1 : Int32)) = (8 : Int32) from by decide, t0, t1, t2, t3, t4, t5, t6, t7]
theorem own_c1_7_1_0 (q : Int64) : own_pin q (7 : Int32) (1 : Int32) (1 : Int32) = ((((((((((own_idx q (1 : Int32) (7 : Int32)) <<< ((7 : Int32) &&& 31)) ||| ((own_idx q (1 : Int32) (8 : Int32)) <<< ((6 : Int32) &&& 31))) ||| ((own_idx q (1 : Int32) (9 : Int32)) <<< ((5 : Int32) &&& 31))) ||| ((own_idx q (1 : Int32) (10 : Int32)) <<< ((4 : Int32) &&& 31))) ||| ((own_idx q (1 : Int32) (11 : Int32)) <<< ((3 : Int32) &&& 31))) ||| ((own_idx q (1 : Int32) (12 : Int32)) <<< ((2 : Int32) &&& 31))) ||| ((own_idx q (1 : Int32) (13 : Int32)) <<< ((1 : Int32) &&& 31))) ||| (0 : Int32)).toInt8.toInt32) := by
  have t0 : own_term q (7 : Int32) (1 : Int32) (0 : Int32) (8 : Int32) (1 : Int32) (0 : Int32) = ((own_idx q (1 : Int32) (7 : Int32)) <<< ((7 : Int32) &&& 31)) := by
    rw [own_tm1 (by decide) (by decide), show (((1 : Int32) * (7 : Int32)) + (((0 : Int32) * (8 : Int32)) + (0 : Int32))) = (7 : Int32) from by decide, show ((8 : Int32) - ((1 : Int32) * ((0 : Int32) + (1 : Int32)))) = (7 : Int32) from by decide]
  have t1 : own_term q (7 : Int32) (1 : Int32) (0 : Int32) (8 : Int32) (1 : Int32) (1 : Int32) = ((own_idx q (1 : Int32) (8 : Int32)) <<< ((6 : Int32) &&& 31)) := by
    rw [own_tm1 (by decide) (by decide), show (((1 : Int32) * (7 : Int32)) + (((0 : Int32) * (8 : Int32)) + (1 : Int32))) = (8 : Int32) from by decide, show ((8 : Int32) - ((1 : Int32) * ((1 : Int32) + (1 : Int32)))) = (6 : Int32) from by decide]
  have t2 : own_term q (7 : Int32) (1 : Int32) (0 : Int32) (8 : Int32) (1 : Int32) (2 : Int32) = ((own_idx q (1 : Int32) (9 : Int32)) <<< ((5 : Int32) &&& 31)) := by
    rw [own_tm1 (by decide) (by decide), show (((1 : Int32) * (7 : Int32)) + (((0 : Int32) * (8 : Int32)) + (2 : Int32))) = (9 : Int32) from by decide, show ((8 : Int32) - ((1 : Int32) * ((2 : Int32) + (1 : Int32)))) = (5 : Int32) from by decide]
  have t3 : own_term q (7 : Int32) (1 : Int32) (0 : Int32) (8 : Int32) (1 : Int32) (3 : Int32) = ((own_idx q (1 : Int32) (10 : Int32)) <<< ((4 : Int32) &&& 31)) := by
    rw [own_tm1 (by decide) (by decide), show (((1 : Int32) * (7 : Int32)) + (((0 : Int32) * (8 : Int32)) + (3 : Int32))) = (10 : Int32) from by decide, show ((8 : Int32) - ((1 : Int32) * ((3 : Int32) + (1 : Int32)))) = (4 : Int32) from by decide]
  have t4 : own_term q (7 : Int32) (1 : Int32) (0 : Int32) (8 : Int32) (1 : Int32) (4 : Int32) = ((own_idx q (1 : Int32) (11 : Int32)) <<< ((3 : Int32) &&& 31)) := by
    rw [own_tm1 (by decide) (by decide), show (((1 : Int32) * (7 : Int32)) + (((0 : Int32) * (8 : Int32)) + (4 : Int32))) = (11 : Int32) from by decide, show ((8 : Int32) - ((1 : Int32) * ((4 : Int32) + (1 : Int32)))) = (3 : Int32) from by decide]
  have t5 : own_term q (7 : Int32) (1 : Int32) (0 : Int32) (8 : Int32) (1 : Int32) (5 : Int32) = ((own_idx q (1 : Int32) (12 : Int32)) <<< ((2 : Int32) &&& 31)) := by
    rw [own_tm1 (by decide) (by decide), show (((1 : Int32) * (7 : Int32)) + (((0 : Int32) * (8 : Int32)) + (5 : Int32))) = (12 : Int32) from by decide, show ((8 : Int32) - ((1 : Int32) * ((5 : Int32) + (1 : Int32)))) = (2 : Int32) from by decide]
  have t6 : own_term q (7 : Int32) (1 : Int32) (0 : Int32) (8 : Int32) (1 : Int32) (6 : Int32) = ((own_idx q (1 : Int32) (13 : Int32)) <<< ((1 : Int32) &&& 31)) := by
    rw [own_tm1 (by decide) (by decide), show (((1 : Int32) * (7 : Int32)) + (((0 : Int32) * (8 : Int32)) + (6 : Int32))) = (13 : Int32) from by decide, show ((8 : Int32) - ((1 : Int32) * ((6 : Int32) + (1 : Int32)))) = (1 : Int32) from by decide]
  have t7 : own_term q (7 : Int32) (1 : Int32) (0 : Int32) (8 : Int32) (1 : Int32) (7 : Int32) = (0 : Int32) := own_tm2 (by decide) (by decide)
  unfold own_pin
  rw [show ((1 : Int32) / ((((7 : Int32) * (1 : Int32)) + (7 : Int32)) / (8 : Int32))) = (1 : Int32) from by decide, show ((1 : Int32) % ((((7 : Int32) * (1 : Int32)) + (7 : Int32)) / (8 : Int32))) = (0 : Int32) from by decide, show ((8 : Int32) / (1 : Int32)) = (8 : Int32) from by decide, t0, t1, t2, t3, t4, t5, t6, t7]
theorem own_c1_8_0_0 (q : Int64) : own_pin q (8 : Int32) (1 : Int32) (0 : Int32) = ((((((((((own_idx q (1 : Int32) (0 : Int32)) <<< ((7 : Int32) &&& 31)) ||| ((own_idx q (1 : Int32) (1 : Int32)) <<< ((6 : Int32) &&& 31))) ||| ((own_idx q (1 : Int32) (2 : Int32)) <<< ((5 : Int32) &&& 31))) ||| ((own_idx q (1 : Int32) (3 : Int32)) <<< ((4 : Int32) &&& 31))) ||| ((own_idx q (1 : Int32) (4 : Int32)) <<< ((3 : Int32) &&& 31))) ||| ((own_idx q (1 : Int32) (5 : Int32)) <<< ((2 : Int32) &&& 31))) ||| ((own_idx q (1 : Int32) (6 : Int32)) <<< ((1 : Int32) &&& 31))) ||| ((own_idx q (1 : Int32) (7 : Int32)) <<< ((0 : Int32) &&& 31))).toInt8.toInt32) := by
  have t0 : own_term q (8 : Int32) (0 : Int32) (0 : Int32) (8 : Int32) (1 : Int32) (0 : Int32) = ((own_idx q (1 : Int32) (0 : Int32)) <<< ((7 : Int32) &&& 31)) := by
    rw [own_tm1 (by decide) (by decide), show (((0 : Int32) * (8 : Int32)) + (((0 : Int32) * (8 : Int32)) + (0 : Int32))) = (0 : Int32) from by decide, show ((8 : Int32) - ((1 : Int32) * ((0 : Int32) + (1 : Int32)))) = (7 : Int32) from by decide]
  have t1 : own_term q (8 : Int32) (0 : Int32) (0 : Int32) (8 : Int32) (1 : Int32) (1 : Int32) = ((own_idx q (1 : Int32) (1 : Int32)) <<< ((6 : Int32) &&& 31)) := by
    rw [own_tm1 (by decide) (by decide), show (((0 : Int32) * (8 : Int32)) + (((0 : Int32) * (8 : Int32)) + (1 : Int32))) = (1 : Int32) from by decide, show ((8 : Int32) - ((1 : Int32) * ((1 : Int32) + (1 : Int32)))) = (6 : Int32) from by decide]
  have t2 : own_term q (8 : Int32) (0 : Int32) (0 : Int32) (8 : Int32) (1 : Int32) (2 : Int32) = ((own_idx q (1 : Int32) (2 : Int32)) <<< ((5 : Int32) &&& 31)) := by
    rw [own_tm1 (by decide) (by decide), show (((0 : Int32) * (8 : Int32)) + (((0 : Int32) * (8 : Int32)) + (2 : Int32))) = (2 : Int32) from by decide, show ((8 : Int32) - ((1 : Int32) * ((2 : Int32) + (1 : Int32)))) = (5 : Int32) from by decide]
  have t3 : own_term q (8 : Int32) (0 : Int32) (0 : Int32) (8 : Int32) (1 : Int32) (3 : Int32) = ((own_idx q (1 : Int32) (3 : Int32)) <<< ((4 : Int32) &&& 31)) := by
    rw [own_tm1 (by decide) (by decide), show (((0 : Int32) * (8 : Int32)) + (((0 : Int32) * (8 : Int32)) + (3 : Int32))) = (3 : Int32) from by decide, show ((8 : Int32) - ((1 : Int32) * ((3 : Int32) + (1 : Int32)))) = (4 : Int32) from by decide]
  have t4 : own_term q (8 : Int32) (0 : Int32) (0 : Int32) (8 : Int32) (1 : Int32) (4 : Int32) = ((own_idx q (1 : Int32) (4 : Int32)) <<< ((3 : Int32) &&& 31)) := by
    rw [own_tm1 (by decide) (by decide), show (((0 : Int32) * (8 : Int32)) + (((0 : Int32) * (8 : Int32)) + (4 : Int32))) = (4 : Int32) from by decide, show ((8 : Int32) - ((1 : Int32) * ((4 : Int32) + (1 : Int32)))) = (3 : Int32) from by decide]
  have t5 : own_term q (8 : Int32) (0 : Int32) (0 : Int32) (8 : Int32) (1 : Int32) (5 : Int32) = ((own_idx q (1 : Int32) (5 : Int32)) <<< ((2 : Int32) &&& 31)) := by
    rw [own_tm1 (by decide) (by decide), show (((0 : Int32) * (8 : Int32)) + (((0 : Int32) * (8 : Int32)) + (5 : Int32))) = (5 : Int32) from by decide, show ((8 : Int32) - ((1 : Int32) * ((5 : Int32) + (1 : Int32)))) = (2 : Int32) from by decide]
  have t6 : own_term q (8 : Int32) (0 : Int32) (0 : Int32) (8 : Int32) (1 : Int32) (6 : Int32) = ((own_idx q (1 : Int32) (6 : Int32)) <<< ((1 : Int32) &&& 31)) := by
    rw [own_tm1 (by decide) (by decide), show (((0 : Int32) * (8 : Int32)) + (((0 : Int32) * (8 : Int32)) + (6 : Int32))) = (6 : Int32) from by decide, show ((8 : Int32) - ((1 : Int32) * ((6 : Int32) + (1 : Int32)))) = (1 : Int32) from by decide]
  have t7 : own_term q (8 : Int32) (0 : Int32) (0 : Int32) (8 : Int32) (1 : Int32) (7 : Int32) = ((own_idx q (1 : Int32) (7 : Int32)) <<< ((0 : Int32) &&& 31)) := by
    rw [own_tm1 (by decide) (by decide), show (((0 : Int32) * (8 : Int32)) + (((0 : Int32) * (8 : Int32)) + (7 : Int32))) = (7 : Int32) from by decide, show ((8 : Int32) - ((1 : Int32) * ((7 : Int32) + (1 : Int32)))) = (0 : Int32) from by decide]
  unfold own_pin
  rw [show ((0 : Int32) / ((((8 : Int32) * (1 : Int32)) + (7 : Int32)) / (8 : Int32))) = (0 : Int32) from by decide, show ((0 : Int32) % ((((8 : Int32) * (1 : Int32)) + (7 : Int32)) / (8 : Int32))) = (0 : Int32) from by decide, show ((8 : Int32) / (1 : Int32)) = (8 : Int32) from by decide, t0, t1, t2, t3, t4, t5, t6, t7]
theorem own_c1_8_1_0 (q : Int64) : own_pin q (8 : Int32) (1 : Int32) (1 : Int32) = ((((((((((own_idx q (1 : Int32) (8 : Int32)) <<< ((7 : Int32) &&& 31)) ||| ((own_idx q (1 : Int32) (9 : Int32)) <<< ((6 : Int32) &&& 31))) ||| ((own_idx q (1 : Int32) (10 : Int32)) <<< ((5 : Int32) &&& 31))) ||| ((own_idx q (1 : Int32) (11 : Int32)) <<< ((4 : Int32) &&& 31))) ||| ((own_idx q (1 : Int32) (12 : Int32)) <<< ((3 : Int32) &&& 31))) ||| ((own_idx q (1 : Int32) (13 : Int32)) <<< ((2 : Int32) &&& 31))) ||| ((own_idx q (1 : Int32) (14 : Int32)) <<< ((1 : Int32) &&& 31))) ||| ((own_idx q (1 : Int32) (15 : Int32)) <<< ((0 : Int32) &&& 31))).toInt8.toInt32) := by
  have t0 : own_term q (8 : Int32) (1 : Int32) (0 : Int32) (8 : Int32) (1 : Int32) (0 : Int32) = ((own_idx q (1 : Int32) (8 : Int32)) <<< ((7 : Int32) &&& 31)) := by
    rw [own_tm1 (by decide) (by decide), show (((1 : Int32) * (8 : Int32)) + (((0 : Int32) * (8 : Int32)) + (0 : Int32))) = (8 : Int32) from by decide, show ((8 : Int32) - ((1 : Int32) * ((0 : Int32) + (1 : Int32)))) = (7 : Int32) from by decide]
  have t1 : own_term q (8 : Int32) (1 : Int32) (0 : Int32) (8 : Int32) (1 : Int32) (1 : Int32) = ((own_idx q (1 : Int32) (9 : Int32)) <<< ((6 : Int32) &&& 31)) := by
    rw [own_tm1 (by decide) (by decide), show (((1 : Int32) * (8 : Int32)) + (((0 : Int32) * (8 : Int32)) + (1 : Int32))) = (9 : Int32) from by decide, show ((8 : Int32) - ((1 : Int32) * ((1 : Int32) + (1 : Int32)))) = (6 : Int32) from by decide]
  have t2 : own_term q (8 : Int32) (1 : Int32) (0 : Int32) (8 : Int32) (1 : Int32) (2 : Int32) = ((own_idx q (1 : Int32) (10 : Int32)) <<< ((5 : Int32) &&& 31)) := by
    rw [own_tm1 (by decide) (by decide), show (((1 : Int32) * (8 : Int32)) + (((0 : Int32) * (8 : Int32)) + (2 : Int32))) = (10 : Int32) from by decide, show ((8 : Int32) - ((1 : Int32) * ((2 : Int32) + (1 : Int32)))) = (5 : Int32) from by decide]
  have t3 : own_term q (8 : Int32) (1 : Int32) (0 : Int32) (8 : Int32) (1 : Int32) (3 : Int32) = ((own_idx q (1 : Int32) (11 : Int32)) <<< ((4 : Int32) &&& 31)) := by
    rw [own_tm1 (by decide) (by decide), show (((1 : Int32) * (8 : Int32)) + (((0 : Int32) * (8 : Int32)) + (3 : Int32))) = (11 : Int32) from by decide, show ((8 : Int32) - ((1 : Int32) * ((3 : Int32) + (1 : Int32)))) = (4 : Int32) from by decide]
  have t4 : own_term q (8 : Int32) (1 : Int32) (0 : Int32) (8 : Int32) (1 : Int32) (4 : Int32) = ((own_idx q (1 : Int32) (12 : Int32)) <<< ((3 : Int32) &&& 31)) := by
    rw [own_tm1 (by decide) (by decide), show (((1 : Int32) * (8 : Int32)) + (((0 : Int32) * (8 : Int32)) + (4 : Int32))) = (12 : Int32) from by decide, show ((8 : Int32) - ((1 : Int32) * ((4 : Int32) + (1 : Int32)))) = (3 : Int32) from by decide]
  have t5 : own_term q (8 : Int32) (1 : Int32) (0 : Int32) (8 : Int32) (1 : Int32) (5 : Int32) = ((own_idx q (1 : Int32) (13 : Int32)) <<< ((2 : Int32) &&& 31)) := by
    rw [own_tm1 (by decide) (by decide), show (((1 : Int32) * (8 : Int32)) + (((0 : Int32) * (8 : Int32)) + (5 : Int32))) = (13 : Int32) from by decide, show ((8 : Int32) - ((1 : Int32) * ((5 : Int32) + (1 : Int32)))) = (2 : Int32) from by decide]
  have t6 : own_term q (8 : Int32) (1 : Int32) (0 : Int32) (8 : Int32) (1 : Int32) (6 : Int32) = ((own_idx q (1 : Int32) (14 : Int32)) <<< ((1 : Int32) &&& 31)) := by
    rw [own_tm1 (by decide) (by decide), show (((1 : Int32) * (8 : Int32)) + (((0 : Int32) * (8 : Int32)) + (6 : Int32))) = (14 : Int32) from by decide, show ((8 : Int32) - ((1 : Int32) * ((6 : Int32) + (1 : Int32)))) = (1 : Int32) from by decide]
  have t7 : own_term q (8 : Int32) (1 : Int32) (0 : Int32) (8 : Int32) (1 : Int32) (7 : Int32) = ((own_idx q (1 : Int32) (15 : Int32)) <<< ((0 : Int32) &&& 31)) := by
    rw [own_tm1 (by decide) (by decide), show (((1 : Int32) * (8 : Int32)) + (((0 : Int32) * (8 : Int32)) + (7 : Int32))) = (15 : Int32) from by decide, show ((8 : Int32) - ((1 : Int32) * ((7 : Int32) + (1 : Int32)))) = (0 : Int32) from by decide]
  unfold own_pin
  rw [show ((1 : Int32) / ((((8 : Int32) * (1 : Int32)) + (7 : Int32)) / (8 : Int32))) = (1 : Int32) from by decide, show ((1 : Int32) % ((((8 : Int32) * (1 : Int32)) + (7 : Int32)) / (8 : Int32))) = (0 : Int32) from by decide, show ((8 : Int32) / (1 : Int32)) = (8 : Int32) from by decide, t0, t1, t2, t3, t4, t5, t6, t7]
theorem own_GF1_0 (q : Int64) {w : Int32} (hw : w = 0 ∨ w = 1 ∨ w = 2 ∨ w = 3 ∨ w = 4 ∨ w = 5 ∨ w = 6 ∨ w = 7 ∨ w = 8) : ∀ n : Nat, (n : Int) < w.toInt → ((n + 1) * 1) % 8 = 0 → own_pin q w (1 : Int32) ((0 + (n * 1) / 8 : Nat).toInt32) = ((own_cv 1 (1 : Int32) (fun i => (own_L q (1 : Int32)).getD (0 + i) 0) n).toInt8.toInt32).toInt8.toInt32 := by
  intro n h1 h2
  rcases hw with rfl | rfl | rfl | rfl | rfl | rfl | rfl | rfl | rfl
  · have hz : ((0 : Int32)).toInt = 0 := rfl
    omega
  · have hz : ((1 : Int32)).toInt = 1 := rfl
    omega
  · have hz : ((2 : Int32)).toInt = 2 := rfl
    omega
  · have hz : ((3 : Int32)).toInt = 3 := rfl
    omega
  · have hz : ((4 : Int32)).toInt = 4 := rfl
    omega
  · have hz : ((5 : Int32)).toInt = 5 := rfl
    omega
  · have hz : ((6 : Int32)).toInt = 6 := rfl
    omega
  · have hz : ((7 : Int32)).toInt = 7 := rfl
    omega
  · have hz : ((8 : Int32)).toInt = 8 := rfl
    have hn : n = 7 := by omega
    rcases hn with rfl
    · rw [show (0 + (7 * 1) / 8 : Nat).toInt32 = (0 : Int32) from by decide, own_c1_8_0_0, own_bb]
      have hs : own_cv 1 (1 : Int32) (fun i => (own_L q (1 : Int32)).getD (0 + i) 0) 7 = (((((((((((((((((0 : Int32) <<< ((1 : Int32) &&& 31)) ||| (((own_idx q (1 : Int32) (0 : Int32)).toInt8.toInt32).toInt8.toInt32)) <<< ((1 : Int32) &&& 31)) ||| (((own_idx q (1 : Int32) (1 : Int32)).toInt8.toInt32).toInt8.toInt32)) <<< ((1 : Int32) &&& 31)) ||| (((own_idx q (1 : Int32) (2 : Int32)).toInt8.toInt32).toInt8.toInt32)) <<< ((1 : Int32) &&& 31)) ||| (((own_idx q (1 : Int32) (3 : Int32)).toInt8.toInt32).toInt8.toInt32)) <<< ((1 : Int32) &&& 31)) ||| (((own_idx q (1 : Int32) (4 : Int32)).toInt8.toInt32).toInt8.toInt32)) <<< ((1 : Int32) &&& 31)) ||| (((own_idx q (1 : Int32) (5 : Int32)).toInt8.toInt32).toInt8.toInt32)) <<< ((1 : Int32) &&& 31)) ||| (((own_idx q (1 : Int32) (6 : Int32)).toInt8.toInt32).toInt8.toInt32)) <<< ((1 : Int32) &&& 31)) ||| (((own_idx q (1 : Int32) (7 : Int32)).toInt8.toInt32).toInt8.toInt32)) := by first | rfl | (simp [own_cu, own_cv, own_L])
      rw [hs]
      simp only [own_ib1]
      rw [own_f1_8]
theorem own_GP1_0 (q : Int64) {w : Int32} (hw : w = 0 ∨ w = 1 ∨ w = 2 ∨ w = 3 ∨ w = 4 ∨ w = 5 ∨ w = 6 ∨ w = 7 ∨ w = 8) : ∀ u : Int32, u.toInt = (w.toInt * 1) % 8 → 0 < u.toInt → own_pin q w (1 : Int32) ((0 + (w.toInt.toNat * 1) / 8 : Nat).toInt32) = ((((own_cu 1 (1 : Int32) (fun i => (own_L q (1 : Int32)).getD (0 + i) 0) w.toInt.toNat) <<< (((8 : Int32) - u) &&& 31)).toInt8.toInt32).toInt8.toInt32) := by
  intro u h1 h2
  rcases hw with rfl | rfl | rfl | rfl | rfl | rfl | rfl | rfl | rfl
  · have hz : ((0 : Int32)).toInt = 0 := rfl
    omega
  · have hz : ((1 : Int32)).toInt = 1 := rfl
    obtain rfl : u = (1 : Int32) := Int32.toInt_inj.mp (by have hq : ((1 : Int32)).toInt = 1 := rfl; omega)
    rw [show (0 + ((1 : Int32).toInt.toNat * 1) / 8 : Nat).toInt32 = (0 : Int32) from by decide, own_c1_1_0_0, own_bb]
    have hs : own_cu 1 (1 : Int32) (fun i => (own_L q (1 : Int32)).getD (0 + i) 0) ((1 : Int32).toInt.toNat) = (((0 : Int32) <<< ((1 : Int32) &&& 31)) ||| (((own_idx q (1 : Int32) (0 : Int32)).toInt8.toInt32).toInt8.toInt32)) := by first | rfl | (simp [own_cu, own_cv, own_L])
    rw [hs]
    rw [show ((8 : Int32) - (1 : Int32)) = (7 : Int32) from by decide]
    simp only [own_ib1]
    rw [own_f1_1]
  · have hz : ((2 : Int32)).toInt = 2 := rfl
    obtain rfl : u = (2 : Int32) := Int32.toInt_inj.mp (by have hq : ((2 : Int32)).toInt = 2 := rfl; omega)
    rw [show (0 + ((2 : Int32).toInt.toNat * 1) / 8 : Nat).toInt32 = (0 : Int32) from by decide, own_c1_2_0_0, own_bb]
    have hs : own_cu 1 (1 : Int32) (fun i => (own_L q (1 : Int32)).getD (0 + i) 0) ((2 : Int32).toInt.toNat) = (((((0 : Int32) <<< ((1 : Int32) &&& 31)) ||| (((own_idx q (1 : Int32) (0 : Int32)).toInt8.toInt32).toInt8.toInt32)) <<< ((1 : Int32) &&& 31)) ||| (((own_idx q (1 : Int32) (1 : Int32)).toInt8.toInt32).toInt8.toInt32)) := by first | rfl | (simp [own_cu, own_cv, own_L])
    rw [hs]
    rw [show ((8 : Int32) - (2 : Int32)) = (6 : Int32) from by decide]
    simp only [own_ib1]
    rw [own_f1_2]
  · have hz : ((3 : Int32)).toInt = 3 := rfl
    obtain rfl : u = (3 : Int32) := Int32.toInt_inj.mp (by have hq : ((3 : Int32)).toInt = 3 := rfl; omega)
    rw [show (0 + ((3 : Int32).toInt.toNat * 1) / 8 : Nat).toInt32 = (0 : Int32) from by decide, own_c1_3_0_0, own_bb]
    have hs : own_cu 1 (1 : Int32) (fun i => (own_L q (1 : Int32)).getD (0 + i) 0) ((3 : Int32).toInt.toNat) = (((((((0 : Int32) <<< ((1 : Int32) &&& 31)) ||| (((own_idx q (1 : Int32) (0 : Int32)).toInt8.toInt32).toInt8.toInt32)) <<< ((1 : Int32) &&& 31)) ||| (((own_idx q (1 : Int32) (1 : Int32)).toInt8.toInt32).toInt8.toInt32)) <<< ((1 : Int32) &&& 31)) ||| (((own_idx q (1 : Int32) (2 : Int32)).toInt8.toInt32).toInt8.toInt32)) := by first | rfl | (simp [own_cu, own_cv, own_L])
    rw [hs]
    rw [show ((8 : Int32) - (3 : Int32)) = (5 : Int32) from by decide]
    simp only [own_ib1]
    rw [own_f1_3]
  · have hz : ((4 : Int32)).toInt = 4 := rfl
    obtain rfl : u = (4 : Int32) := Int32.toInt_inj.mp (by have hq : ((4 : Int32)).toInt = 4 := rfl; omega)
    rw [show (0 + ((4 : Int32).toInt.toNat * 1) / 8 : Nat).toInt32 = (0 : Int32) from by decide, own_c1_4_0_0, own_bb]
    have hs : own_cu 1 (1 : Int32) (fun i => (own_L q (1 : Int32)).getD (0 + i) 0) ((4 : Int32).toInt.toNat) = (((((((((0 : Int32) <<< ((1 : Int32) &&& 31)) ||| (((own_idx q (1 : Int32) (0 : Int32)).toInt8.toInt32).toInt8.toInt32)) <<< ((1 : Int32) &&& 31)) ||| (((own_idx q (1 : Int32) (1 : Int32)).toInt8.toInt32).toInt8.toInt32)) <<< ((1 : Int32) &&& 31)) ||| (((own_idx q (1 : Int32) (2 : Int32)).toInt8.toInt32).toInt8.toInt32)) <<< ((1 : Int32) &&& 31)) ||| (((own_idx q (1 : Int32) (3 : Int32)).toInt8.toInt32).toInt8.toInt32)) := by first | rfl | (simp [own_cu, own_cv, own_L])
    rw [hs]
    rw [show ((8 : Int32) - (4 : Int32)) = (4 : Int32) from by decide]
    simp only [own_ib1]
    rw [own_f1_4]
  · have hz : ((5 : Int32)).toInt = 5 := rfl
    obtain rfl : u = (5 : Int32) := Int32.toInt_inj.mp (by have hq : ((5 : Int32)).toInt = 5 := rfl; omega)
    rw [show (0 + ((5 : Int32).toInt.toNat * 1) / 8 : Nat).toInt32 = (0 : Int32) from by decide, own_c1_5_0_0, own_bb]
    have hs : own_cu 1 (1 : Int32) (fun i => (own_L q (1 : Int32)).getD (0 + i) 0) ((5 : Int32).toInt.toNat) = (((((((((((0 : Int32) <<< ((1 : Int32) &&& 31)) ||| (((own_idx q (1 : Int32) (0 : Int32)).toInt8.toInt32).toInt8.toInt32)) <<< ((1 : Int32) &&& 31)) ||| (((own_idx q (1 : Int32) (1 : Int32)).toInt8.toInt32).toInt8.toInt32)) <<< ((1 : Int32) &&& 31)) ||| (((own_idx q (1 : Int32) (2 : Int32)).toInt8.toInt32).toInt8.toInt32)) <<< ((1 : Int32) &&& 31)) ||| (((own_idx q (1 : Int32) (3 : Int32)).toInt8.toInt32).toInt8.toInt32)) <<< ((1 : Int32) &&& 31)) ||| (((own_idx q (1 : Int32) (4 : Int32)).toInt8.toInt32).toInt8.toInt32)) := by first | rfl | (simp [own_cu, own_cv, own_L])
    rw [hs]
    rw [show ((8 : Int32) - (5 : Int32)) = (3 : Int32) from by decide]
    simp only [own_ib1]
    rw [own_f1_5]
  · have hz : ((6 : Int32)).toInt = 6 := rfl
    obtain rfl : u = (6 : Int32) := Int32.toInt_inj.mp (by have hq : ((6 : Int32)).toInt = 6 := rfl; omega)
    rw [show (0 + ((6 : Int32).toInt.toNat * 1) / 8 : Nat).toInt32 = (0 : Int32) from by decide, own_c1_6_0_0, own_bb]
    have hs : own_cu 1 (1 : Int32) (fun i => (own_L q (1 : Int32)).getD (0 + i) 0) ((6 : Int32).toInt.toNat) = (((((((((((((0 : Int32) <<< ((1 : Int32) &&& 31)) ||| (((own_idx q (1 : Int32) (0 : Int32)).toInt8.toInt32).toInt8.toInt32)) <<< ((1 : Int32) &&& 31)) ||| (((own_idx q (1 : Int32) (1 : Int32)).toInt8.toInt32).toInt8.toInt32)) <<< ((1 : Int32) &&& 31)) ||| (((own_idx q (1 : Int32) (2 : Int32)).toInt8.toInt32).toInt8.toInt32)) <<< ((1 : Int32) &&& 31)) ||| (((own_idx q (1 : Int32) (3 : Int32)).toInt8.toInt32).toInt8.toInt32)) <<< ((1 : Int32) &&& 31)) ||| (((own_idx q (1 : Int32) (4 : Int32)).toInt8.toInt32).toInt8.toInt32)) <<< ((1 : Int32) &&& 31)) ||| (((own_idx q (1 : Int32) (5 : Int32)).toInt8.toInt32).toInt8.toInt32)) := by first | rfl | (simp [own_cu, own_cv, own_L])
    rw [hs]
    rw [show ((8 : Int32) - (6 : Int32)) = (2 : Int32) from by decide]
    simp only [own_ib1]
    rw [own_f1_6]
  · have hz : ((7 : Int32)).toInt = 7 := rfl
    obtain rfl : u = (7 : Int32) := Int32.toInt_inj.mp (by have hq : ((7 : Int32)).toInt = 7 := rfl; omega)
    rw [show (0 + ((7 : Int32).toInt.toNat * 1) / 8 : Nat).toInt32 = (0 : Int32) from by decide, own_c1_7_0_0, own_bb]
    have hs : own_cu 1 (1 : Int32) (fun i => (own_L q (1 : Int32)).getD (0 + i) 0) ((7 : Int32).toInt.toNat) = (((((((((((((((0 : Int32) <<< ((1 : Int32) &&& 31)) ||| (((own_idx q (1 : Int32) (0 : Int32)).toInt8.toInt32).toInt8.toInt32)) <<< ((1 : Int32) &&& 31)) ||| (((own_idx q (1 : Int32) (1 : Int32)).toInt8.toInt32).toInt8.toInt32)) <<< ((1 : Int32) &&& 31)) ||| (((own_idx q (1 : Int32) (2 : Int32)).toInt8.toInt32).toInt8.toInt32)) <<< ((1 : Int32) &&& 31)) ||| (((own_idx q (1 : Int32) (3 : Int32)).toInt8.toInt32).toInt8.toInt32)) <<< ((1 : Int32) &&& 31)) ||| (((own_idx q (1 : Int32) (4 : Int32)).toInt8.toInt32).toInt8.toInt32)) <<< ((1 : Int32) &&& 31)) ||| (((own_idx q (1 : Int32) (5 : Int32)).toInt8.toInt32).toInt8.toInt32)) <<< ((1 : Int32) &&& 31)) ||| (((own_idx q (1 : Int32) (6 : Int32)).toInt8.toInt32).toInt8.toInt32)) := by first | rfl | (simp [own_cu, own_cv, own_L])
    rw [hs]
    rw [show ((8 : Int32) - (7 : Int32)) = (1 : Int32) from by decide]
    simp only [own_ib1]
    rw [own_f1_7]
  · have hz : ((8 : Int32)).toInt = 8 := rfl
    omega
theorem own_GF1_1 (q : Int64) {w : Int32} (hw : w = 0 ∨ w = 1 ∨ w = 2 ∨ w = 3 ∨ w = 4 ∨ w = 5 ∨ w = 6 ∨ w = 7 ∨ w = 8) : ∀ n : Nat, (n : Int) < w.toInt → ((n + 1) * 1) % 8 = 0 → own_pin q w (1 : Int32) ((((w.toInt.toNat * 1 + 7) / 8) + (n * 1) / 8 : Nat).toInt32) = ((own_cv 1 (1 : Int32) (fun i => (own_L q (1 : Int32)).getD (w.toInt.toNat + i) 0) n).toInt8.toInt32).toInt8.toInt32 := by
  intro n h1 h2
  rcases hw with rfl | rfl | rfl | rfl | rfl | rfl | rfl | rfl | rfl
  · have hz : ((0 : Int32)).toInt = 0 := rfl
    omega
  · have hz : ((1 : Int32)).toInt = 1 := rfl
    omega
  · have hz : ((2 : Int32)).toInt = 2 := rfl
    omega
  · have hz : ((3 : Int32)).toInt = 3 := rfl
    omega
  · have hz : ((4 : Int32)).toInt = 4 := rfl
    omega
  · have hz : ((5 : Int32)).toInt = 5 := rfl
    omega
  · have hz : ((6 : Int32)).toInt = 6 := rfl
    omega
  · have hz : ((7 : Int32)).toInt = 7 := rfl
    omega
  · have hz : ((8 : Int32)).toInt = 8 := rfl
    have hn : n = 7 := by omega
    rcases hn with rfl
    · rw [show ((((8 : Int32).toInt.toNat * 1 + 7) / 8) + (7 * 1) / 8 : Nat).toInt32 = (1 : Int32) from by decide, own_c1_8_1_0, own_bb]
      have hs : own_cv 1 (1 : Int32) (fun i => (own_L q (1 : Int32)).getD ((8 : Int32).toInt.toNat + i) 0) 7 = (((((((((((((((((0 : Int32) <<< ((1 : Int32) &&& 31)) ||| (((own_idx q (1 : Int32) (8 : Int32)).toInt8.toInt32).toInt8.toInt32)) <<< ((1 : Int32) &&& 31)) ||| (((own_idx q (1 : Int32) (9 : Int32)).toInt8.toInt32).toInt8.toInt32)) <<< ((1 : Int32) &&& 31)) ||| (((own_idx q (1 : Int32) (10 : Int32)).toInt8.toInt32).toInt8.toInt32)) <<< ((1 : Int32) &&& 31)) ||| (((own_idx q (1 : Int32) (11 : Int32)).toInt8.toInt32).toInt8.toInt32)) <<< ((1 : Int32) &&& 31)) ||| (((own_idx q (1 : Int32) (12 : Int32)).toInt8.toInt32).toInt8.toInt32)) <<< ((1 : Int32) &&& 31)) ||| (((own_idx q (1 : Int32) (13 : Int32)).toInt8.toInt32).toInt8.toInt32)) <<< ((1 : Int32) &&& 31)) ||| (((own_idx q (1 : Int32) (14 : Int32)).toInt8.toInt32).toInt8.toInt32)) <<< ((1 : Int32) &&& 31)) ||| (((own_idx q (1 : Int32) (15 : Int32)).toInt8.toInt32).toInt8.toInt32)) := by first | rfl | (simp [own_cu, own_cv, own_L])
      rw [hs]
      simp only [own_ib1]
      rw [own_f1_8]
theorem own_GP1_1 (q : Int64) {w : Int32} (hw : w = 0 ∨ w = 1 ∨ w = 2 ∨ w = 3 ∨ w = 4 ∨ w = 5 ∨ w = 6 ∨ w = 7 ∨ w = 8) : ∀ u : Int32, u.toInt = (w.toInt * 1) % 8 → 0 < u.toInt → own_pin q w (1 : Int32) ((((w.toInt.toNat * 1 + 7) / 8) + (w.toInt.toNat * 1) / 8 : Nat).toInt32) = ((((own_cu 1 (1 : Int32) (fun i => (own_L q (1 : Int32)).getD (w.toInt.toNat + i) 0) w.toInt.toNat) <<< (((8 : Int32) - u) &&& 31)).toInt8.toInt32).toInt8.toInt32) := by
  intro u h1 h2
  rcases hw with rfl | rfl | rfl | rfl | rfl | rfl | rfl | rfl | rfl
  · have hz : ((0 : Int32)).toInt = 0 := rfl
    omega
  · have hz : ((1 : Int32)).toInt = 1 := rfl
    obtain rfl : u = (1 : Int32) := Int32.toInt_inj.mp (by have hq : ((1 : Int32)).toInt = 1 := rfl; omega)
    rw [show ((((1 : Int32).toInt.toNat * 1 + 7) / 8) + ((1 : Int32).toInt.toNat * 1) / 8 : Nat).toInt32 = (1 : Int32) from by decide, own_c1_1_1_0, own_bb]
    have hs : own_cu 1 (1 : Int32) (fun i => (own_L q (1 : Int32)).getD ((1 : Int32).toInt.toNat + i) 0) ((1 : Int32).toInt.toNat) = (((0 : Int32) <<< ((1 : Int32) &&& 31)) ||| (((own_idx q (1 : Int32) (1 : Int32)).toInt8.toInt32).toInt8.toInt32)) := by first | rfl | (simp [own_cu, own_cv, own_L])
    rw [hs]
    rw [show ((8 : Int32) - (1 : Int32)) = (7 : Int32) from by decide]
    simp only [own_ib1]
    rw [own_f1_1]
  · have hz : ((2 : Int32)).toInt = 2 := rfl
    obtain rfl : u = (2 : Int32) := Int32.toInt_inj.mp (by have hq : ((2 : Int32)).toInt = 2 := rfl; omega)
    rw [show ((((2 : Int32).toInt.toNat * 1 + 7) / 8) + ((2 : Int32).toInt.toNat * 1) / 8 : Nat).toInt32 = (1 : Int32) from by decide, own_c1_2_1_0, own_bb]
    have hs : own_cu 1 (1 : Int32) (fun i => (own_L q (1 : Int32)).getD ((2 : Int32).toInt.toNat + i) 0) ((2 : Int32).toInt.toNat) = (((((0 : Int32) <<< ((1 : Int32) &&& 31)) ||| (((own_idx q (1 : Int32) (2 : Int32)).toInt8.toInt32).toInt8.toInt32)) <<< ((1 : Int32) &&& 31)) ||| (((own_idx q (1 : Int32) (3 : Int32)).toInt8.toInt32).toInt8.toInt32)) := by first | rfl | (simp [own_cu, own_cv, own_L])
    rw [hs]
    rw [show ((8 : Int32) - (2 : Int32)) = (6 : Int32) from by decide]
    simp only [own_ib1]
    rw [own_f1_2]
  · have hz : ((3 : Int32)).toInt = 3 := rfl
    obtain rfl : u = (3 : Int32) := Int32.toInt_inj.mp (by have hq : ((3 : Int32)).toInt = 3 := rfl; omega)
    rw [show ((((3 : Int32).toInt.toNat * 1 + 7) / 8) + ((3 : Int32).toInt.toNat * 1) / 8 : Nat).toInt32 = (1 : Int32) from by decide, own_c1_3_1_0, own_bb]
    have hs : own_cu 1 (1 : Int32) (fun i => (own_L q (1 : Int32)).getD ((3 : Int32).toInt.toNat + i) 0) ((3 : Int32).toInt.toNat) = (((((((0 : Int32) <<< ((1 : Int32) &&& 31)) ||| (((own_idx q (1 : Int32) (3 : Int32)).toInt8.toInt32).toInt8.toInt32)) <<< ((1 : Int32) &&& 31)) ||| (((own_idx q (1 : Int32) (4 : Int32)).toInt8.toInt32).toInt8.toInt32)) <<< ((1 : Int32) &&& 31)) ||| (((own_idx q (1 : Int32) (5 : Int32)).toInt8.toInt32).toInt8.toInt32)) := by first | rfl | (simp [own_cu, own_cv, own_L])
    rw [hs]
    rw [show ((8 : Int32) - (3 : Int32)) = (5 : Int32) from by decide]
    simp only [own_ib1]
    rw [own_f1_3]
  · have hz : ((4 : Int32)).toInt = 4 := rfl
    obtain rfl : u = (4 : Int32) := Int32.toInt_inj.mp (by have hq : ((4 : Int32)).toInt = 4 := rfl; omega)
    rw [show ((((4 : Int32).toInt.toNat * 1 + 7) / 8) + ((4 : Int32).toInt.toNat * 1) / 8 : Nat).toInt32 = (1 : Int32) from by decide, own_c1_4_1_0, own_bb]
    have hs : own_cu 1 (1 : Int32) (fun i => (own_L q (1 : Int32)).getD ((4 : Int32).toInt.toNat + i) 0) ((4 : Int32).toInt.toNat) = (((((((((0 : Int32) <<< ((1 : Int32) &&& 31)) ||| (((own_idx q (1 : Int32) (4 : Int32)).toInt8.toInt32).toInt8.toInt32)) <<< ((1 : Int32) &&& 31)) ||| (((own_idx q (1 : Int32) (5 : Int32)).toInt8.toInt32).toInt8.toInt32)) <<< ((1 : Int32) &&& 31)) ||| (((own_idx q (1 : Int32) (6 : Int32)).toInt8.toInt32).toInt8.toInt32)) <<< ((1 : Int32) &&& 31)) ||| (((own_idx q (1 : Int32) (7 : Int32)).toInt8.toInt32).toInt8.toInt32)) := by first | rfl | (simp [own_cu, own_cv, own_L])
    rw [hs]
    rw [show ((8 : Int32) - (4 : Int32)) = (4 : Int32) from by decide]
    simp only [own_ib1]
    rw [own_f1_4]
  · have hz : ((5 : Int32)).toInt = 5 := rfl
    obtain rfl : u = (5 : Int32) := Int32.toInt_inj.mp (by have hq : ((5 : Int32)).toInt = 5 := rfl; omega)
    rw [show ((((5 : Int32).toInt.toNat * 1 + 7) / 8) + ((5 : Int32).toInt.toNat * 1) / 8 : Nat).toInt32 = (1 : Int32) from by decide, own_c1_5_1_0, own_bb]
    have hs : own_cu 1 (1 : Int32) (fun i => (own_L q (1 : Int32)).getD ((5 : Int32).toInt.toNat + i) 0) ((5 : Int32).toInt.toNat) = (((((((((((0 : Int32) <<< ((1 : Int32) &&& 31)) ||| (((own_idx q (1 : Int32) (5 : Int32)).toInt8.toInt32).toInt8.toInt32)) <<< ((1 : Int32) &&& 31)) ||| (((own_idx q (1 : Int32) (6 : Int32)).toInt8.toInt32).toInt8.toInt32)) <<< ((1 : Int32) &&& 31)) ||| (((own_idx q (1 : Int32) (7 : Int32)).toInt8.toInt32).toInt8.toInt32)) <<< ((1 : Int32) &&& 31)) ||| (((own_idx q (1 : Int32) (8 : Int32)).toInt8.toInt32).toInt8.toInt32)) <<< ((1 : Int32) &&& 31)) ||| (((own_idx q (1 : Int32) (9 : Int32)).toInt8.toInt32).toInt8.toInt32)) := by first | rfl | (simp [own_cu, own_cv, own_L])
    rw [hs]
    rw [show ((8 : Int32) - (5 : Int32)) = (3 : Int32) from by decide]
    simp only [own_ib1]
    rw [own_f1_5]
  · have hz : ((6 : Int32)).toInt = 6 := rfl
    obtain rfl : u = (6 : Int32) := Int32.toInt_inj.mp (by have hq : ((6 : Int32)).toInt = 6 := rfl; omega)
    rw [show ((((6 : Int32).toInt.toNat * 1 + 7) / 8) + ((6 : Int32).toInt.toNat * 1) / 8 : Nat).toInt32 = (1 : Int32) from by decide, own_c1_6_1_0, own_bb]
    have hs : own_cu 1 (1 : Int32) (fun i => (own_L q (1 : Int32)).getD ((6 : Int32).toInt.toNat + i) 0) ((6 : Int32).toInt.toNat) = (((((((((((((0 : Int32) <<< ((1 : Int32) &&& 31)) ||| (((own_idx q (1 : Int32) (6 : Int32)).toInt8.toInt32).toInt8.toInt32)) <<< ((1 : Int32) &&& 31)) ||| (((own_idx q (1 : Int32) (7 : Int32)).toInt8.toInt32).toInt8.toInt32)) <<< ((1 : Int32) &&& 31)) ||| (((own_idx q (1 : Int32) (8 : Int32)).toInt8.toInt32).toInt8.toInt32)) <<< ((1 : Int32) &&& 31)) ||| (((own_idx q (1 : Int32) (9 : Int32)).toInt8.toInt32).toInt8.toInt32)) <<< ((1 : Int32) &&& 31)) ||| (((own_idx q (1 : Int32) (10 : Int32)).toInt8.toInt32).toInt8.toInt32)) <<< ((1 : Int32) &&& 31)) ||| (((own_idx q (1 : Int32) (11 : Int32)).toInt8.toInt32).toInt8.toInt32)) := by first | rfl | (simp [own_cu, own_cv, own_L])
    rw [hs]
    rw [show ((8 : Int32) - (6 : Int32)) = (2 : Int32) from by decide]
    simp only [own_ib1]
    rw [own_f1_6]
  · have hz : ((7 : Int32)).toInt = 7 := rfl
    obtain rfl : u = (7 : Int32) := Int32.toInt_inj.mp (by have hq : ((7 : Int32)).toInt = 7 := rfl; omega)
    rw [show ((((7 : Int32).toInt.toNat * 1 + 7) / 8) + ((7 : Int32).toInt.toNat * 1) / 8 : Nat).toInt32 = (1 : Int32) from by decide, own_c1_7_1_0, own_bb]
    have hs : own_cu 1 (1 : Int32) (fun i => (own_L q (1 : Int32)).getD ((7 : Int32).toInt.toNat + i) 0) ((7 : Int32).toInt.toNat) = (((((((((((((((0 : Int32) <<< ((1 : Int32) &&& 31)) ||| (((own_idx q (1 : Int32) (7 : Int32)).toInt8.toInt32).toInt8.toInt32)) <<< ((1 : Int32) &&& 31)) ||| (((own_idx q (1 : Int32) (8 : Int32)).toInt8.toInt32).toInt8.toInt32)) <<< ((1 : Int32) &&& 31)) ||| (((own_idx q (1 : Int32) (9 : Int32)).toInt8.toInt32).toInt8.toInt32)) <<< ((1 : Int32) &&& 31)) ||| (((own_idx q (1 : Int32) (10 : Int32)).toInt8.toInt32).toInt8.toInt32)) <<< ((1 : Int32) &&& 31)) ||| (((own_idx q (1 : Int32) (11 : Int32)).toInt8.toInt32).toInt8.toInt32)) <<< ((1 : Int32) &&& 31)) ||| (((own_idx q (1 : Int32) (12 : Int32)).toInt8.toInt32).toInt8.toInt32)) <<< ((1 : Int32) &&& 31)) ||| (((own_idx q (1 : Int32) (13 : Int32)).toInt8.toInt32).toInt8.toInt32)) := by first | rfl | (simp [own_cu, own_cv, own_L])
    rw [hs]
    rw [show ((8 : Int32) - (7 : Int32)) = (1 : Int32) from by decide]
    simp only [own_ib1]
    rw [own_f1_7]
  · have hz : ((8 : Int32)).toInt = 8 := rfl
    omega
theorem own_pn2 : plainName "com/example/relayframe/relayframe/Palette" = true := by first | (simp [plainName, overriddenIn]; done) | decide +kernel
theorem d3_0 : decode prog_3_method_7_code 0 = .ok (.iload 5, 2) := by decide +kernel
theorem d3_2 : decode prog_3_method_7_code 2 = .ok (.istore 6, 2) := by decide +kernel
theorem d3_4 : decode prog_3_method_7_code 4 = .ok (.iconst 0, 1) := by decide +kernel
theorem d3_5 : decode prog_3_method_7_code 5 = .ok (.istore 7, 2) := by decide +kernel
theorem d3_7 : decode prog_3_method_7_code 7 = .ok (.iload 7, 2) := by decide +kernel
theorem d3_9 : decode prog_3_method_7_code 9 = .ok (.iload_n 2, 1) := by decide +kernel
theorem d3_10 : decode prog_3_method_7_code 10 = .ok (.if_icmp .ge 98, 3) := by decide +kernel
theorem d3_13 : decode prog_3_method_7_code 13 = .ok (.iconst 0, 1) := by decide +kernel
theorem d3_14 : decode prog_3_method_7_code 14 = .ok (.istore 8, 2) := by decide +kernel
theorem d3_16 : decode prog_3_method_7_code 16 = .ok (.iconst 0, 1) := by decide +kernel
theorem d3_17 : decode prog_3_method_7_code 17 = .ok (.istore 9, 2) := by decide +kernel
theorem d3_19 : decode prog_3_method_7_code 19 = .ok (.iconst 0, 1) := by decide +kernel
theorem d3_20 : decode prog_3_method_7_code 20 = .ok (.istore 10, 2) := by decide +kernel
theorem d3_22 : decode prog_3_method_7_code 22 = .ok (.iload 10, 2) := by decide +kernel
theorem d3_24 : decode prog_3_method_7_code 24 = .ok (.iload_n 1, 1) := by decide +kernel
theorem d3_25 : decode prog_3_method_7_code 25 = .ok (.if_icmp .ge 55, 3) := by decide +kernel
theorem d3_28 : decode prog_3_method_7_code 28 = .ok (.iload 8, 2) := by decide +kernel
theorem d3_30 : decode prog_3_method_7_code 30 = .ok (.iload_n 3, 1) := by decide +kernel
theorem d3_31 : decode prog_3_method_7_code 31 = .ok (.ishl, 1) := by decide +kernel
theorem d3_32 : decode prog_3_method_7_code 32 = .ok (.aload_n 0, 1) := by decide +kernel
theorem d3_33 : decode prog_3_method_7_code 33 = .ok (.iload 7, 2) := by decide +kernel
theorem d3_35 : decode prog_3_method_7_code 35 = .ok (.iload_n 1, 1) := by decide +kernel
theorem d3_36 : decode prog_3_method_7_code 36 = .ok (.imul, 1) := by decide +kernel
theorem d3_37 : decode prog_3_method_7_code 37 = .ok (.iload 10, 2) := by decide +kernel
theorem d3_39 : decode prog_3_method_7_code 39 = .ok (.iadd, 1) := by decide +kernel
theorem d3_40 : decode prog_3_method_7_code 40 = .ok (.baload, 1) := by decide +kernel
theorem d3_41 : decode prog_3_method_7_code 41 = .ok (.ior, 1) := by decide +kernel
theorem d3_42 : decode prog_3_method_7_code 42 = .ok (.istore 8, 2) := by decide +kernel
theorem d3_44 : decode prog_3_method_7_code 44 = .ok (.iload 9, 2) := by decide +kernel
theorem d3_46 : decode prog_3_method_7_code 46 = .ok (.iload_n 3, 1) := by decide +kernel
theorem d3_47 : decode prog_3_method_7_code 47 = .ok (.iadd, 1) := by decide +kernel
theorem d3_48 : decode prog_3_method_7_code 48 = .ok (.istore 9, 2) := by decide +kernel
theorem d3_50 : decode prog_3_method_7_code 50 = .ok (.iload 9, 2) := by decide +kernel
theorem d3_52 : decode prog_3_method_7_code 52 = .ok (.bipush 8, 2) := by decide +kernel
theorem d3_54 : decode prog_3_method_7_code 54 = .ok (.if_icmp .ne 20, 3) := by decide +kernel
theorem d3_57 : decode prog_3_method_7_code 57 = .ok (.aload 4, 2) := by decide +kernel
theorem d3_59 : decode prog_3_method_7_code 59 = .ok (.iload 6, 2) := by decide +kernel
theorem d3_61 : decode prog_3_method_7_code 61 = .ok (.iinc 6 1, 3) := by decide +kernel
theorem d3_64 : decode prog_3_method_7_code 64 = .ok (.iload 8, 2) := by decide +kernel
theorem d3_66 : decode prog_3_method_7_code 66 = .ok (.i2b, 1) := by decide +kernel
theorem d3_67 : decode prog_3_method_7_code 67 = .ok (.bastore, 1) := by decide +kernel
theorem d3_68 : decode prog_3_method_7_code 68 = .ok (.iconst 0, 1) := by decide +kernel
theorem d3_69 : decode prog_3_method_7_code 69 = .ok (.istore 8, 2) := by decide +kernel
theorem d3_71 : decode prog_3_method_7_code 71 = .ok (.iconst 0, 1) := by decide +kernel
theorem d3_72 : decode prog_3_method_7_code 72 = .ok (.istore 9, 2) := by decide +kernel
theorem d3_74 : decode prog_3_method_7_code 74 = .ok (.iinc 10 1, 3) := by decide +kernel
theorem d3_77 : decode prog_3_method_7_code 77 = .ok (.goto (-55), 3) := by decide +kernel
theorem d3_80 : decode prog_3_method_7_code 80 = .ok (.iload 9, 2) := by decide +kernel
theorem d3_82 : decode prog_3_method_7_code 82 = .ok (.ifCond .le 20, 3) := by decide +kernel
theorem d3_85 : decode prog_3_method_7_code 85 = .ok (.aload 4, 2) := by decide +kernel
theorem d3_87 : decode prog_3_method_7_code 87 = .ok (.iload 6, 2) := by decide +kernel
theorem d3_89 : decode prog_3_method_7_code 89 = .ok (.iinc 6 1, 3) := by decide +kernel
theorem d3_92 : decode prog_3_method_7_code 92 = .ok (.iload 8, 2) := by decide +kernel
theorem d3_94 : decode prog_3_method_7_code 94 = .ok (.bipush 8, 2) := by decide +kernel
theorem d3_96 : decode prog_3_method_7_code 96 = .ok (.iload 9, 2) := by decide +kernel
theorem d3_98 : decode prog_3_method_7_code 98 = .ok (.isub, 1) := by decide +kernel
theorem d3_99 : decode prog_3_method_7_code 99 = .ok (.ishl, 1) := by decide +kernel
theorem d3_100 : decode prog_3_method_7_code 100 = .ok (.i2b, 1) := by decide +kernel
theorem d3_101 : decode prog_3_method_7_code 101 = .ok (.bastore, 1) := by decide +kernel
theorem d3_102 : decode prog_3_method_7_code 102 = .ok (.iinc 7 1, 3) := by decide +kernel
theorem d3_105 : decode prog_3_method_7_code 105 = .ok (.goto (-98), 3) := by decide +kernel
theorem d3_108 : decode prog_3_method_7_code 108 = .ok (.iload 6, 2) := by decide +kernel
theorem d3_110 : decode prog_3_method_7_code 110 = .ok (.ireturn, 1) := by decide +kernel
theorem ef_3b1 (m : MethodId) (x0 : Addr) (x1 : Int32) (x2 : Int32) (x3 : Int32) (x4 : Addr) (x5 : Int32) : entryFrame m #[(.ref x0), (.int x1), (.int x2), (.int x3), (.ref x4), (.int x5)] 11 = mkF m 0 #[.val (.ref x0), .val (.int x1), .val (.int x2), .val (.int x3), .val (.ref x4), .val (.int x5), .unset, .unset, .unset, .unset, .unset] [] := by first | (simp [entryFrame, mkF, argsToLocals, Value.category]; done) | rfl
def Q3b1 (Z : State) (a1 : Addr) (a2 : Addr) (p1 : Int32) (p2 : Int32) (p5 : Int32) (xs : List Int32) (ys : List Int32) (G : Nat → Int32) (h0 : Heap) (n0 : Nat) (v : Option Value) (h : Heap) (L : List Loc) : Prop := ∃ (r : Int32) (w2 : List Value), v = some (.int r) ∧ Fr n0 L ∧ Keep h0 h [a2] ∧ own_A Z h a2 .byte w2 ∧ (r.toInt = p5.toInt + p2.toInt * ((p1.toInt * 1 + 7) / 8)) ∧ (own_Ow ys p5.toInt.toNat (r.toInt - p5.toInt).toNat G w2)
set_option maxHeartbeats 40000000 in
theorem rm3b1 (l : Launch) (Z : State) (a0 : Array Value) (hw : ∀ d ∈ tables_1, d.before a0 Z = true) (ws : List Jvm.Cond) (a1 : Addr) (a2 : Addr) (p1 : Int32) (p2 : Int32) (p5 : Int32) (xs : List Int32) (ys : List Int32) (G : Nat → Int32) (h0 : Heap) (n0 : Nat) (Z0 : n0 ≤ h0.size) (F0 : own_A Z h0 a1 .byte (xs.map Value.int)) (F1 : own_A Z h0 a2 .byte (ys.map Value.int)) (na : a1 ≠ a2) (ga : n0 ≤ a2) (hw1 : 0 ≤ p1.toInt ∧ p1.toInt ≤ 8) (hhe : 0 ≤ p2.toInt ∧ p2.toInt ≤ 2) (ho5 : 0 ≤ p5.toInt ∧ p5.toInt ≤ 7) (hlx : xs.length = 16) (hly : ys.length = 16) (hg0 : ∀ n : Nat, (n : Int) < p1.toInt → ((n + 1) * 1) % 8 = 0 → G (0 + (n * 1) / 8) = ((own_cv 1 (1 : Int32) (fun i => xs.getD (0 + i) 0) n).toInt8.toInt32).toInt8.toInt32) (hp0 : ∀ u : Int32, u.toInt = (p1.toInt * 1) % 8 → 0 < u.toInt → G (0 + (p1.toInt.toNat * 1) / 8) = ((((own_cu 1 (1 : Int32) (fun i => xs.getD (0 + i) 0) p1.toInt.toNat) <<< (((8 : Int32) - u) &&& 31)).toInt8.toInt32).toInt8.toInt32)) (hg1 : ∀ n : Nat, (n : Int) < p1.toInt → ((n + 1) * 1) % 8 = 0 → G (((p1.toInt.toNat * 1 + 7) / 8) + (n * 1) / 8) = ((own_cv 1 (1 : Int32) (fun i => xs.getD (p1.toInt.toNat + i) 0) n).toInt8.toInt32).toInt8.toInt32) (hp1 : ∀ u : Int32, u.toInt = (p1.toInt * 1) % 8 → 0 < u.toInt → G (((p1.toInt.toNat * 1 + 7) / 8) + (p1.toInt.toNat * 1) / 8) = ((((own_cu 1 (1 : Int32) (fun i => xs.getD (p1.toInt.toNat + i) 0) p1.toInt.toNat) <<< (((8 : Int32) - u) &&& 31)).toInt8.toInt32).toInt8.toInt32)) :
    MetFree l (⟨"com/example/relayframe/relayframe/Palette", "pack", "([BIII[BI)I"⟩ : MethodName) (head1 (Jvm.Cond.code (⟨"com/example/relayframe/relayframe/Palette", "pack", "([BIII[BI)I"⟩ : MethodName) prog_3_method_7_code 11 (some .int) :: ws) ({ frames := 0, cells := 0, slots := 0, locals := 0 } : Room)) (fun a U => a = #[(.ref a1), (.int p1), (.int p2), (.int (1 : Int32)), (.ref a2), (.int p5)] ∧ Z.Warmed39 U.vm ∧ U.heap = h0) (fun _ _ _ _ _ => True) (fun _ U o U' => ∃ v L, o = .returned v ∧ Q3b1 Z a1 a2 p1 p2 p5 xs ys G h0 n0 v U'.heap L ∧ FrameEnd U o U' L ({ frames := 0, cells := 0, slots := 0, locals := 0 } : Room).cells ({ frames := 0, cells := 0, slots := 0, locals := 0 } : Room).slots) := by
  refine MetFree.of_bodySF (plainFor_of_name own_pn2) hisR ?_
  intro p e s m args below meth c s₁ Bd hml0 hP hK
  obtain ⟨rfl, hZ, hh⟩ := hP
  have hx := Bd.exec
  have hby := Bd.bytes
  have hml : c.maxLocals = 11 := hml0
  have hlk : meth.locks = false := BodyLoose.notSynchronized Bd
  have hown : s.vm.findClass "com/example/relayframe/relayframe/Palette" = some m.cls := findClass_of_methodNamed Bd.named
  have hnm := (name_of_methodNamed Bd.named Bd.method).1
  have X0 : Stand p l e ({ frames := 0, cells := 0, slots := 0, locals := 0 } : Room) s m #[(.ref a1), (.int p1), (.int p2), (.int (1 : Int32)), (.ref a2), (.int p5)] below meth c s₁ [] 0 0 := Stand.of_body Bd
  have e0 : s₁.heap = h0 := by rw [← hh, Bd.state]; rfl
  have N0 := Fr.nil n0
  show own_Go p e below s (Q3b1 Z a1 a2 p1 p2 p5 xs ys G h0 n0) ({ frames := 0, cells := 0, slots := 0, locals := 0 } : Room).cells ({ frames := 0, cells := 0, slots := 0, locals := 0 } : Room).slots _
  refine own_st (B := s₁.setTop (mkF m 0 #[(rV a1), (iV p1), (iV p2), (iV (1 : Int32)), (rV a2), (iV p5), uV, uV, uV, uV, uV] [])) (fun t k => castTop (ef_3b1 m (a1) (p1) (p2) ((1 : Int32)) (a2) (p5)) k) ?_
  refine own_st (B := s₁.setTop (mkF m 2 #[(rV a1), (iV p1), (iV p2), (iV (1 : Int32)), (rV a2), (iV p5), uV, uV, uV, uV, uV] [(.int p5)])) (fun t k => XS.iload X0.here hx rfl (hb hby d3_0) rfl k) ?_
  refine own_st (B := s₁.setTop (mkF m 4 #[(rV a1), (iV p1), (iV p2), (iV (1 : Int32)), (rV a2), (iV p5), (iV p5), uV, uV, uV, uV] [])) (fun t k => XS.istore X0.here hx rfl (hb hby d3_2) rfl (l' := #[(rV a1), (iV p1), (iV p2), (iV (1 : Int32)), (rV a2), (iV p5), (iV p5), uV, uV, uV, uV]) rfl k) ?_
  refine own_st (B := s₁.setTop (mkF m 5 #[(rV a1), (iV p1), (iV p2), (iV (1 : Int32)), (rV a2), (iV p5), (iV p5), uV, uV, uV, uV] [(.int (0 : Int32))])) (fun t k => XS.iconst X0.here hx rfl (hb hby d3_4) k) ?_
  refine own_st (B := s₁.setTop (mkF m 7 #[(rV a1), (iV p1), (iV p2), (iV (1 : Int32)), (rV a2), (iV p5), (iV p5), (iV (0 : Int32)), uV, uV, uV] [])) (fun t k => XS.istore X0.here hx rfl (hb hby d3_5) rfl (l' := #[(rV a1), (iV p1), (iV p2), (iV (1 : Int32)), (rV a2), (iV p5), (iV p5), (iV (0 : Int32)), uV, uV, uV]) rfl k) ?_
  refine own_st (B := s₁.setTop (mkF m 9 #[(rV a1), (iV p1), (iV p2), (iV (1 : Int32)), (rV a2), (iV p5), (iV p5), (iV (0 : Int32)), uV, uV, uV] [(.int (0 : Int32))])) (fun t k => XS.iload X0.here hx rfl (hb hby d3_7) rfl k) ?_
  refine own_st (B := s₁.setTop (mkF m 10 #[(rV a1), (iV p1), (iV p2), (iV (1 : Int32)), (rV a2), (iV p5), (iV p5), (iV (0 : Int32)), uV, uV, uV] [(.int p2), (.int (0 : Int32))])) (fun t k => XS.iloadN X0.here hx rfl (hb hby d3_9) rfl k) ?_
  by_cases hc1 : (0 : Int32) < p2
  · refine own_st (B := s₁.setTop (mkF m 13 #[(rV a1), (iV p1), (iV p2), (iV (1 : Int32)), (rV a2), (iV p5), (iV p5), (iV (0 : Int32)), uV, uV, uV] [])) (fun t k => XS.icmpNo X0.here hx rfl (hb hby d3_10) rfl (XT.ii_ge_f hc1) k) ?_
    refine own_st (B := s₁.setTop (mkF m 14 #[(rV a1), (iV p1), (iV p2), (iV (1 : Int32)), (rV a2), (iV p5), (iV p5), (iV (0 : Int32)), uV, uV, uV] [(.int (0 : Int32))])) (fun t k => XS.iconst X0.here hx rfl (hb hby d3_13) k) ?_
    refine own_st (B := s₁.setTop (mkF m 16 #[(rV a1), (iV p1), (iV p2), (iV (1 : Int32)), (rV a2), (iV p5), (iV p5), (iV (0 : Int32)), (iV (0 : Int32)), uV, uV] [])) (fun t k => XS.istore X0.here hx rfl (hb hby d3_14) rfl (l' := #[(rV a1), (iV p1), (iV p2), (iV (1 : Int32)), (rV a2), (iV p5), (iV p5), (iV (0 : Int32)), (iV (0 : Int32)), uV, uV]) rfl k) ?_
    refine own_st (B := s₁.setTop (mkF m 17 #[(rV a1), (iV p1), (iV p2), (iV (1 : Int32)), (rV a2), (iV p5), (iV p5), (iV (0 : Int32)), (iV (0 : Int32)), uV, uV] [(.int (0 : Int32))])) (fun t k => XS.iconst X0.here hx rfl (hb hby d3_16) k) ?_
    refine own_st (B := s₁.setTop (mkF m 19 #[(rV a1), (iV p1), (iV p2), (iV (1 : Int32)), (rV a2), (iV p5), (iV p5), (iV (0 : Int32)), (iV (0 : Int32)), (iV (0 : Int32)), uV] [])) (fun t k => XS.istore X0.here hx rfl (hb hby d3_17) rfl (l' := #[(rV a1), (iV p1), (iV p2), (iV (1 : Int32)), (rV a2), (iV p5), (iV p5), (iV (0 : Int32)), (iV (0 : Int32)), (iV (0 : Int32)), uV]) rfl k) ?_
    refine own_st (B := s₁.setTop (mkF m 20 #[(rV a1), (iV p1), (iV p2), (iV (1 : Int32)), (rV a2), (iV p5), (iV p5), (iV (0 : Int32)), (iV (0 : Int32)), (iV (0 : Int32)), uV] [(.int (0 : Int32))])) (fun t k => XS.iconst X0.here hx rfl (hb hby d3_19) k) ?_
    refine own_st (B := s₁.setTop (mkF m 22 #[(rV a1), (iV p1), (iV p2), (iV (1 : Int32)), (rV a2), (iV p5), (iV p5), (iV (0 : Int32)), (iV (0 : Int32)), (iV (0 : Int32)), (iV (0 : Int32))] [])) (fun t k => XS.istore X0.here hx rfl (hb hby d3_20) rfl (l' := #[(rV a1), (iV p1), (iV p2), (iV (1 : Int32)), (rV a2), (iV p5), (iV p5), (iV (0 : Int32)), (iV (0 : Int32)), (iV (0 : Int32)), (iV (0 : Int32))]) rfl k) ?_
    refine own_cut (P := ∀ (mu2 : Nat) (T2 : State) (lo2 : List Loc) (h2 : Heap) (oo0 : Int32) (cu0 : Int32) (us0 : Int32) (cc0 : Int32) (vv0 : List Value), Stand p l e ({ frames := 0, cells := 0, slots := 0, locals := 0 } : Room) s m #[(.ref a1), (.int p1), (.int p2), (.int (1 : Int32)), (.ref a2), (.int p5)] below meth c T2 lo2 0 0 → T2.heap = h2 → Fr n0 lo2 → n0 ≤ h2.size → Keep h0 h2 [a2] → own_A Z h2 a1 .byte (xs.map Value.int) → own_A Z h2 a2 .byte vv0 → mu2 = (p1.toInt - cc0.toInt).toNat → (0 ≤ cc0.toInt ∧ cc0.toInt ≤ p1.toInt) → (us0.toInt = (cc0.toInt * 1) % 8) → (oo0.toInt = p5.toInt + 0 + (cc0.toInt * 1) / 8) → (cu0 = own_cu 1 (1 : Int32) (fun i => xs.getD (0 + i) 0) cc0.toInt.toNat) → (own_Ow ys p5.toInt.toNat (0 + (cc0.toInt.toNat * 1) / 8) G vv0) → own_Go p e below s (Q3b1 Z a1 a2 p1 p2 p5 xs ys G h0 n0) ({ frames := 0, cells := 0, slots := 0, locals := 0 } : Room).cells ({ frames := 0, cells := 0, slots := 0, locals := 0 } : Room).slots (T2.setTop (mkF m 22 #[(rV a1), (iV p1), (iV p2), (iV (1 : Int32)), (rV a2), (iV p5), (iV oo0), (iV (0 : Int32)), (iV cu0), (iV us0), (iV cc0)] []))) (fun J2 => ?_) ?_
    · exact J2 _ s₁ _ _ p5 (0 : Int32) (0 : Int32) (0 : Int32) (ys.map Value.int) X0 e0 N0 Z0 (Keep.refl h0 [a2]) F0 F1 rfl (show 0 ≤ (0 : Int32).toInt ∧ (0 : Int32).toInt ≤ p1.toInt by have z0 : (0 : Int32).toInt = 0 := rfl; omega) (show (0 : Int32).toInt = ((0 : Int32).toInt * 1) % 8 by have z0 : (0 : Int32).toInt = 0 := rfl; omega) (show p5.toInt = p5.toInt + 0 + ((0 : Int32).toInt * 1) / 8 by have z0 : (0 : Int32).toInt = 0 := rfl; omega) (show (0 : Int32) = own_cu 1 (1 : Int32) (fun i => xs.getD (0 + i) 0) (0 : Int32).toInt.toNat by rfl) (show own_Ow ys p5.toInt.toNat (0 + ((0 : Int32).toInt.toNat * 1) / 8) G (ys.map Value.int) by have z1 : ((0 : Int32).toInt.toNat * 1) / 8 = 0 := rfl; rw [z1]; exact own_Ow.start hly)
    intro mu2
    induction mu2 using Nat.strongRecOn with
    | ind mu2 ih2 =>
      intro T2 lo2 h2 oo0 cu0 us0 cc0 vv0 X2 e2 N2 z2 kp2 lf2_0 lf2_1 hmu2 hc0 hu0 hO0 hC0 hV0
      refine own_st (B := T2.setTop (mkF m 24 #[(rV a1), (iV p1), (iV p2), (iV (1 : Int32)), (rV a2), (iV p5), (iV oo0), (iV (0 : Int32)), (iV cu0), (iV us0), (iV cc0)] [(.int cc0)])) (fun t k => XS.iload X2.here hx rfl (hb hby d3_22) rfl k) ?_
      refine own_st (B := T2.setTop (mkF m 25 #[(rV a1), (iV p1), (iV p2), (iV (1 : Int32)), (rV a2), (iV p5), (iV oo0), (iV (0 : Int32)), (iV cu0), (iV us0), (iV cc0)] [(.int p1), (.int cc0)])) (fun t k => XS.iloadN X2.here hx rfl (hb hby d3_24) rfl k) ?_
      by_cases hc3 : cc0 < p1
      · refine own_st (B := T2.setTop (mkF m 28 #[(rV a1), (iV p1), (iV p2), (iV (1 : Int32)), (rV a2), (iV p5), (iV oo0), (iV (0 : Int32)), (iV cu0), (iV us0), (iV cc0)] [])) (fun t k => XS.icmpNo X2.here hx rfl (hb hby d3_25) rfl (XT.ii_ge_f hc3) k) ?_
        refine own_st (B := T2.setTop (mkF m 30 #[(rV a1), (iV p1), (iV p2), (iV (1 : Int32)), (rV a2), (iV p5), (iV oo0), (iV (0 : Int32)), (iV cu0), (iV us0), (iV cc0)] [(.int cu0)])) (fun t k => XS.iload X2.here hx rfl (hb hby d3_28) rfl k) ?_
        refine own_st (B := T2.setTop (mkF m 31 #[(rV a1), (iV p1), (iV p2), (iV (1 : Int32)), (rV a2), (iV p5), (iV oo0), (iV (0 : Int32)), (iV cu0), (iV us0), (iV cc0)] [(.int (1 : Int32)), (.int cu0)])) (fun t k => XS.iloadN X2.here hx rfl (hb hby d3_30) rfl k) ?_
        refine own_st (B := T2.setTop (mkF m 32 #[(rV a1), (iV p1), (iV p2), (iV (1 : Int32)), (rV a2), (iV p5), (iV oo0), (iV (0 : Int32)), (iV cu0), (iV us0), (iV cc0)] [(.int (cu0 <<< ((1 : Int32) &&& 31)))])) (fun t k => XS.ishl X2.here hx rfl (hb hby d3_31) rfl k) ?_
        refine own_st (B := T2.setTop (mkF m 33 #[(rV a1), (iV p1), (iV p2), (iV (1 : Int32)), (rV a2), (iV p5), (iV oo0), (iV (0 : Int32)), (iV cu0), (iV us0), (iV cc0)] [(.ref a1), (.int (cu0 <<< ((1 : Int32) &&& 31)))])) (fun t k => XS.aloadN X2.here hx rfl (hb hby d3_32) rfl rfl k) ?_
        refine own_st (B := T2.setTop (mkF m 35 #[(rV a1), (iV p1), (iV p2), (iV (1 : Int32)), (rV a2), (iV p5), (iV oo0), (iV (0 : Int32)), (iV cu0), (iV us0), (iV cc0)] [(.int (0 : Int32)), (.ref a1), (.int (cu0 <<< ((1 : Int32) &&& 31)))])) (fun t k => XS.iload X2.here hx rfl (hb hby d3_33) rfl k) ?_
        refine own_st (B := T2.setTop (mkF m 36 #[(rV a1), (iV p1), (iV p2), (iV (1 : Int32)), (rV a2), (iV p5), (iV oo0), (iV (0 : Int32)), (iV cu0), (iV us0), (iV cc0)] [(.int p1), (.int (0 : Int32)), (.ref a1), (.int (cu0 <<< ((1 : Int32) &&& 31)))])) (fun t k => XS.iloadN X2.here hx rfl (hb hby d3_35) rfl k) ?_
        refine own_st (B := T2.setTop (mkF m 37 #[(rV a1), (iV p1), (iV p2), (iV (1 : Int32)), (rV a2), (iV p5), (iV oo0), (iV (0 : Int32)), (iV cu0), (iV us0), (iV cc0)] [(.int ((0 : Int32) * p1)), (.ref a1), (.int (cu0 <<< ((1 : Int32) &&& 31)))])) (fun t k => XS.imul X2.here hx rfl (hb hby d3_36) rfl k) ?_
        refine own_st (B := T2.setTop (mkF m 39 #[(rV a1), (iV p1), (iV p2), (iV (1 : Int32)), (rV a2), (iV p5), (iV oo0), (iV (0 : Int32)), (iV cu0), (iV us0), (iV cc0)] [(.int cc0), (.int ((0 : Int32) * p1)), (.ref a1), (.int (cu0 <<< ((1 : Int32) &&& 31)))])) (fun t k => XS.iload X2.here hx rfl (hb hby d3_37) rfl k) ?_
        refine own_st (B := T2.setTop (mkF m 40 #[(rV a1), (iV p1), (iV p2), (iV (1 : Int32)), (rV a2), (iV p5), (iV oo0), (iV (0 : Int32)), (iV cu0), (iV us0), (iV cc0)] [(.int (((0 : Int32) * p1) + cc0)), (.ref a1), (.int (cu0 <<< ((1 : Int32) &&& 31)))])) (fun t k => XS.iadd X2.here hx rfl (hb hby d3_39) rfl k) ?_
        have hltA := Int32.lt_iff_toInt_lt.mp hc3
        refine own_st (B := T2.setTop (mkF m 41 #[(rV a1), (iV p1), (iV p2), (iV (1 : Int32)), (rV a2), (iV p5), (iV oo0), (iV (0 : Int32)), (iV cu0), (iV us0), (iV cc0)] [(.int (xs.getD (0 + cc0.toInt.toNat) 0)), (.int (cu0 <<< ((1 : Int32) &&& 31)))])) (fun t k => own_ldB X2 hx hZ e2 lf2_0 (g := (mkF m 40 #[(rV a1), (iV p1), (iV p2), (iV (1 : Int32)), (rV a2), (iV p5), (iV oo0), (iV (0 : Int32)), (iV cu0), (iV us0), (iV cc0)] [(.int (((0 : Int32) * p1) + cc0)), (.ref a1), (.int (cu0 <<< ((1 : Int32) &&& 31)))])) (i := (0 + cc0.toInt.toNat)) (own_r0 hw1 (by omega)) (own_getI (by omega)) rfl rfl (hb hby d3_40) k) ?_
        refine own_st (B := T2.setTop (mkF m 42 #[(rV a1), (iV p1), (iV p2), (iV (1 : Int32)), (rV a2), (iV p5), (iV oo0), (iV (0 : Int32)), (iV cu0), (iV us0), (iV cc0)] [(.int ((cu0 <<< ((1 : Int32) &&& 31)) ||| (xs.getD (0 + cc0.toInt.toNat) 0)))])) (fun t k => XS.ior X2.here hx rfl (hb hby d3_41) rfl k) ?_
        obtain ⟨v4, ev4⟩ : ∃ z : Int32, z = ((cu0 <<< ((1 : Int32) &&& 31)) ||| (xs.getD (0 + cc0.toInt.toNat) 0)) := ⟨_, rfl⟩
        rw [← ev4]
        refine own_st (B := T2.setTop (mkF m 44 #[(rV a1), (iV p1), (iV p2), (iV (1 : Int32)), (rV a2), (iV p5), (iV oo0), (iV (0 : Int32)), (iV v4), (iV us0), (iV cc0)] [])) (fun t k => XS.istore X2.here hx rfl (hb hby d3_42) rfl (l' := #[(rV a1), (iV p1), (iV p2), (iV (1 : Int32)), (rV a2), (iV p5), (iV oo0), (iV (0 : Int32)), (iV v4), (iV us0), (iV cc0)]) rfl k) ?_
        refine own_st (B := T2.setTop (mkF m 46 #[(rV a1), (iV p1), (iV p2), (iV (1 : Int32)), (rV a2), (iV p5), (iV oo0), (iV (0 : Int32)), (iV v4), (iV us0), (iV cc0)] [(.int us0)])) (fun t k => XS.iload X2.here hx rfl (hb hby d3_44) rfl k) ?_
        refine own_st (B := T2.setTop (mkF m 47 #[(rV a1), (iV p1), (iV p2), (iV (1 : Int32)), (rV a2), (iV p5), (iV oo0), (iV (0 : Int32)), (iV v4), (iV us0), (iV cc0)] [(.int (1 : Int32)), (.int us0)])) (fun t k => XS.iloadN X2.here hx rfl (hb hby d3_46) rfl k) ?_
        refine own_st (B := T2.setTop (mkF m 48 #[(rV a1), (iV p1), (iV p2), (iV (1 : Int32)), (rV a2), (iV p5), (iV oo0), (iV (0 : Int32)), (iV v4), (iV us0), (iV cc0)] [(.int (us0 + (1 : Int32)))])) (fun t k => XS.iadd X2.here hx rfl (hb hby d3_47) rfl k) ?_
        obtain ⟨v5, ev5⟩ : ∃ z : Int32, z = (us0 + (1 : Int32)) := ⟨_, rfl⟩
        rw [← ev5]
        refine own_st (B := T2.setTop (mkF m 50 #[(rV a1), (iV p1), (iV p2), (iV (1 : Int32)), (rV a2), (iV p5), (iV oo0), (iV (0 : Int32)), (iV v4), (iV v5), (iV cc0)] [])) (fun t k => XS.istore X2.here hx rfl (hb hby d3_48) rfl (l' := #[(rV a1), (iV p1), (iV p2), (iV (1 : Int32)), (rV a2), (iV p5), (iV oo0), (iV (0 : Int32)), (iV v4), (iV v5), (iV cc0)]) rfl k) ?_
        refine own_st (B := T2.setTop (mkF m 52 #[(rV a1), (iV p1), (iV p2), (iV (1 : Int32)), (rV a2), (iV p5), (iV oo0), (iV (0 : Int32)), (iV v4), (iV v5), (iV cc0)] [(.int v5)])) (fun t k => XS.iload X2.here hx rfl (hb hby d3_50) rfl k) ?_
        refine own_st (B := T2.setTop (mkF m 54 #[(rV a1), (iV p1), (iV p2), (iV (1 : Int32)), (rV a2), (iV p5), (iV oo0), (iV (0 : Int32)), (iV v4), (iV v5), (iV cc0)] [(.int (8 : Int32)), (.int v5)])) (fun t k => XS.bipush X2.here hx rfl (hb hby d3_52) k) ?_
        by_cases hc6 : v5 = (8 : Int32)
        · refine own_st (B := T2.setTop (mkF m 57 #[(rV a1), (iV p1), (iV p2), (iV (1 : Int32)), (rV a2), (iV p5), (iV oo0), (iV (0 : Int32)), (iV v4), (iV v5), (iV cc0)] [])) (fun t k => XS.icmpNo X2.here hx rfl (hb hby d3_54) rfl (XT.ii_ne_f hc6) k) ?_
          refine own_st (B := T2.setTop (mkF m 59 #[(rV a1), (iV p1), (iV p2), (iV (1 : Int32)), (rV a2), (iV p5), (iV oo0), (iV (0 : Int32)), (iV v4), (iV v5), (iV cc0)] [(.ref a2)])) (fun t k => XS.aload X2.here hx rfl (hb hby d3_57) rfl rfl k) ?_
          refine own_st (B := T2.setTop (mkF m 61 #[(rV a1), (iV p1), (iV p2), (iV (1 : Int32)), (rV a2), (iV p5), (iV oo0), (iV (0 : Int32)), (iV v4), (iV v5), (iV cc0)] [(.int oo0), (.ref a2)])) (fun t k => XS.iload X2.here hx rfl (hb hby d3_59) rfl k) ?_
          refine own_st (B := T2.setTop (mkF m 64 #[(rV a1), (iV p1), (iV p2), (iV (1 : Int32)), (rV a2), (iV p5), (iV (oo0 + (1 : Int32))), (iV (0 : Int32)), (iV v4), (iV v5), (iV cc0)] [(.int oo0), (.ref a2)])) (fun t k => XS.iinc X2.here hx rfl (hb hby d3_61) rfl (l' := #[(rV a1), (iV p1), (iV p2), (iV (1 : Int32)), (rV a2), (iV p5), (iV (oo0 + (1 : Int32))), (iV (0 : Int32)), (iV v4), (iV v5), (iV cc0)]) rfl k) ?_
          refine own_st (B := T2.setTop (mkF m 66 #[(rV a1), (iV p1), (iV p2), (iV (1 : Int32)), (rV a2), (iV p5), (iV (oo0 + (1 : Int32))), (iV (0 : Int32)), (iV v4), (iV v5), (iV cc0)] [(.int v4), (.int oo0), (.ref a2)])) (fun t k => XS.iload X2.here hx rfl (hb hby d3_64) rfl k) ?_
          refine own_st (B := T2.setTop (mkF m 67 #[(rV a1), (iV p1), (iV p2), (iV (1 : Int32)), (rV a2), (iV p5), (iV (oo0 + (1 : Int32))), (iV (0 : Int32)), (iV v4), (iV v5), (iV cc0)] [(.int (v4.toInt8.toInt32)), (.int oo0), (.ref a2)])) (fun t k => XS.i2b X2.here hx rfl (hb hby d3_66) rfl k) ?_
          have hltB := Int32.lt_iff_toInt_lt.mp hc3
          obtain ⟨T7, h7, X7, e7, W7, A7, st7⟩ := own_stB X2 hx hZ e2 lf2_1 (j := oo0) (x := (v4.toInt8.toInt32)) (i := (oo0.toInt.toNat)) (own_nat (by omega)) (by have h9 := hV0.1; omega) (g := (mkF m 67 #[(rV a1), (iV p1), (iV p2), (iV (1 : Int32)), (rV a2), (iV p5), (iV (oo0 + (1 : Int32))), (iV (0 : Int32)), (iV v4), (iV v5), (iV cc0)] [(.int (v4.toInt8.toInt32)), (.int oo0), (.ref a2)])) rfl rfl (hb hby d3_67)
          have f7_ : own_A Z h7 a2 .byte (vv0.set (oo0.toInt.toNat) (.int ((v4.toInt8.toInt32).toInt8.toInt32))) := A7
          have z8 : n0 ≤ h7.size := Nat.le_trans z2 (Keep.of_wr W7).1
          have kp8 : Keep h0 h7 [a2] := kp2.wr W7 (Or.inl (List.mem_of_getElem? (i := 0) rfl))
          have n9 := Fr.snoc X7 N2 ga
          refine own_st (B := T7.setTop (mkF m 68 #[(rV a1), (iV p1), (iV p2), (iV (1 : Int32)), (rV a2), (iV p5), (iV (oo0 + (1 : Int32))), (iV (0 : Int32)), (iV v4), (iV v5), (iV cc0)] [])) (fun t k => st7 t k) ?_
          refine own_st (B := T7.setTop (mkF m 69 #[(rV a1), (iV p1), (iV p2), (iV (1 : Int32)), (rV a2), (iV p5), (iV (oo0 + (1 : Int32))), (iV (0 : Int32)), (iV v4), (iV v5), (iV cc0)] [(.int (0 : Int32))])) (fun t k => XS.iconst X7.here hx rfl (hb hby d3_68) k) ?_
          refine own_st (B := T7.setTop (mkF m 71 #[(rV a1), (iV p1), (iV p2), (iV (1 : Int32)), (rV a2), (iV p5), (iV (oo0 + (1 : Int32))), (iV (0 : Int32)), (iV (0 : Int32)), (iV v5), (iV cc0)] [])) (fun t k => XS.istore X7.here hx rfl (hb hby d3_69) rfl (l' := #[(rV a1), (iV p1), (iV p2), (iV (1 : Int32)), (rV a2), (iV p5), (iV (oo0 + (1 : Int32))), (iV (0 : Int32)), (iV (0 : Int32)), (iV v5), (iV cc0)]) rfl k) ?_
          refine own_st (B := T7.setTop (mkF m 72 #[(rV a1), (iV p1), (iV p2), (iV (1 : Int32)), (rV a2), (iV p5), (iV (oo0 + (1 : Int32))), (iV (0 : Int32)), (iV (0 : Int32)), (iV v5), (iV cc0)] [(.int (0 : Int32))])) (fun t k => XS.iconst X7.here hx rfl (hb hby d3_71) k) ?_
          refine own_st (B := T7.setTop (mkF m 74 #[(rV a1), (iV p1), (iV p2), (iV (1 : Int32)), (rV a2), (iV p5), (iV (oo0 + (1 : Int32))), (iV (0 : Int32)), (iV (0 : Int32)), (iV (0 : Int32)), (iV cc0)] [])) (fun t k => XS.istore X7.here hx rfl (hb hby d3_72) rfl (l' := #[(rV a1), (iV p1), (iV p2), (iV (1 : Int32)), (rV a2), (iV p5), (iV (oo0 + (1 : Int32))), (iV (0 : Int32)), (iV (0 : Int32)), (iV (0 : Int32)), (iV cc0)]) rfl k) ?_
          refine own_st (B := T7.setTop (mkF m 77 #[(rV a1), (iV p1), (iV p2), (iV (1 : Int32)), (rV a2), (iV p5), (iV (oo0 + (1 : Int32))), (iV (0 : Int32)), (iV (0 : Int32)), (iV (0 : Int32)), (iV (cc0 + (1 : Int32)))] [])) (fun t k => XS.iinc X7.here hx rfl (hb hby d3_74) rfl (l' := #[(rV a1), (iV p1), (iV p2), (iV (1 : Int32)), (rV a2), (iV p5), (iV (oo0 + (1 : Int32))), (iV (0 : Int32)), (iV (0 : Int32)), (iV (0 : Int32)), (iV (cc0 + (1 : Int32)))]) rfl k) ?_
          refine own_st (B := T7.setTop (mkF m 22 #[(rV a1), (iV p1), (iV p2), (iV (1 : Int32)), (rV a2), (iV p5), (iV (oo0 + (1 : Int32))), (iV (0 : Int32)), (iV (0 : Int32)), (iV (0 : Int32)), (iV (cc0 + (1 : Int32)))] [])) (fun t k => XS.goto X7.here hx rfl (pc0 := 77) (pc' := 22) rfl (hb hby d3_77) (by decide) (by decide) k) ?_
          have hlt := Int32.lt_iff_toInt_lt.mp hc3
          have hcc := own_inc (x := cc0) (by omega)
          have hN : (cc0 + (1 : Int32)).toInt.toNat = cc0.toInt.toNat + 1 := by rw [hcc]; omega
          have hvu : v5.toInt = us0.toInt + 1 := by rw [ev5]; have g1 := c_iadd us0 (1 : Int32); have g2 := rng32 (us0 + (1 : Int32)); have g3 : ((1 : Int32)).toInt = 1 := rfl; omega
          have hv8 : v5.toInt = 8 := own_eq8.mp hc6
          have z0 : (0 : Int32).toInt = 0 := rfl
          have hoo := own_inc (x := oo0) (by omega)
          have hcv : own_cv 1 (1 : Int32) (fun i => xs.getD (0 + i) 0) cc0.toInt.toNat = v4 := by unfold own_cv; rw [← hC0]; exact ev4.symm
          have hn1 : 0 + ((cc0 + (1 : Int32)).toInt.toNat * 1) / 8 = (0 + (cc0.toInt.toNat * 1) / 8) + 1 := by rw [hN]; omega
          have f10 : own_A Z h7 a1 .byte (xs.map Value.int) := (lf2_0.other W7 na)
          exact ih2 _ (by rw [hcc]; omega) T7 _ _ ((oo0 + (1 : Int32))) (0 : Int32) (0 : Int32) ((cc0 + (1 : Int32))) ((vv0.set (oo0.toInt.toNat) (.int ((v4.toInt8.toInt32).toInt8.toInt32)))) X7 e7 n9 z8 kp8 f10 f7_ rfl (show 0 ≤ (cc0 + (1 : Int32)).toInt ∧ (cc0 + (1 : Int32)).toInt ≤ p1.toInt by rw [hcc]; omega) (show (0 : Int32).toInt = ((cc0 + (1 : Int32)).toInt * 1) % 8 by rw [hcc]; omega) (show (oo0 + (1 : Int32)).toInt = p5.toInt + 0 + ((cc0 + (1 : Int32)).toInt * 1) / 8 by rw [hoo, hcc]; omega) (show (0 : Int32) = own_cu 1 (1 : Int32) (fun i => xs.getD (0 + i) 0) (cc0 + (1 : Int32)).toInt.toNat by rw [hN, own_cu, if_pos (by omega)]) (show own_Ow ys p5.toInt.toNat (0 + ((cc0 + (1 : Int32)).toInt.toNat * 1) / 8) G (vv0.set (oo0.toInt.toNat) (.int ((v4.toInt8.toInt32).toInt8.toInt32))) by rw [hn1]; exact hV0.step (by omega) (by omega) (by rw [hg0 _ (by omega) (by omega), hcv]))
        · refine own_st (B := T2.setTop (mkF m 74 #[(rV a1), (iV p1), (iV p2), (iV (1 : Int32)), (rV a2), (iV p5), (iV oo0), (iV (0 : Int32)), (iV v4), (iV v5), (iV cc0)] [])) (fun t k => XS.icmpYes X2.here hx rfl (pc0 := 54) (pc' := 74) rfl (hb hby d3_54) rfl (XT.ii_ne_t hc6) (by decide) (by decide) k) ?_
          refine own_st (B := T2.setTop (mkF m 77 #[(rV a1), (iV p1), (iV p2), (iV (1 : Int32)), (rV a2), (iV p5), (iV oo0), (iV (0 : Int32)), (iV v4), (iV v5), (iV (cc0 + (1 : Int32)))] [])) (fun t k => XS.iinc X2.here hx rfl (hb hby d3_74) rfl (l' := #[(rV a1), (iV p1), (iV p2), (iV (1 : Int32)), (rV a2), (iV p5), (iV oo0), (iV (0 : Int32)), (iV v4), (iV v5), (iV (cc0 + (1 : Int32)))]) rfl k) ?_
          refine own_st (B := T2.setTop (mkF m 22 #[(rV a1), (iV p1), (iV p2), (iV (1 : Int32)), (rV a2), (iV p5), (iV oo0), (iV (0 : Int32)), (iV v4), (iV v5), (iV (cc0 + (1 : Int32)))] [])) (fun t k => XS.goto X2.here hx rfl (pc0 := 77) (pc' := 22) rfl (hb hby d3_77) (by decide) (by decide) k) ?_
          have hlt := Int32.lt_iff_toInt_lt.mp hc3
          have hcc := own_inc (x := cc0) (by omega)
          have hN : (cc0 + (1 : Int32)).toInt.toNat = cc0.toInt.toNat + 1 := by rw [hcc]; omega
          have hvu : v5.toInt = us0.toInt + 1 := by rw [ev5]; have g1 := c_iadd us0 (1 : Int32); have g2 := rng32 (us0 + (1 : Int32)); have g3 : ((1 : Int32)).toInt = 1 := rfl; omega
          have hv8 : ¬ (v5.toInt = 8) := fun q => hc6 (own_eq8.mpr q)
          have z0 : (0 : Int32).toInt = 0 := rfl
          have hn1 : 0 + ((cc0 + (1 : Int32)).toInt.toNat * 1) / 8 = 0 + (cc0.toInt.toNat * 1) / 8 := by rw [hN]; omega
          exact ih2 _ (by rw [hcc]; omega) T2 _ _ oo0 v4 v5 ((cc0 + (1 : Int32))) vv0 X2 e2 N2 z2 kp2 lf2_0 lf2_1 rfl (show 0 ≤ (cc0 + (1 : Int32)).toInt ∧ (cc0 + (1 : Int32)).toInt ≤ p1.toInt by rw [hcc]; omega) (show v5.toInt = ((cc0 + (1 : Int32)).toInt * 1) % 8 by rw [hcc]; omega) (show oo0.toInt = p5.toInt + 0 + ((cc0 + (1 : Int32)).toInt * 1) / 8 by rw [hcc]; omega) (show v4 = own_cu 1 (1 : Int32) (fun i => xs.getD (0 + i) 0) (cc0 + (1 : Int32)).toInt.toNat by rw [hN, own_cu, if_neg (by omega), ← hC0]; exact ev4) (show own_Ow ys p5.toInt.toNat (0 + ((cc0 + (1 : Int32)).toInt.toNat * 1) / 8) G vv0 by rw [hn1]; exact hV0)
      · refine own_st (B := T2.setTop (mkF m 80 #[(rV a1), (iV p1), (iV p2), (iV (1 : Int32)), (rV a2), (iV p5), (iV oo0), (iV (0 : Int32)), (iV cu0), (iV us0), (iV cc0)] [])) (fun t k => XS.icmpYes X2.here hx rfl (pc0 := 25) (pc' := 80) rfl (hb hby d3_25) rfl (XT.ii_ge_t hc3) (by decide) (by decide) k) ?_
        have hcw : cc0.toInt = p1.toInt := by have h9 : ¬ _ := fun q => hc3 (Int32.lt_iff_toInt_lt.mpr q); omega
        have hcn : cc0.toInt.toNat = p1.toInt.toNat := by rw [hcw]
        refine own_cut (P := ∀ (T11 : State) (lo11 : List Loc) (h11 : Heap) (om0 : Int32) (vm0 : List Value), Stand p l e ({ frames := 0, cells := 0, slots := 0, locals := 0 } : Room) s m #[(.ref a1), (.int p1), (.int p2), (.int (1 : Int32)), (.ref a2), (.int p5)] below meth c T11 lo11 0 0 → T11.heap = h11 → Fr n0 lo11 → n0 ≤ h11.size → Keep h0 h11 [a2] → own_A Z h11 a1 .byte (xs.map Value.int) → own_A Z h11 a2 .byte vm0 → (om0.toInt = p5.toInt + 0 + ((p1.toInt * 1 + 7) / 8)) → (own_Ow ys p5.toInt.toNat (0 + ((p1.toInt.toNat * 1 + 7) / 8)) G vm0) → own_Go p e below s (Q3b1 Z a1 a2 p1 p2 p5 xs ys G h0 n0) ({ frames := 0, cells := 0, slots := 0, locals := 0 } : Room).cells ({ frames := 0, cells := 0, slots := 0, locals := 0 } : Room).slots (T11.setTop (mkF m 102 #[(rV a1), (iV p1), (iV p2), (iV (1 : Int32)), (rV a2), (iV p5), (iV om0), (iV (0 : Int32)), (iV cu0), (iV us0), (iV cc0)] []))) (fun J11 => ?_) ?_
        · refine own_st (B := T2.setTop (mkF m 82 #[(rV a1), (iV p1), (iV p2), (iV (1 : Int32)), (rV a2), (iV p5), (iV oo0), (iV (0 : Int32)), (iV cu0), (iV us0), (iV cc0)] [(.int us0)])) (fun t k => XS.iload X2.here hx rfl (hb hby d3_80) rfl k) ?_
          by_cases hc12 : (0 : Int32) < us0
          · refine own_st (B := T2.setTop (mkF m 85 #[(rV a1), (iV p1), (iV p2), (iV (1 : Int32)), (rV a2), (iV p5), (iV oo0), (iV (0 : Int32)), (iV cu0), (iV us0), (iV cc0)] [])) (fun t k => XS.ifNo X2.here hx rfl (hb hby d3_82) rfl (XT.i0_le_f hc12) k) ?_
            refine own_st (B := T2.setTop (mkF m 87 #[(rV a1), (iV p1), (iV p2), (iV (1 : Int32)), (rV a2), (iV p5), (iV oo0), (iV (0 : Int32)), (iV cu0), (iV us0), (iV cc0)] [(.ref a2)])) (fun t k => XS.aload X2.here hx rfl (hb hby d3_85) rfl rfl k) ?_
            refine own_st (B := T2.setTop (mkF m 89 #[(rV a1), (iV p1), (iV p2), (iV (1 : Int32)), (rV a2), (iV p5), (iV oo0), (iV (0 : Int32)), (iV cu0), (iV us0), (iV cc0)] [(.int oo0), (.ref a2)])) (fun t k => XS.iload X2.here hx rfl (hb hby d3_87) rfl k) ?_
            refine own_st (B := T2.setTop (mkF m 92 #[(rV a1), (iV p1), (iV p2), (iV (1 : Int32)), (rV a2), (iV p5), (iV (oo0 + (1 : Int32))), (iV (0 : Int32)), (iV cu0), (iV us0), (iV cc0)] [(.int oo0), (.ref a2)])) (fun t k => XS.iinc X2.here hx rfl (hb hby d3_89) rfl (l' := #[(rV a1), (iV p1), (iV p2), (iV (1 : Int32)), (rV a2), (iV p5), (iV (oo0 + (1 : Int32))), (iV (0 : Int32)), (iV cu0), (iV us0), (iV cc0)]) rfl k) ?_
            refine own_st (B := T2.setTop (mkF m 94 #[(rV a1), (iV p1), (iV p2), (iV (1 : Int32)), (rV a2), (iV p5), (iV (oo0 + (1 : Int32))), (iV (0 : Int32)), (iV cu0), (iV us0), (iV cc0)] [(.int cu0), (.int oo0), (.ref a2)])) (fun t k => XS.iload X2.here hx rfl (hb hby d3_92) rfl k) ?_
            refine own_st (B := T2.setTop (mkF m 96 #[(rV a1), (iV p1), (iV p2), (iV (1 : Int32)), (rV a2), (iV p5), (iV (oo0 + (1 : Int32))), (iV (0 : Int32)), (iV cu0), (iV us0), (iV cc0)] [(.int (8 : Int32)), (.int cu0), (.int oo0), (.ref a2)])) (fun t k => XS.bipush X2.here hx rfl (hb hby d3_94) k) ?_
            refine own_st (B := T2.setTop (mkF m 98 #[(rV a1), (iV p1), (iV p2), (iV (1 : Int32)), (rV a2), (iV p5), (iV (oo0 + (1 : Int32))), (iV (0 : Int32)), (iV cu0), (iV us0), (iV cc0)] [(.int us0), (.int (8 : Int32)), (.int cu0), (.int oo0), (.ref a2)])) (fun t k => XS.iload X2.here hx rfl (hb hby d3_96) rfl k) ?_
            refine own_st (B := T2.setTop (mkF m 99 #[(rV a1), (iV p1), (iV p2), (iV (1 : Int32)), (rV a2), (iV p5), (iV (oo0 + (1 : Int32))), (iV (0 : Int32)), (iV cu0), (iV us0), (iV cc0)] [(.int ((8 : Int32) - us0)), (.int cu0), (.int oo0), (.ref a2)])) (fun t k => XS.isub X2.here hx rfl (hb hby d3_98) rfl k) ?_
            refine own_st (B := T2.setTop (mkF m 100 #[(rV a1), (iV p1), (iV p2), (iV (1 : Int32)), (rV a2), (iV p5), (iV (oo0 + (1 : Int32))), (iV (0 : Int32)), (iV cu0), (iV us0), (iV cc0)] [(.int (cu0 <<< (((8 : Int32) - us0) &&& 31))), (.int oo0), (.ref a2)])) (fun t k => XS.ishl X2.here hx rfl (hb hby d3_99) rfl k) ?_
            refine own_st (B := T2.setTop (mkF m 101 #[(rV a1), (iV p1), (iV p2), (iV (1 : Int32)), (rV a2), (iV p5), (iV (oo0 + (1 : Int32))), (iV (0 : Int32)), (iV cu0), (iV us0), (iV cc0)] [(.int ((cu0 <<< (((8 : Int32) - us0) &&& 31)).toInt8.toInt32)), (.int oo0), (.ref a2)])) (fun t k => XS.i2b X2.here hx rfl (hb hby d3_100) rfl k) ?_
            obtain ⟨T13, h13, X13, e13, W13, A13, st13⟩ := own_stB X2 hx hZ e2 lf2_1 (j := oo0) (x := ((cu0 <<< (((8 : Int32) - us0) &&& 31)).toInt8.toInt32)) (i := (oo0.toInt.toNat)) (own_nat (by omega)) (by have h9 := hV0.1; omega) (g := (mkF m 101 #[(rV a1), (iV p1), (iV p2), (iV (1 : Int32)), (rV a2), (iV p5), (iV (oo0 + (1 : Int32))), (iV (0 : Int32)), (iV cu0), (iV us0), (iV cc0)] [(.int ((cu0 <<< (((8 : Int32) - us0) &&& 31)).toInt8.toInt32)), (.int oo0), (.ref a2)])) rfl rfl (hb hby d3_101)
            have f13_ : own_A Z h13 a2 .byte (vv0.set (oo0.toInt.toNat) (.int (((cu0 <<< (((8 : Int32) - us0) &&& 31)).toInt8.toInt32).toInt8.toInt32))) := A13
            have z14 : n0 ≤ h13.size := Nat.le_trans z2 (Keep.of_wr W13).1
            have kp14 : Keep h0 h13 [a2] := kp2.wr W13 (Or.inl (List.mem_of_getElem? (i := 0) rfl))
            have n15 := Fr.snoc X13 N2 ga
            refine own_st (B := T13.setTop (mkF m 102 #[(rV a1), (iV p1), (iV p2), (iV (1 : Int32)), (rV a2), (iV p5), (iV (oo0 + (1 : Int32))), (iV (0 : Int32)), (iV cu0), (iV us0), (iV cc0)] [])) (fun t k => st13 t k) ?_
            have f16 : own_A Z h13 a1 .byte (xs.map Value.int) := (lf2_0.other W13 na)
            have z0 : (0 : Int32).toInt = 0 := rfl
            have hup := Int32.lt_iff_toInt_lt.mp hc12
            have hoo := own_inc (x := oo0) (by omega)
            have hn1 : 0 + ((p1.toInt.toNat * 1 + 7) / 8) = (0 + (cc0.toInt.toNat * 1) / 8) + 1 := by rw [hcn]; omega
            exact J11 T13 _ _ ((oo0 + (1 : Int32))) ((vv0.set (oo0.toInt.toNat) (.int (((cu0 <<< (((8 : Int32) - us0) &&& 31)).toInt8.toInt32).toInt8.toInt32)))) X13 e13 n15 z14 kp14 f16 f13_ (show (oo0 + (1 : Int32)).toInt = p5.toInt + 0 + ((p1.toInt * 1 + 7) / 8) by rw [hoo]; omega) (show own_Ow ys p5.toInt.toNat (0 + ((p1.toInt.toNat * 1 + 7) / 8)) G (vv0.set (oo0.toInt.toNat) (.int (((cu0 <<< (((8 : Int32) - us0) &&& 31)).toInt8.toInt32).toInt8.toInt32))) by rw [hn1]; exact hV0.step (by omega) (by omega) (by rw [hC0, hcn]; exact hp0 us0 (by rw [← hcw]; exact hu0) (by omega)))
          · refine own_st (B := T2.setTop (mkF m 102 #[(rV a1), (iV p1), (iV p2), (iV (1 : Int32)), (rV a2), (iV p5), (iV oo0), (iV (0 : Int32)), (iV cu0), (iV us0), (iV cc0)] [])) (fun t k => XS.ifYes X2.here hx rfl (pc0 := 82) (pc' := 102) rfl (hb hby d3_82) rfl (XT.i0_le_t hc12) (by decide) (by decide) k) ?_
            have z0 : (0 : Int32).toInt = 0 := rfl
            have hup : ¬ (0 < us0.toInt) := fun q => hc12 (Int32.lt_iff_toInt_lt.mpr (by rw [z0]; exact q))
            have hn1 : 0 + ((p1.toInt.toNat * 1 + 7) / 8) = 0 + (cc0.toInt.toNat * 1) / 8 := by rw [hcn]; omega
            exact J11 T2 _ _ oo0 vv0 X2 e2 N2 z2 kp2 lf2_0 lf2_1 (show oo0.toInt = p5.toInt + 0 + ((p1.toInt * 1 + 7) / 8) by omega) (show own_Ow ys p5.toInt.toNat (0 + ((p1.toInt.toNat * 1 + 7) / 8)) G vv0 by rw [hn1]; exact hV0)
        intro T11 lo11 h11 om0 vm0 X11 e11 N11 z11 kp11 lf11_0 lf11_1 hE0 hF0
        rw [Int.add_zero] at hE0
        rw [Nat.zero_add] at hF0
        refine own_st (B := T11.setTop (mkF m 105 #[(rV a1), (iV p1), (iV p2), (iV (1 : Int32)), (rV a2), (iV p5), (iV om0), (iV ((0 : Int32) + (1 : Int32))), (iV cu0), (iV us0), (iV cc0)] [])) (fun t k => XS.iinc X11.here hx rfl (hb hby d3_102) rfl (l' := #[(rV a1), (iV p1), (iV p2), (iV (1 : Int32)), (rV a2), (iV p5), (iV om0), (iV ((0 : Int32) + (1 : Int32))), (iV cu0), (iV us0), (iV cc0)]) rfl k) ?_
        refine own_st (B := T11.setTop (mkF m 7 #[(rV a1), (iV p1), (iV p2), (iV (1 : Int32)), (rV a2), (iV p5), (iV om0), (iV ((0 : Int32) + (1 : Int32))), (iV cu0), (iV us0), (iV cc0)] [])) (fun t k => XS.goto X11.here hx rfl (pc0 := 105) (pc' := 7) rfl (hb hby d3_105) (by decide) (by decide) k) ?_
        rw [show ((0 : Int32) + (1 : Int32)) = (1 : Int32) from by decide]
        refine own_st (B := T11.setTop (mkF m 9 #[(rV a1), (iV p1), (iV p2), (iV (1 : Int32)), (rV a2), (iV p5), (iV om0), (iV (1 : Int32)), (iV cu0), (iV us0), (iV cc0)] [(.int (1 : Int32))])) (fun t k => XS.iload X11.here hx rfl (hb hby d3_7) rfl k) ?_
        refine own_st (B := T11.setTop (mkF m 10 #[(rV a1), (iV p1), (iV p2), (iV (1 : Int32)), (rV a2), (iV p5), (iV om0), (iV (1 : Int32)), (iV cu0), (iV us0), (iV cc0)] [(.int p2), (.int (1 : Int32))])) (fun t k => XS.iloadN X11.here hx rfl (hb hby d3_9) rfl k) ?_
        by_cases hc17 : (1 : Int32) < p2
        · refine own_st (B := T11.setTop (mkF m 13 #[(rV a1), (iV p1), (iV p2), (iV (1 : Int32)), (rV a2), (iV p5), (iV om0), (iV (1 : Int32)), (iV cu0), (iV us0), (iV cc0)] [])) (fun t k => XS.icmpNo X11.here hx rfl (hb hby d3_10) rfl (XT.ii_ge_f hc17) k) ?_
          refine own_st (B := T11.setTop (mkF m 14 #[(rV a1), (iV p1), (iV p2), (iV (1 : Int32)), (rV a2), (iV p5), (iV om0), (iV (1 : Int32)), (iV cu0), (iV us0), (iV cc0)] [(.int (0 : Int32))])) (fun t k => XS.iconst X11.here hx rfl (hb hby d3_13) k) ?_
          refine own_st (B := T11.setTop (mkF m 16 #[(rV a1), (iV p1), (iV p2), (iV (1 : Int32)), (rV a2), (iV p5), (iV om0), (iV (1 : Int32)), (iV (0 : Int32)), (iV us0), (iV cc0)] [])) (fun t k => XS.istore X11.here hx rfl (hb hby d3_14) rfl (l' := #[(rV a1), (iV p1), (iV p2), (iV (1 : Int32)), (rV a2), (iV p5), (iV om0), (iV (1 : Int32)), (iV (0 : Int32)), (iV us0), (iV cc0)]) rfl k) ?_
          refine own_st (B := T11.setTop (mkF m 17 #[(rV a1), (iV p1), (iV p2), (iV (1 : Int32)), (rV a2), (iV p5), (iV om0), (iV (1 : Int32)), (iV (0 : Int32)), (iV us0), (iV cc0)] [(.int (0 : Int32))])) (fun t k => XS.iconst X11.here hx rfl (hb hby d3_16) k) ?_
          refine own_st (B := T11.setTop (mkF m 19 #[(rV a1), (iV p1), (iV p2), (iV (1 : Int32)), (rV a2), (iV p5), (iV om0), (iV (1 : Int32)), (iV (0 : Int32)), (iV (0 : Int32)), (iV cc0)] [])) (fun t k => XS.istore X11.here hx rfl (hb hby d3_17) rfl (l' := #[(rV a1), (iV p1), (iV p2), (iV (1 : Int32)), (rV a2), (iV p5), (iV om0), (iV (1 : Int32)), (iV (0 : Int32)), (iV (0 : Int32)), (iV cc0)]) rfl k) ?_
          refine own_st (B := T11.setTop (mkF m 20 #[(rV a1), (iV p1), (iV p2), (iV (1 : Int32)), (rV a2), (iV p5), (iV om0), (iV (1 : Int32)), (iV (0 : Int32)), (iV (0 : Int32)), (iV cc0)] [(.int (0 : Int32))])) (fun t k => XS.iconst X11.here hx rfl (hb hby d3_19) k) ?_
          refine own_st (B := T11.setTop (mkF m 22 #[(rV a1), (iV p1), (iV p2), (iV (1 : Int32)), (rV a2), (iV p5), (iV om0), (iV (1 : Int32)), (iV (0 : Int32)), (iV (0 : Int32)), (iV (0 : Int32))] [])) (fun t k => XS.istore X11.here hx rfl (hb hby d3_20) rfl (l' := #[(rV a1), (iV p1), (iV p2), (iV (1 : Int32)), (rV a2), (iV p5), (iV om0), (iV (1 : Int32)), (iV (0 : Int32)), (iV (0 : Int32)), (iV (0 : Int32))]) rfl k) ?_
          refine own_cut (P := ∀ (mu18 : Nat) (T18 : State) (lo18 : List Loc) (h18 : Heap) (oo1 : Int32) (cu1 : Int32) (us1 : Int32) (cc1 : Int32) (vv1 : List Value), Stand p l e ({ frames := 0, cells := 0, slots := 0, locals := 0 } : Room) s m #[(.ref a1), (.int p1), (.int p2), (.int (1 : Int32)), (.ref a2), (.int p5)] below meth c T18 lo18 0 0 → T18.heap = h18 → Fr n0 lo18 → n0 ≤ h18.size → Keep h0 h18 [a2] → own_A Z h18 a1 .byte (xs.map Value.int) → own_A Z h18 a2 .byte vv1 → mu18 = (p1.toInt - cc1.toInt).toNat → (0 ≤ cc1.toInt ∧ cc1.toInt ≤ p1.toInt) → (us1.toInt = (cc1.toInt * 1) % 8) → (oo1.toInt = p5.toInt + ((p1.toInt * 1 + 7) / 8) + (cc1.toInt * 1) / 8) → (cu1 = own_cu 1 (1 : Int32) (fun i => xs.getD (p1.toInt.toNat + i) 0) cc1.toInt.toNat) → (own_Ow ys p5.toInt.toNat (((p1.toInt.toNat * 1 + 7) / 8) + (cc1.toInt.toNat * 1) / 8) G vv1) → own_Go p e below s (Q3b1 Z a1 a2 p1 p2 p5 xs ys G h0 n0) ({ frames := 0, cells := 0, slots := 0, locals := 0 } : Room).cells ({ frames := 0, cells := 0, slots := 0, locals := 0 } : Room).slots (T18.setTop (mkF m 22 #[(rV a1), (iV p1), (iV p2), (iV (1 : Int32)), (rV a2), (iV p5), (iV oo1), (iV (1 : Int32)), (iV cu1), (iV us1), (iV cc1)] []))) (fun J18 => ?_) ?_
          · exact J18 _ T11 _ _ om0 (0 : Int32) (0 : Int32) (0 : Int32) vm0 X11 e11 N11 z11 kp11 lf11_0 lf11_1 rfl (show 0 ≤ (0 : Int32).toInt ∧ (0 : Int32).toInt ≤ p1.toInt by have z0 : (0 : Int32).toInt = 0 := rfl; omega) (show (0 : Int32).toInt = ((0 : Int32).toInt * 1) % 8 by have z0 : (0 : Int32).toInt = 0 := rfl; omega) (show om0.toInt = p5.toInt + ((p1.toInt * 1 + 7) / 8) + ((0 : Int32).toInt * 1) / 8 by have z0 : (0 : Int32).toInt = 0 := rfl; have z2 := hE0; omega) (show (0 : Int32) = own_cu 1 (1 : Int32) (fun i => xs.getD (p1.toInt.toNat + i) 0) (0 : Int32).toInt.toNat by rfl) (show own_Ow ys p5.toInt.toNat (((p1.toInt.toNat * 1 + 7) / 8) + ((0 : Int32).toInt.toNat * 1) / 8) G vm0 by have z1 : ((0 : Int32).toInt.toNat * 1) / 8 = 0 := rfl; rw [z1]; exact hF0)
          intro mu18
          induction mu18 using Nat.strongRecOn with
          | ind mu18 ih18 =>
            intro T18 lo18 h18 oo1 cu1 us1 cc1 vv1 X18 e18 N18 z18 kp18 lf18_0 lf18_1 hmu18 hc1 hu1 hO1 hC1 hV1
            refine own_st (B := T18.setTop (mkF m 24 #[(rV a1), (iV p1), (iV p2), (iV (1 : Int32)), (rV a2), (iV p5), (iV oo1), (iV (1 : Int32)), (iV cu1), (iV us1), (iV cc1)] [(.int cc1)])) (fun t k => XS.iload X18.here hx rfl (hb hby d3_22) rfl k) ?_
            refine own_st (B := T18.setTop (mkF m 25 #[(rV a1), (iV p1), (iV p2), (iV (1 : Int32)), (rV a2), (iV p5), (iV oo1), (iV (1 : Int32)), (iV cu1), (iV us1), (iV cc1)] [(.int p1), (.int cc1)])) (fun t k => XS.iloadN X18.here hx rfl (hb hby d3_24) rfl k) ?_
            by_cases hc19 : cc1 < p1
            · refine own_st (B := T18.setTop (mkF m 28 #[(rV a1), (iV p1), (iV p2), (iV (1 : Int32)), (rV a2), (iV p5), (iV oo1), (iV (1 : Int32)), (iV cu1), (iV us1), (iV cc1)] [])) (fun t k => XS.icmpNo X18.here hx rfl (hb hby d3_25) rfl (XT.ii_ge_f hc19) k) ?_
              refine own_st (B := T18.setTop (mkF m 30 #[(rV a1), (iV p1), (iV p2), (iV (1 : Int32)), (rV a2), (iV p5), (iV oo1), (iV (1 : Int32)), (iV cu1), (iV us1), (iV cc1)] [(.int cu1)])) (fun t k => XS.iload X18.here hx rfl (hb hby d3_28) rfl k) ?_
              refine own_st (B := T18.setTop (mkF m 31 #[(rV a1), (iV p1), (iV p2), (iV (1 : Int32)), (rV a2), (iV p5), (iV oo1), (iV (1 : Int32)), (iV cu1), (iV us1), (iV cc1)] [(.int (1 : Int32)), (.int cu1)])) (fun t k => XS.iloadN X18.here hx rfl (hb hby d3_30) rfl k) ?_
              refine own_st (B := T18.setTop (mkF m 32 #[(rV a1), (iV p1), (iV p2), (iV (1 : Int32)), (rV a2), (iV p5), (iV oo1), (iV (1 : Int32)), (iV cu1), (iV us1), (iV cc1)] [(.int (cu1 <<< ((1 : Int32) &&& 31)))])) (fun t k => XS.ishl X18.here hx rfl (hb hby d3_31) rfl k) ?_
              refine own_st (B := T18.setTop (mkF m 33 #[(rV a1), (iV p1), (iV p2), (iV (1 : Int32)), (rV a2), (iV p5), (iV oo1), (iV (1 : Int32)), (iV cu1), (iV us1), (iV cc1)] [(.ref a1), (.int (cu1 <<< ((1 : Int32) &&& 31)))])) (fun t k => XS.aloadN X18.here hx rfl (hb hby d3_32) rfl rfl k) ?_
              refine own_st (B := T18.setTop (mkF m 35 #[(rV a1), (iV p1), (iV p2), (iV (1 : Int32)), (rV a2), (iV p5), (iV oo1), (iV (1 : Int32)), (iV cu1), (iV us1), (iV cc1)] [(.int (1 : Int32)), (.ref a1), (.int (cu1 <<< ((1 : Int32) &&& 31)))])) (fun t k => XS.iload X18.here hx rfl (hb hby d3_33) rfl k) ?_
              refine own_st (B := T18.setTop (mkF m 36 #[(rV a1), (iV p1), (iV p2), (iV (1 : Int32)), (rV a2), (iV p5), (iV oo1), (iV (1 : Int32)), (iV cu1), (iV us1), (iV cc1)] [(.int p1), (.int (1 : Int32)), (.ref a1), (.int (cu1 <<< ((1 : Int32) &&& 31)))])) (fun t k => XS.iloadN X18.here hx rfl (hb hby d3_35) rfl k) ?_
              refine own_st (B := T18.setTop (mkF m 37 #[(rV a1), (iV p1), (iV p2), (iV (1 : Int32)), (rV a2), (iV p5), (iV oo1), (iV (1 : Int32)), (iV cu1), (iV us1), (iV cc1)] [(.int ((1 : Int32) * p1)), (.ref a1), (.int (cu1 <<< ((1 : Int32) &&& 31)))])) (fun t k => XS.imul X18.here hx rfl (hb hby d3_36) rfl k) ?_
              refine own_st (B := T18.setTop (mkF m 39 #[(rV a1), (iV p1), (iV p2), (iV (1 : Int32)), (rV a2), (iV p5), (iV oo1), (iV (1 : Int32)), (iV cu1), (iV us1), (iV cc1)] [(.int cc1), (.int ((1 : Int32) * p1)), (.ref a1), (.int (cu1 <<< ((1 : Int32) &&& 31)))])) (fun t k => XS.iload X18.here hx rfl (hb hby d3_37) rfl k) ?_
              refine own_st (B := T18.setTop (mkF m 40 #[(rV a1), (iV p1), (iV p2), (iV (1 : Int32)), (rV a2), (iV p5), (iV oo1), (iV (1 : Int32)), (iV cu1), (iV us1), (iV cc1)] [(.int (((1 : Int32) * p1) + cc1)), (.ref a1), (.int (cu1 <<< ((1 : Int32) &&& 31)))])) (fun t k => XS.iadd X18.here hx rfl (hb hby d3_39) rfl k) ?_
              have hltA := Int32.lt_iff_toInt_lt.mp hc19
              refine own_st (B := T18.setTop (mkF m 41 #[(rV a1), (iV p1), (iV p2), (iV (1 : Int32)), (rV a2), (iV p5), (iV oo1), (iV (1 : Int32)), (iV cu1), (iV us1), (iV cc1)] [(.int (xs.getD (p1.toInt.toNat + cc1.toInt.toNat) 0)), (.int (cu1 <<< ((1 : Int32) &&& 31)))])) (fun t k => own_ldB X18 hx hZ e18 lf18_0 (g := (mkF m 40 #[(rV a1), (iV p1), (iV p2), (iV (1 : Int32)), (rV a2), (iV p5), (iV oo1), (iV (1 : Int32)), (iV cu1), (iV us1), (iV cc1)] [(.int (((1 : Int32) * p1) + cc1)), (.ref a1), (.int (cu1 <<< ((1 : Int32) &&& 31)))])) (i := (p1.toInt.toNat + cc1.toInt.toNat)) (own_r1 hw1 (by omega)) (own_getI (by omega)) rfl rfl (hb hby d3_40) k) ?_
              refine own_st (B := T18.setTop (mkF m 42 #[(rV a1), (iV p1), (iV p2), (iV (1 : Int32)), (rV a2), (iV p5), (iV oo1), (iV (1 : Int32)), (iV cu1), (iV us1), (iV cc1)] [(.int ((cu1 <<< ((1 : Int32) &&& 31)) ||| (xs.getD (p1.toInt.toNat + cc1.toInt.toNat) 0)))])) (fun t k => XS.ior X18.here hx rfl (hb hby d3_41) rfl k) ?_
              obtain ⟨v20, ev20⟩ : ∃ z : Int32, z = ((cu1 <<< ((1 : Int32) &&& 31)) ||| (xs.getD (p1.toInt.toNat + cc1.toInt.toNat) 0)) := ⟨_, rfl⟩
              rw [← ev20]
              refine own_st (B := T18.setTop (mkF m 44 #[(rV a1), (iV p1), (iV p2), (iV (1 : Int32)), (rV a2), (iV p5), (iV oo1), (iV (1 : Int32)), (iV v20), (iV us1), (iV cc1)] [])) (fun t k => XS.istore X18.here hx rfl (hb hby d3_42) rfl (l' := #[(rV a1), (iV p1), (iV p2), (iV (1 : Int32)), (rV a2), (iV p5), (iV oo1), (iV (1 : Int32)), (iV v20), (iV us1), (iV cc1)]) rfl k) ?_
              refine own_st (B := T18.setTop (mkF m 46 #[(rV a1), (iV p1), (iV p2), (iV (1 : Int32)), (rV a2), (iV p5), (iV oo1), (iV (1 : Int32)), (iV v20), (iV us1), (iV cc1)] [(.int us1)])) (fun t k => XS.iload X18.here hx rfl (hb hby d3_44) rfl k) ?_
              refine own_st (B := T18.setTop (mkF m 47 #[(rV a1), (iV p1), (iV p2), (iV (1 : Int32)), (rV a2), (iV p5), (iV oo1), (iV (1 : Int32)), (iV v20), (iV us1), (iV cc1)] [(.int (1 : Int32)), (.int us1)])) (fun t k => XS.iloadN X18.here hx rfl (hb hby d3_46) rfl k) ?_
              refine own_st (B := T18.setTop (mkF m 48 #[(rV a1), (iV p1), (iV p2), (iV (1 : Int32)), (rV a2), (iV p5), (iV oo1), (iV (1 : Int32)), (iV v20), (iV us1), (iV cc1)] [(.int (us1 + (1 : Int32)))])) (fun t k => XS.iadd X18.here hx rfl (hb hby d3_47) rfl k) ?_
              obtain ⟨v21, ev21⟩ : ∃ z : Int32, z = (us1 + (1 : Int32)) := ⟨_, rfl⟩
              rw [← ev21]
              refine own_st (B := T18.setTop (mkF m 50 #[(rV a1), (iV p1), (iV p2), (iV (1 : Int32)), (rV a2), (iV p5), (iV oo1), (iV (1 : Int32)), (iV v20), (iV v21), (iV cc1)] [])) (fun t k => XS.istore X18.here hx rfl (hb hby d3_48) rfl (l' := #[(rV a1), (iV p1), (iV p2), (iV (1 : Int32)), (rV a2), (iV p5), (iV oo1), (iV (1 : Int32)), (iV v20), (iV v21), (iV cc1)]) rfl k) ?_
              refine own_st (B := T18.setTop (mkF m 52 #[(rV a1), (iV p1), (iV p2), (iV (1 : Int32)), (rV a2), (iV p5), (iV oo1), (iV (1 : Int32)), (iV v20), (iV v21), (iV cc1)] [(.int v21)])) (fun t k => XS.iload X18.here hx rfl (hb hby d3_50) rfl k) ?_
              refine own_st (B := T18.setTop (mkF m 54 #[(rV a1), (iV p1), (iV p2), (iV (1 : Int32)), (rV a2), (iV p5), (iV oo1), (iV (1 : Int32)), (iV v20), (iV v21), (iV cc1)] [(.int (8 : Int32)), (.int v21)])) (fun t k => XS.bipush X18.here hx rfl (hb hby d3_52) k) ?_
              by_cases hc22 : v21 = (8 : Int32)
              · refine own_st (B := T18.setTop (mkF m 57 #[(rV a1), (iV p1), (iV p2), (iV (1 : Int32)), (rV a2), (iV p5), (iV oo1), (iV (1 : Int32)), (iV v20), (iV v21), (iV cc1)] [])) (fun t k => XS.icmpNo X18.here hx rfl (hb hby d3_54) rfl (XT.ii_ne_f hc22) k) ?_
                refine own_st (B := T18.setTop (mkF m 59 #[(rV a1), (iV p1), (iV p2), (iV (1 : Int32)), (rV a2), (iV p5), (iV oo1), (iV (1 : Int32)), (iV v20), (iV v21), (iV cc1)] [(.ref a2)])) (fun t k => XS.aload X18.here hx rfl (hb hby d3_57) rfl rfl k) ?_
                refine own_st (B := T18.setTop (mkF m 61 #[(rV a1), (iV p1), (iV p2), (iV (1 : Int32)), (rV a2), (iV p5), (iV oo1), (iV (1 : Int32)), (iV v20), (iV v21), (iV cc1)] [(.int oo1), (.ref a2)])) (fun t k => XS.iload X18.here hx rfl (hb hby d3_59) rfl k) ?_
                refine own_st (B := T18.setTop (mkF m 64 #[(rV a1), (iV p1), (iV p2), (iV (1 : Int32)), (rV a2), (iV p5), (iV (oo1 + (1 : Int32))), (iV (1 : Int32)), (iV v20), (iV v21), (iV cc1)] [(.int oo1), (.ref a2)])) (fun t k => XS.iinc X18.here hx rfl (hb hby d3_61) rfl (l' := #[(rV a1), (iV p1), (iV p2), (iV (1 : Int32)), (rV a2), (iV p5), (iV (oo1 + (1 : Int32))), (iV (1 : Int32)), (iV v20), (iV v21), (iV cc1)]) rfl k) ?_
                refine own_st (B := T18.setTop (mkF m 66 #[(rV a1), (iV p1), (iV p2), (iV (1 : Int32)), (rV a2), (iV p5), (iV (oo1 + (1 : Int32))), (iV (1 : Int32)), (iV v20), (iV v21), (iV cc1)] [(.int v20), (.int oo1), (.ref a2)])) (fun t k => XS.iload X18.here hx rfl (hb hby d3_64) rfl k) ?_
                refine own_st (B := T18.setTop (mkF m 67 #[(rV a1), (iV p1), (iV p2), (iV (1 : Int32)), (rV a2), (iV p5), (iV (oo1 + (1 : Int32))), (iV (1 : Int32)), (iV v20), (iV v21), (iV cc1)] [(.int (v20.toInt8.toInt32)), (.int oo1), (.ref a2)])) (fun t k => XS.i2b X18.here hx rfl (hb hby d3_66) rfl k) ?_
                have hltB := Int32.lt_iff_toInt_lt.mp hc19
                obtain ⟨T23, h23, X23, e23, W23, A23, st23⟩ := own_stB X18 hx hZ e18 lf18_1 (j := oo1) (x := (v20.toInt8.toInt32)) (i := (oo1.toInt.toNat)) (own_nat (by omega)) (by have h9 := hV1.1; omega) (g := (mkF m 67 #[(rV a1), (iV p1), (iV p2), (iV (1 : Int32)), (rV a2), (iV p5), (iV (oo1 + (1 : Int32))), (iV (1 : Int32)), (iV v20), (iV v21), (iV cc1)] [(.int (v20.toInt8.toInt32)), (.int oo1), (.ref a2)])) rfl rfl (hb hby d3_67)
                have f23_ : own_A Z h23 a2 .byte (vv1.set (oo1.toInt.toNat) (.int ((v20.toInt8.toInt32).toInt8.toInt32))) := A23
                have z24 : n0 ≤ h23.size := Nat.le_trans z18 (Keep.of_wr W23).1
                have kp24 : Keep h0 h23 [a2] := kp18.wr W23 (Or.inl (List.mem_of_getElem? (i := 0) rfl))
                have n25 := Fr.snoc X23 N18 ga
                refine own_st (B := T23.setTop (mkF m 68 #[(rV a1), (iV p1), (iV p2), (iV (1 : Int32)), (rV a2), (iV p5), (iV (oo1 + (1 : Int32))), (iV (1 : Int32)), (iV v20), (iV v21), (iV cc1)] [])) (fun t k => st23 t k) ?_
                refine own_st (B := T23.setTop (mkF m 69 #[(rV a1), (iV p1), (iV p2), (iV (1 : Int32)), (rV a2), (iV p5), (iV (oo1 + (1 : Int32))), (iV (1 : Int32)), (iV v20), (iV v21), (iV cc1)] [(.int (0 : Int32))])) (fun t k => XS.iconst X23.here hx rfl (hb hby d3_68) k) ?_
                refine own_st (B := T23.setTop (mkF m 71 #[(rV a1), (iV p1), (iV p2), (iV (1 : Int32)), (rV a2), (iV p5), (iV (oo1 + (1 : Int32))), (iV (1 : Int32)), (iV (0 : Int32)), (iV v21), (iV cc1)] [])) (fun t k => XS.istore X23.here hx rfl (hb hby d3_69) rfl (l' := #[(rV a1), (iV p1), (iV p2), (iV (1 : Int32)), (rV a2), (iV p5), (iV (oo1 + (1 : Int32))), (iV (1 : Int32)), (iV (0 : Int32)), (iV v21), (iV cc1)]) rfl k) ?_
                refine own_st (B := T23.setTop (mkF m 72 #[(rV a1), (iV p1), (iV p2), (iV (1 : Int32)), (rV a2), (iV p5), (iV (oo1 + (1 : Int32))), (iV (1 : Int32)), (iV (0 : Int32)), (iV v21), (iV cc1)] [(.int (0 : Int32))])) (fun t k => XS.iconst X23.here hx rfl (hb hby d3_71) k) ?_
                refine own_st (B := T23.setTop (mkF m 74 #[(rV a1), (iV p1), (iV p2), (iV (1 : Int32)), (rV a2), (iV p5), (iV (oo1 + (1 : Int32))), (iV (1 : Int32)), (iV (0 : Int32)), (iV (0 : Int32)), (iV cc1)] [])) (fun t k => XS.istore X23.here hx rfl (hb hby d3_72) rfl (l' := #[(rV a1), (iV p1), (iV p2), (iV (1 : Int32)), (rV a2), (iV p5), (iV (oo1 + (1 : Int32))), (iV (1 : Int32)), (iV (0 : Int32)), (iV (0 : Int32)), (iV cc1)]) rfl k) ?_
                refine own_st (B := T23.setTop (mkF m 77 #[(rV a1), (iV p1), (iV p2), (iV (1 : Int32)), (rV a2), (iV p5), (iV (oo1 + (1 : Int32))), (iV (1 : Int32)), (iV (0 : Int32)), (iV (0 : Int32)), (iV (cc1 + (1 : Int32)))] [])) (fun t k => XS.iinc X23.here hx rfl (hb hby d3_74) rfl (l' := #[(rV a1), (iV p1), (iV p2), (iV (1 : Int32)), (rV a2), (iV p5), (iV (oo1 + (1 : Int32))), (iV (1 : Int32)), (iV (0 : Int32)), (iV (0 : Int32)), (iV (cc1 + (1 : Int32)))]) rfl k) ?_
                refine own_st (B := T23.setTop (mkF m 22 #[(rV a1), (iV p1), (iV p2), (iV (1 : Int32)), (rV a2), (iV p5), (iV (oo1 + (1 : Int32))), (iV (1 : Int32)), (iV (0 : Int32)), (iV (0 : Int32)), (iV (cc1 + (1 : Int32)))] [])) (fun t k => XS.goto X23.here hx rfl (pc0 := 77) (pc' := 22) rfl (hb hby d3_77) (by decide) (by decide) k) ?_
                have hlt := Int32.lt_iff_toInt_lt.mp hc19
                have hcc := own_inc (x := cc1) (by omega)
                have hN : (cc1 + (1 : Int32)).toInt.toNat = cc1.toInt.toNat + 1 := by rw [hcc]; omega
                have hvu : v21.toInt = us1.toInt + 1 := by rw [ev21]; have g1 := c_iadd us1 (1 : Int32); have g2 := rng32 (us1 + (1 : Int32)); have g3 : ((1 : Int32)).toInt = 1 := rfl; omega
                have hv8 : v21.toInt = 8 := own_eq8.mp hc22
                have z0 : (0 : Int32).toInt = 0 := rfl
                have hoo := own_inc (x := oo1) (by omega)
                have hcv : own_cv 1 (1 : Int32) (fun i => xs.getD (p1.toInt.toNat + i) 0) cc1.toInt.toNat = v20 := by unfold own_cv; rw [← hC1]; exact ev20.symm
                have hn1 : ((p1.toInt.toNat * 1 + 7) / 8) + ((cc1 + (1 : Int32)).toInt.toNat * 1) / 8 = (((p1.toInt.toNat * 1 + 7) / 8) + (cc1.toInt.toNat * 1) / 8) + 1 := by rw [hN]; omega
                have f26 : own_A Z h23 a1 .byte (xs.map Value.int) := (lf18_0.other W23 na)
                exact ih18 _ (by rw [hcc]; omega) T23 _ _ ((oo1 + (1 : Int32))) (0 : Int32) (0 : Int32) ((cc1 + (1 : Int32))) ((vv1.set (oo1.toInt.toNat) (.int ((v20.toInt8.toInt32).toInt8.toInt32)))) X23 e23 n25 z24 kp24 f26 f23_ rfl (show 0 ≤ (cc1 + (1 : Int32)).toInt ∧ (cc1 + (1 : Int32)).toInt ≤ p1.toInt by rw [hcc]; omega) (show (0 : Int32).toInt = ((cc1 + (1 : Int32)).toInt * 1) % 8 by rw [hcc]; omega) (show (oo1 + (1 : Int32)).toInt = p5.toInt + ((p1.toInt * 1 + 7) / 8) + ((cc1 + (1 : Int32)).toInt * 1) / 8 by rw [hoo, hcc]; omega) (show (0 : Int32) = own_cu 1 (1 : Int32) (fun i => xs.getD (p1.toInt.toNat + i) 0) (cc1 + (1 : Int32)).toInt.toNat by rw [hN, own_cu, if_pos (by omega)]) (show own_Ow ys p5.toInt.toNat (((p1.toInt.toNat * 1 + 7) / 8) + ((cc1 + (1 : Int32)).toInt.toNat * 1) / 8) G (vv1.set (oo1.toInt.toNat) (.int ((v20.toInt8.toInt32).toInt8.toInt32))) by rw [hn1]; exact hV1.step (by omega) (by omega) (by rw [hg1 _ (by omega) (by omega), hcv]))
              · refine own_st (B := T18.setTop (mkF m 74 #[(rV a1), (iV p1), (iV p2), (iV (1 : Int32)), (rV a2), (iV p5), (iV oo1), (iV (1 : Int32)), (iV v20), (iV v21), (iV cc1)] [])) (fun t k => XS.icmpYes X18.here hx rfl (pc0 := 54) (pc' := 74) rfl (hb hby d3_54) rfl (XT.ii_ne_t hc22) (by decide) (by decide) k) ?_
                refine own_st (B := T18.setTop (mkF m 77 #[(rV a1), (iV p1), (iV p2), (iV (1 : Int32)), (rV a2), (iV p5), (iV oo1), (iV (1 : Int32)), (iV v20), (iV v21), (iV (cc1 + (1 : Int32)))] [])) (fun t k => XS.iinc X18.here hx rfl (hb hby d3_74) rfl (l' := #[(rV a1), (iV p1), (iV p2), (iV (1 : Int32)), (rV a2), (iV p5), (iV oo1), (iV (1 : Int32)), (iV v20), (iV v21), (iV (cc1 + (1 : Int32)))]) rfl k) ?_
                refine own_st (B := T18.setTop (mkF m 22 #[(rV a1), (iV p1), (iV p2), (iV (1 : Int32)), (rV a2), (iV p5), (iV oo1), (iV (1 : Int32)), (iV v20), (iV v21), (iV (cc1 + (1 : Int32)))] [])) (fun t k => XS.goto X18.here hx rfl (pc0 := 77) (pc' := 22) rfl (hb hby d3_77) (by decide) (by decide) k) ?_
                have hlt := Int32.lt_iff_toInt_lt.mp hc19
                have hcc := own_inc (x := cc1) (by omega)
                have hN : (cc1 + (1 : Int32)).toInt.toNat = cc1.toInt.toNat + 1 := by rw [hcc]; omega
                have hvu : v21.toInt = us1.toInt + 1 := by rw [ev21]; have g1 := c_iadd us1 (1 : Int32); have g2 := rng32 (us1 + (1 : Int32)); have g3 : ((1 : Int32)).toInt = 1 := rfl; omega
                have hv8 : ¬ (v21.toInt = 8) := fun q => hc22 (own_eq8.mpr q)
                have z0 : (0 : Int32).toInt = 0 := rfl
                have hn1 : ((p1.toInt.toNat * 1 + 7) / 8) + ((cc1 + (1 : Int32)).toInt.toNat * 1) / 8 = ((p1.toInt.toNat * 1 + 7) / 8) + (cc1.toInt.toNat * 1) / 8 := by rw [hN]; omega
                exact ih18 _ (by rw [hcc]; omega) T18 _ _ oo1 v20 v21 ((cc1 + (1 : Int32))) vv1 X18 e18 N18 z18 kp18 lf18_0 lf18_1 rfl (show 0 ≤ (cc1 + (1 : Int32)).toInt ∧ (cc1 + (1 : Int32)).toInt ≤ p1.toInt by rw [hcc]; omega) (show v21.toInt = ((cc1 + (1 : Int32)).toInt * 1) % 8 by rw [hcc]; omega) (show oo1.toInt = p5.toInt + ((p1.toInt * 1 + 7) / 8) + ((cc1 + (1 : Int32)).toInt * 1) / 8 by rw [hcc]; omega) (show v20 = own_cu 1 (1 : Int32) (fun i => xs.getD (p1.toInt.toNat + i) 0) (cc1 + (1 : Int32)).toInt.toNat by rw [hN, own_cu, if_neg (by omega), ← hC1]; exact ev20) (show own_Ow ys p5.toInt.toNat (((p1.toInt.toNat * 1 + 7) / 8) + ((cc1 + (1 : Int32)).toInt.toNat * 1) / 8) G vv1 by rw [hn1]; exact hV1)
            · refine own_st (B := T18.setTop (mkF m 80 #[(rV a1), (iV p1), (iV p2), (iV (1 : Int32)), (rV a2), (iV p5), (iV oo1), (iV (1 : Int32)), (iV cu1), (iV us1), (iV cc1)] [])) (fun t k => XS.icmpYes X18.here hx rfl (pc0 := 25) (pc' := 80) rfl (hb hby d3_25) rfl (XT.ii_ge_t hc19) (by decide) (by decide) k) ?_
              have hcw : cc1.toInt = p1.toInt := by have h9 : ¬ _ := fun q => hc19 (Int32.lt_iff_toInt_lt.mpr q); omega
              have hcn : cc1.toInt.toNat = p1.toInt.toNat := by rw [hcw]
              refine own_cut (P := ∀ (T27 : State) (lo27 : List Loc) (h27 : Heap) (om1 : Int32) (vm1 : List Value), Stand p l e ({ frames := 0, cells := 0, slots := 0, locals := 0 } : Room) s m #[(.ref a1), (.int p1), (.int p2), (.int (1 : Int32)), (.ref a2), (.int p5)] below meth c T27 lo27 0 0 → T27.heap = h27 → Fr n0 lo27 → n0 ≤ h27.size → Keep h0 h27 [a2] → own_A Z h27 a1 .byte (xs.map Value.int) → own_A Z h27 a2 .byte vm1 → (om1.toInt = p5.toInt + ((p1.toInt * 1 + 7) / 8) + ((p1.toInt * 1 + 7) / 8)) → (own_Ow ys p5.toInt.toNat (((p1.toInt.toNat * 1 + 7) / 8) + ((p1.toInt.toNat * 1 + 7) / 8)) G vm1) → own_Go p e below s (Q3b1 Z a1 a2 p1 p2 p5 xs ys G h0 n0) ({ frames := 0, cells := 0, slots := 0, locals := 0 } : Room).cells ({ frames := 0, cells := 0, slots := 0, locals := 0 } : Room).slots (T27.setTop (mkF m 102 #[(rV a1), (iV p1), (iV p2), (iV (1 : Int32)), (rV a2), (iV p5), (iV om1), (iV (1 : Int32)), (iV cu1), (iV us1), (iV cc1)] []))) (fun J27 => ?_) ?_
              · refine own_st (B := T18.setTop (mkF m 82 #[(rV a1), (iV p1), (iV p2), (iV (1 : Int32)), (rV a2), (iV p5), (iV oo1), (iV (1 : Int32)), (iV cu1), (iV us1), (iV cc1)] [(.int us1)])) (fun t k => XS.iload X18.here hx rfl (hb hby d3_80) rfl k) ?_
                by_cases hc28 : (0 : Int32) < us1
                · refine own_st (B := T18.setTop (mkF m 85 #[(rV a1), (iV p1), (iV p2), (iV (1 : Int32)), (rV a2), (iV p5), (iV oo1), (iV (1 : Int32)), (iV cu1), (iV us1), (iV cc1)] [])) (fun t k => XS.ifNo X18.here hx rfl (hb hby d3_82) rfl (XT.i0_le_f hc28) k) ?_
                  refine own_st (B := T18.setTop (mkF m 87 #[(rV a1), (iV p1), (iV p2), (iV (1 : Int32)), (rV a2), (iV p5), (iV oo1), (iV (1 : Int32)), (iV cu1), (iV us1), (iV cc1)] [(.ref a2)])) (fun t k => XS.aload X18.here hx rfl (hb hby d3_85) rfl rfl k) ?_
                  refine own_st (B := T18.setTop (mkF m 89 #[(rV a1), (iV p1), (iV p2), (iV (1 : Int32)), (rV a2), (iV p5), (iV oo1), (iV (1 : Int32)), (iV cu1), (iV us1), (iV cc1)] [(.int oo1), (.ref a2)])) (fun t k => XS.iload X18.here hx rfl (hb hby d3_87) rfl k) ?_
                  refine own_st (B := T18.setTop (mkF m 92 #[(rV a1), (iV p1), (iV p2), (iV (1 : Int32)), (rV a2), (iV p5), (iV (oo1 + (1 : Int32))), (iV (1 : Int32)), (iV cu1), (iV us1), (iV cc1)] [(.int oo1), (.ref a2)])) (fun t k => XS.iinc X18.here hx rfl (hb hby d3_89) rfl (l' := #[(rV a1), (iV p1), (iV p2), (iV (1 : Int32)), (rV a2), (iV p5), (iV (oo1 + (1 : Int32))), (iV (1 : Int32)), (iV cu1), (iV us1), (iV cc1)]) rfl k) ?_
                  refine own_st (B := T18.setTop (mkF m 94 #[(rV a1), (iV p1), (iV p2), (iV (1 : Int32)), (rV a2), (iV p5), (iV (oo1 + (1 : Int32))), (iV (1 : Int32)), (iV cu1), (iV us1), (iV cc1)] [(.int cu1), (.int oo1), (.ref a2)])) (fun t k => XS.iload X18.here hx rfl (hb hby d3_92) rfl k) ?_
                  refine own_st (B := T18.setTop (mkF m 96 #[(rV a1), (iV p1), (iV p2), (iV (1 : Int32)), (rV a2), (iV p5), (iV (oo1 + (1 : Int32))), (iV (1 : Int32)), (iV cu1), (iV us1), (iV cc1)] [(.int (8 : Int32)), (.int cu1), (.int oo1), (.ref a2)])) (fun t k => XS.bipush X18.here hx rfl (hb hby d3_94) k) ?_
                  refine own_st (B := T18.setTop (mkF m 98 #[(rV a1), (iV p1), (iV p2), (iV (1 : Int32)), (rV a2), (iV p5), (iV (oo1 + (1 : Int32))), (iV (1 : Int32)), (iV cu1), (iV us1), (iV cc1)] [(.int us1), (.int (8 : Int32)), (.int cu1), (.int oo1), (.ref a2)])) (fun t k => XS.iload X18.here hx rfl (hb hby d3_96) rfl k) ?_
                  refine own_st (B := T18.setTop (mkF m 99 #[(rV a1), (iV p1), (iV p2), (iV (1 : Int32)), (rV a2), (iV p5), (iV (oo1 + (1 : Int32))), (iV (1 : Int32)), (iV cu1), (iV us1), (iV cc1)] [(.int ((8 : Int32) - us1)), (.int cu1), (.int oo1), (.ref a2)])) (fun t k => XS.isub X18.here hx rfl (hb hby d3_98) rfl k) ?_
                  refine own_st (B := T18.setTop (mkF m 100 #[(rV a1), (iV p1), (iV p2), (iV (1 : Int32)), (rV a2), (iV p5), (iV (oo1 + (1 : Int32))), (iV (1 : Int32)), (iV cu1), (iV us1), (iV cc1)] [(.int (cu1 <<< (((8 : Int32) - us1) &&& 31))), (.int oo1), (.ref a2)])) (fun t k => XS.ishl X18.here hx rfl (hb hby d3_99) rfl k) ?_
                  refine own_st (B := T18.setTop (mkF m 101 #[(rV a1), (iV p1), (iV p2), (iV (1 : Int32)), (rV a2), (iV p5), (iV (oo1 + (1 : Int32))), (iV (1 : Int32)), (iV cu1), (iV us1), (iV cc1)] [(.int ((cu1 <<< (((8 : Int32) - us1) &&& 31)).toInt8.toInt32)), (.int oo1), (.ref a2)])) (fun t k => XS.i2b X18.here hx rfl (hb hby d3_100) rfl k) ?_
                  obtain ⟨T29, h29, X29, e29, W29, A29, st29⟩ := own_stB X18 hx hZ e18 lf18_1 (j := oo1) (x := ((cu1 <<< (((8 : Int32) - us1) &&& 31)).toInt8.toInt32)) (i := (oo1.toInt.toNat)) (own_nat (by omega)) (by have h9 := hV1.1; omega) (g := (mkF m 101 #[(rV a1), (iV p1), (iV p2), (iV (1 : Int32)), (rV a2), (iV p5), (iV (oo1 + (1 : Int32))), (iV (1 : Int32)), (iV cu1), (iV us1), (iV cc1)] [(.int ((cu1 <<< (((8 : Int32) - us1) &&& 31)).toInt8.toInt32)), (.int oo1), (.ref a2)])) rfl rfl (hb hby d3_101)
                  have f29_ : own_A Z h29 a2 .byte (vv1.set (oo1.toInt.toNat) (.int (((cu1 <<< (((8 : Int32) - us1) &&& 31)).toInt8.toInt32).toInt8.toInt32))) := A29
                  have z30 : n0 ≤ h29.size := Nat.le_trans z18 (Keep.of_wr W29).1
                  have kp30 : Keep h0 h29 [a2] := kp18.wr W29 (Or.inl (List.mem_of_getElem? (i := 0) rfl))
                  have n31 := Fr.snoc X29 N18 ga
                  refine own_st (B := T29.setTop (mkF m 102 #[(rV a1), (iV p1), (iV p2), (iV (1 : Int32)), (rV a2), (iV p5), (iV (oo1 + (1 : Int32))), (iV (1 : Int32)), (iV cu1), (iV us1), (iV cc1)] [])) (fun t k => st29 t k) ?_
                  have f32 : own_A Z h29 a1 .byte (xs.map Value.int) := (lf18_0.other W29 na)
                  have z0 : (0 : Int32).toInt = 0 := rfl
                  have hup := Int32.lt_iff_toInt_lt.mp hc28
                  have hoo := own_inc (x := oo1) (by omega)
                  have hn1 : ((p1.toInt.toNat * 1 + 7) / 8) + ((p1.toInt.toNat * 1 + 7) / 8) = (((p1.toInt.toNat * 1 + 7) / 8) + (cc1.toInt.toNat * 1) / 8) + 1 := by rw [hcn]; omega
                  exact J27 T29 _ _ ((oo1 + (1 : Int32))) ((vv1.set (oo1.toInt.toNat) (.int (((cu1 <<< (((8 : Int32) - us1) &&& 31)).toInt8.toInt32).toInt8.toInt32)))) X29 e29 n31 z30 kp30 f32 f29_ (show (oo1 + (1 : Int32)).toInt = p5.toInt + ((p1.toInt * 1 + 7) / 8) + ((p1.toInt * 1 + 7) / 8) by rw [hoo]; omega) (show own_Ow ys p5.toInt.toNat (((p1.toInt.toNat * 1 + 7) / 8) + ((p1.toInt.toNat * 1 + 7) / 8)) G (vv1.set (oo1.toInt.toNat) (.int (((cu1 <<< (((8 : Int32) - us1) &&& 31)).toInt8.toInt32).toInt8.toInt32))) by rw [hn1]; exact hV1.step (by omega) (by omega) (by rw [hC1, hcn]; exact hp1 us1 (by rw [← hcw]; exact hu1) (by omega)))
                · refine own_st (B := T18.setTop (mkF m 102 #[(rV a1), (iV p1), (iV p2), (iV (1 : Int32)), (rV a2), (iV p5), (iV oo1), (iV (1 : Int32)), (iV cu1), (iV us1), (iV cc1)] [])) (fun t k => XS.ifYes X18.here hx rfl (pc0 := 82) (pc' := 102) rfl (hb hby d3_82) rfl (XT.i0_le_t hc28) (by decide) (by decide) k) ?_
                  have z0 : (0 : Int32).toInt = 0 := rfl
                  have hup : ¬ (0 < us1.toInt) := fun q => hc28 (Int32.lt_iff_toInt_lt.mpr (by rw [z0]; exact q))
                  have hn1 : ((p1.toInt.toNat * 1 + 7) / 8) + ((p1.toInt.toNat * 1 + 7) / 8) = ((p1.toInt.toNat * 1 + 7) / 8) + (cc1.toInt.toNat * 1) / 8 := by rw [hcn]; omega
                  exact J27 T18 _ _ oo1 vv1 X18 e18 N18 z18 kp18 lf18_0 lf18_1 (show oo1.toInt = p5.toInt + ((p1.toInt * 1 + 7) / 8) + ((p1.toInt * 1 + 7) / 8) by omega) (show own_Ow ys p5.toInt.toNat (((p1.toInt.toNat * 1 + 7) / 8) + ((p1.toInt.toNat * 1 + 7) / 8)) G vv1 by rw [hn1]; exact hV1)
              intro T27 lo27 h27 om1 vm1 X27 e27 N27 z27 kp27 lf27_0 lf27_1 hE1 hF1
              refine own_st (B := T27.setTop (mkF m 105 #[(rV a1), (iV p1), (iV p2), (iV (1 : Int32)), (rV a2), (iV p5), (iV om1), (iV ((1 : Int32) + (1 : Int32))), (iV cu1), (iV us1), (iV cc1)] [])) (fun t k => XS.iinc X27.here hx rfl (hb hby d3_102) rfl (l' := #[(rV a1), (iV p1), (iV p2), (iV (1 : Int32)), (rV a2), (iV p5), (iV om1), (iV ((1 : Int32) + (1 : Int32))), (iV cu1), (iV us1), (iV cc1)]) rfl k) ?_
              refine own_st (B := T27.setTop (mkF m 7 #[(rV a1), (iV p1), (iV p2), (iV (1 : Int32)), (rV a2), (iV p5), (iV om1), (iV ((1 : Int32) + (1 : Int32))), (iV cu1), (iV us1), (iV cc1)] [])) (fun t k => XS.goto X27.here hx rfl (pc0 := 105) (pc' := 7) rfl (hb hby d3_105) (by decide) (by decide) k) ?_
              rw [show ((1 : Int32) + (1 : Int32)) = (2 : Int32) from by decide]
              refine own_st (B := T27.setTop (mkF m 9 #[(rV a1), (iV p1), (iV p2), (iV (1 : Int32)), (rV a2), (iV p5), (iV om1), (iV (2 : Int32)), (iV cu1), (iV us1), (iV cc1)] [(.int (2 : Int32))])) (fun t k => XS.iload X27.here hx rfl (hb hby d3_7) rfl k) ?_
              refine own_st (B := T27.setTop (mkF m 10 #[(rV a1), (iV p1), (iV p2), (iV (1 : Int32)), (rV a2), (iV p5), (iV om1), (iV (2 : Int32)), (iV cu1), (iV us1), (iV cc1)] [(.int p2), (.int (2 : Int32))])) (fun t k => XS.iloadN X27.here hx rfl (hb hby d3_9) rfl k) ?_
              have hc33 : ¬ ((2 : Int32) < p2) := by
                intro q; have h9 := Int32.lt_iff_toInt_lt.mp q; have z2 : (2 : Int32).toInt = 2 := rfl; omega
              refine own_st (B := T27.setTop (mkF m 108 #[(rV a1), (iV p1), (iV p2), (iV (1 : Int32)), (rV a2), (iV p5), (iV om1), (iV (2 : Int32)), (iV cu1), (iV us1), (iV cc1)] [])) (fun t k => XS.icmpYes X27.here hx rfl (pc0 := 10) (pc' := 108) rfl (hb hby d3_10) rfl (XT.ii_ge_t hc33) (by decide) (by decide) k) ?_
              refine own_st (B := T27.setTop (mkF m 110 #[(rV a1), (iV p1), (iV p2), (iV (1 : Int32)), (rV a2), (iV p5), (iV om1), (iV (2 : Int32)), (iV cu1), (iV us1), (iV cc1)] [(.int om1)])) (fun t k => XS.iload X27.here hx rfl (hb hby d3_108) rfl k) ?_
              refine own_retI X27 hx hlk Bd.returns (hb hby d3_110) (by decide) (by decide) ?_
              show Q3b1 Z a1 a2 p1 p2 p5 xs ys G h0 n0 _ T27.heap _
              rw [e27]
              exact ⟨om1, vm1, rfl, N27, kp27, lf27_1, (by have z0 : (0 : Int32).toInt = 0 := rfl; have z1 : (1 : Int32).toInt = 1 := rfl; have h8 := Int32.lt_iff_toInt_lt.mp hc17; have hz : p2.toInt = 2 := (by omega); rw [hz]; have h7 := hE1; omega), (by rw [show (om1.toInt - p5.toInt).toNat = ((p1.toInt.toNat * 1 + 7) / 8) + ((p1.toInt.toNat * 1 + 7) / 8) from by have h7 := hE1; omega]; exact hF1)⟩
        · refine own_st (B := T11.setTop (mkF m 108 #[(rV a1), (iV p1), (iV p2), (iV (1 : Int32)), (rV a2), (iV p5), (iV om0), (iV (1 : Int32)), (iV cu0), (iV us0), (iV cc0)] [])) (fun t k => XS.icmpYes X11.here hx rfl (pc0 := 10) (pc' := 108) rfl (hb hby d3_10) rfl (XT.ii_ge_t hc17) (by decide) (by decide) k) ?_
          refine own_st (B := T11.setTop (mkF m 110 #[(rV a1), (iV p1), (iV p2), (iV (1 : Int32)), (rV a2), (iV p5), (iV om0), (iV (1 : Int32)), (iV cu0), (iV us0), (iV cc0)] [(.int om0)])) (fun t k => XS.iload X11.here hx rfl (hb hby d3_108) rfl k) ?_
          refine own_retI X11 hx hlk Bd.returns (hb hby d3_110) (by decide) (by decide) ?_
          show Q3b1 Z a1 a2 p1 p2 p5 xs ys G h0 n0 _ T11.heap _
          rw [e11]
          exact ⟨om0, vm0, rfl, N11, kp11, lf11_1, (by have z0 : (0 : Int32).toInt = 0 := rfl; have z1 : (1 : Int32).toInt = 1 := rfl; have h8 := Int32.lt_iff_toInt_lt.mp hc1; have h9 : ¬ _ := fun q => hc17 (Int32.lt_iff_toInt_lt.mpr q); have hz : p2.toInt = 1 := (by omega); rw [hz]; have h7 := hE0; omega), (by rw [show (om0.toInt - p5.toInt).toNat = ((p1.toInt.toNat * 1 + 7) / 8) from by have h7 := hE0; omega]; exact hF0)⟩
  · refine own_st (B := s₁.setTop (mkF m 108 #[(rV a1), (iV p1), (iV p2), (iV (1 : Int32)), (rV a2), (iV p5), (iV p5), (iV (0 : Int32)), uV, uV, uV] [])) (fun t k => XS.icmpYes X0.here hx rfl (pc0 := 10) (pc' := 108) rfl (hb hby d3_10) rfl (XT.ii_ge_t hc1) (by decide) (by decide) k) ?_
    refine own_st (B := s₁.setTop (mkF m 110 #[(rV a1), (iV p1), (iV p2), (iV (1 : Int32)), (rV a2), (iV p5), (iV p5), (iV (0 : Int32)), uV, uV, uV] [(.int p5)])) (fun t k => XS.iload X0.here hx rfl (hb hby d3_108) rfl k) ?_
    refine own_retI X0 hx hlk Bd.returns (hb hby d3_110) (by decide) (by decide) ?_
    show Q3b1 Z a1 a2 p1 p2 p5 xs ys G h0 n0 _ s₁.heap _
    rw [e0]
    exact ⟨p5, (ys.map Value.int), rfl, N0, (Keep.refl h0 [a2]), F1, (by have z0 : (0 : Int32).toInt = 0 := rfl; have z1 : (1 : Int32).toInt = 1 := rfl; have h9 : ¬ _ := fun q => hc1 (Int32.lt_iff_toInt_lt.mpr q); have hz : p2.toInt = 0 := (by omega); rw [hz]; omega), (by rw [show (p5.toInt - p5.toInt).toNat = 0 from by omega]; exact own_Ow.start hly)⟩
theorem own_rb1 {w : Int32} (hw : 0 ≤ w.toInt ∧ w.toInt ≤ 8) : (((w * (1 : Int32)) + (7 : Int32)) / (8 : Int32)).toInt = (w.toInt * (1 : Int32).toInt + 7) / 8 := by
  have h1 := c_imul w (1 : Int32)
  have z : ((1 : Int32)).toInt = 1 := rfl
  rw [z] at h1 ⊢
  have h2 := rng32 (w * (1 : Int32))
  have h3 := c_iadd (w * (1 : Int32)) 7
  have h4 := rng32 ((w * (1 : Int32)) + (7 : Int32))
  have z7 : (7 : Int32).toInt = 7 := rfl
  have h5 := (c_idiv ((w * (1 : Int32)) + (7 : Int32)) 8 8 rfl (by decide)).1 (by omega)
  rw [h5]
  omega
theorem own_ib2 (q : Int64) (i : Int32) : (((own_idx q (2 : Int32) i).toInt8.toInt32).toInt8.toInt32) = own_idx q (2 : Int32) i := by
  have h := own_sml (own_idx_r q i (B := (2 : Int32)) (by decide))
  rw [h, h]
theorem own_c2_1_0_0 (q : Int64) : own_pin q (1 : Int32) (2 : Int32) (0 : Int32) = ((((((((((own_idx q (2 : Int32) (0 : Int32)) <<< ((6 : Int32) &&& 31)) ||| (0 : Int32)) ||| (0 : Int32)) ||| (0 : Int32)) ||| (0 : Int32)) ||| (0 : Int32)) ||| (0 : Int32)) ||| (0 : Int32)).toInt8.toInt32) := by
  have t0 : own_term q (1 : Int32) (0 : Int32) (0 : Int32) (4 : Int32) (2 : Int32) (0 : Int32) = ((own_idx q (2 : Int32) (0 : Int32)) <<< ((6 : Int32) &&& 31)) := by
    rw [own_tm1 (by decide) (by decide), show (((0 : Int32) * (1 : Int32)) + (((0 : Int32) * (4 : Int32)) + (0 : Int32))) = (0 : Int32) from by decide, show ((8 : Int32) - ((2 : Int32) * ((0 : Int32) + (1 : Int32)))) = (6 : Int32) from by decide]
  have t1 : own_term q (1 : Int32) (0 : Int32) (0 : Int32) (4 : Int32) (2 : Int32) (1 : Int32) = (0 : Int32) := own_tm2 (by decide) (by decide)
  have t2 : own_term q (1 : Int32) (0 : Int32) (0 : Int32) (4 : Int32) (2 : Int32) (2 : Int32) = (0 : Int32) := own_tm2 (by decide) (by decide)
  have t3 : own_term q (1 : Int32) (0 : Int32) (0 : Int32) (4 : Int32) (2 : Int32) (3 : Int32) = (0 : Int32) := own_tm2 (by decide) (by decide)
  have t4 : own_term q (1 : Int32) (0 : Int32) (0 : Int32) (4 : Int32) (2 : Int32) (4 : Int32) = (0 : Int32) := own_tm0 (by decide)
  have t5 : own_term q (1 : Int32) (0 : Int32) (0 : Int32) (4 : Int32) (2 : Int32) (5 : Int32) = (0 : Int32) := own_tm0 (by decide)
  have t6 : own_term q (1 : Int32) (0 : Int32) (0 : Int32) (4 : Int32) (2 : Int32) (6 : Int32) = (0 : Int32) := own_tm0 (by decide)
  have t7 : own_term q (1 : Int32) (0 : Int32) (0 : Int32) (4 : Int32) (2 : Int32) (7 : Int32) = (0 : Int32) := own_tm0 (by decide)
  unfold own_pin
  rw [show ((0 : Int32) / ((((1 : Int32) * (2 : Int32)) + (7 : Int32)) / (8 : Int32))) = (0 : Int32) from by decide, show ((0 : Int32) % ((((1 : Int32) * (2 : Int32)) + (7 : Int32)) / (8 : Int32))) = (0 : Int32) from by decide, show ((8 : Int32) / (2 : Int32)) = (4 : Int32) from by decide, t0, t1, t2, t3, t4, t5, t6, t7]
theorem own_c2_1_1_0 (q : Int64) : own_pin q (1 : Int32) (2 : Int32) (1 : Int32) = ((((((((((own_idx q (2 : Int32) (1 : Int32)) <<< ((6 : Int32) &&& 31)) ||| (0 : Int32)) ||| (0 : Int32)) ||| (0 : Int32)) ||| (0 : Int32)) ||| (0 : Int32)) ||| (0 : Int32)) ||| (0 : Int32)).toInt8.toInt32) := by
  have t0 : own_term q (1 : Int32) (1 : Int32) (0 : Int32) (4 : Int32) (2 : Int32) (0 : Int32) = ((own_idx q (2 : Int32) (1 : Int32)) <<< ((6 : Int32) &&& 31)) := by
    rw [own_tm1 (by decide) (by decide), show (((1 : Int32) * (1 : Int32)) + (((0 : Int32) * (4 : Int32)) + (0 : Int32))) = (1 : Int32) from by decide, show ((8 : Int32) - ((2 : Int32) * ((0 : Int32) + (1 : Int32)))) = (6 : Int32) from by decide]
  have t1 : own_term q (1 : Int32) (1 : Int32) (0 : Int32) (4 : Int32) (2 : Int32) (1 : Int32) = (0 : Int32) := own_tm2 (by decide) (by decide)
  have t2 : own_term q (1 : Int32) (1 : Int32) (0 : Int32) (4 : Int32) (2 : Int32) (2 : Int32) = (0 : Int32) := own_tm2 (by decide) (by decide)
  have t3 : own_term q (1 : Int32) (1 : Int32) (0 : Int32) (4 : Int32) (2 : Int32) (3 : Int32) = (0 : Int32) := own_tm2 (by decide) (by decide)
  have t4 : own_term q (1 : Int32) (1 : Int32) (0 : Int32) (4 : Int32) (2 : Int32) (4 : Int32) = (0 : Int32) := own_tm0 (by decide)
  have t5 : own_term q (1 : Int32) (1 : Int32) (0 : Int32) (4 : Int32) (2 : Int32) (5 : Int32) = (0 : Int32) := own_tm0 (by decide)
  have t6 : own_term q (1 : Int32) (1 : Int32) (0 : Int32) (4 : Int32) (2 : Int32) (6 : Int32) = (0 : Int32) := own_tm0 (by decide)
  have t7 : own_term q (1 : Int32) (1 : Int32) (0 : Int32) (4 : Int32) (2 : Int32) (7 : Int32) = (0 : Int32) := own_tm0 (by decide)
  unfold own_pin
  rw [show ((1 : Int32) / ((((1 : Int32) * (2 : Int32)) + (7 : Int32)) / (8 : Int32))) = (1 : Int32) from by decide, show ((1 : Int32) % ((((1 : Int32) * (2 : Int32)) + (7 : Int32)) / (8 : Int32))) = (0 : Int32) from by decide, show ((8 : Int32) / (2 : Int32)) = (4 : Int32) from by decide, t0, t1, t2, t3, t4, t5, t6, t7]
theorem own_c2_2_0_0 (q : Int64) : own_pin q (2 : Int32) (2 : Int32) (0 : Int32) = ((((((((((own_idx q (2 : Int32) (0 : Int32)) <<< ((6 : Int32) &&& 31)) ||| ((own_idx q (2 : Int32) (1 : Int32)) <<< ((4 : Int32) &&& 31))) ||| (0 : Int32)) ||| (0 : Int32)) ||| (0 : Int32)) ||| (0 : Int32)) ||| (0 : Int32)) ||| (0 : Int32)).toInt8.toInt32) := by
  have t0 : own_term q (2 : Int32) (0 : Int32) (0 : Int32) (4 : Int32) (2 : Int32) (0 : Int32) = ((own_idx q (2 : Int32) (0 : Int32)) <<< ((6 : Int32) &&& 31)) := by
    rw [own_tm1 (by decide) (by decide), show (((0 : Int32) * (2 : Int32)) + (((0 : Int32) * (4 : Int32)) + (0 : Int32))) = (0 : Int32) from by decide, show ((8 : Int32) - ((2 : Int32) * ((0 : Int32) + (1 : Int32)))) = (6 : Int32) from by decide]
  have t1 : own_term q (2 : Int32) (0 : Int32) (0 : Int32) (4 : Int32) (2 : Int32) (1 : Int32) = ((own_idx q (2 : Int32) (1 : Int32)) <<< ((4 : Int32) &&& 31)) := by
    rw [own_tm1 (by decide) (by decide), show (((0 : Int32) * (2 : Int32)) + (((0 : Int32) * (4 : Int32)) + (1 : Int32))) = (1 : Int32) from by decide, show ((8 : Int32) - ((2 : Int32) * ((1 : Int32) + (1 : Int32)))) = (4 : Int32) from by decide]
  have t2 : own_term q (2 : Int32) (0 : Int32) (0 : Int32) (4 : Int32) (2 : Int32) (2 : Int32) = (0 : Int32) := own_tm2 (by decide) (by decide)
  have t3 : own_term q (2 : Int32) (0 : Int32) (0 : Int32) (4 : Int32) (2 : Int32) (3 : Int32) = (0 : Int32) := own_tm2 (by decide) (by decide)
  have t4 : own_term q (2 : Int32) (0 : Int32) (0 : Int32) (4 : Int32) (2 : Int32) (4 : Int32) = (0 : Int32) := own_tm0 (by decide)
  have t5 : own_term q (2 : Int32) (0 : Int32) (0 : Int32) (4 : Int32) (2 : Int32) (5 : Int32) = (0 : Int32) := own_tm0 (by decide)
  have t6 : own_term q (2 : Int32) (0 : Int32) (0 : Int32) (4 : Int32) (2 : Int32) (6 : Int32) = (0 : Int32) := own_tm0 (by decide)
  have t7 : own_term q (2 : Int32) (0 : Int32) (0 : Int32) (4 : Int32) (2 : Int32) (7 : Int32) = (0 : Int32) := own_tm0 (by decide)
  unfold own_pin
  rw [show ((0 : Int32) / ((((2 : Int32) * (2 : Int32)) + (7 : Int32)) / (8 : Int32))) = (0 : Int32) from by decide, show ((0 : Int32) % ((((2 : Int32) * (2 : Int32)) + (7 : Int32)) / (8 : Int32))) = (0 : Int32) from by decide, show ((8 : Int32) / (2 : Int32)) = (4 : Int32) from by decide, t0, t1, t2, t3, t4, t5, t6, t7]
theorem own_c2_2_1_0 (q : Int64) : own_pin q (2 : Int32) (2 : Int32) (1 : Int32) = ((((((((((own_idx q (2 : Int32) (2 : Int32)) <<< ((6 : Int32) &&& 31)) ||| ((own_idx q (2 : Int32) (3 : Int32)) <<< ((4 : Int32) &&& 31))) ||| (0 : Int32)) ||| (0 : Int32)) ||| (0 : Int32)) ||| (0 : Int32)) ||| (0 : Int32)) ||| (0 : Int32)).toInt8.toInt32) := by
  have t0 : own_term q (2 : Int32) (1 : Int32) (0 : Int32) (4 : Int32) (2 : Int32) (0 : Int32) = ((own_idx q (2 : Int32) (2 : Int32)) <<< ((6 : Int32) &&& 31)) := by
    rw [own_tm1 (by decide) (by decide), show (((1 : Int32) * (2 : Int32)) + (((0 : Int32) * (4 : Int32)) + (0 : Int32))) = (2 : Int32) from by decide, show ((8 : Int32) - ((2 : Int32) * ((0 : Int32) + (1 : Int32)))) = (6 : Int32) from by decide]
  have t1 : own_term q (2 : Int32) (1 : Int32) (0 : Int32) (4 : Int32) (2 : Int32) (1 : Int32) = ((own_idx q (2 : Int32) (3 : Int32)) <<< ((4 : Int32) &&& 31)) := by
    rw [own_tm1 (by decide) (by decide), show (((1 : Int32) * (2 : Int32)) + (((0 : Int32) * (4 : Int32)) + (1 : Int32))) = (3 : Int32) from by decide, show ((8 : Int32) - ((2 : Int32) * ((1 : Int32) + (1 : Int32)))) = (4 : Int32) from by decide]
  have t2 : own_term q (2 : Int32) (1 : Int32) (0 : Int32) (4 : Int32) (2 : Int32) (2 : Int32) = (0 : Int32) := own_tm2 (by decide) (by decide)
  have t3 : own_term q (2 : Int32) (1 : Int32) (0 : Int32) (4 : Int32) (2 : Int32) (3 : Int32) = (0 : Int32) := own_tm2 (by decide) (by decide)
  have t4 : own_term q (2 : Int32) (1 : Int32) (0 : Int32) (4 : Int32) (2 : Int32) (4 : Int32) = (0 : Int32) := own_tm0 (by decide)
  have t5 : own_term q (2 : Int32) (1 : Int32) (0 : Int32) (4 : Int32) (2 : Int32) (5 : Int32) = (0 : Int32) := own_tm0 (by decide)
  have t6 : own_term q (2 : Int32) (1 : Int32) (0 : Int32) (4 : Int32) (2 : Int32) (6 : Int32) = (0 : Int32) := own_tm0 (by decide)
  have t7 : own_term q (2 : Int32) (1 : Int32) (0 : Int32) (4 : Int32) (2 : Int32) (7 : Int32) = (0 : Int32) := own_tm0 (by decide)
  unfold own_pin
  rw [show ((1 : Int32) / ((((2 : Int32) * (2 : Int32)) + (7 : Int32)) / (8 : Int32))) = (1 : Int32) from by decide, show ((1 : Int32) % ((((2 : Int32) * (2 : Int32)) + (7 : Int32)) / (8 : Int32))) = (0 : Int32) from by decide, show ((8 : Int32) / (2 : Int32)) = (4 : Int32) from by decide, t0, t1, t2, t3, t4, t5, t6, t7]
theorem own_c2_3_0_0 (q : Int64) : own_pin q (3 : Int32) (2 : Int32) (0 : Int32) = ((((((((((own_idx q (2 : Int32) (0 : Int32)) <<< ((6 : Int32) &&& 31)) ||| ((own_idx q (2 : Int32) (1 : Int32)) <<< ((4 : Int32) &&& 31))) ||| ((own_idx q (2 : Int32) (2 : Int32)) <<< ((2 : Int32) &&& 31))) ||| (0 : Int32)) ||| (0 : Int32)) ||| (0 : Int32)) ||| (0 : Int32)) ||| (0 : Int32)).toInt8.toInt32) := by
  have t0 : own_term q (3 : Int32) (0 : Int32) (0 : Int32) (4 : Int32) (2 : Int32) (0 : Int32) = ((own_idx q (2 : Int32) (0 : Int32)) <<< ((6 : Int32) &&& 31)) := by
    rw [own_tm1 (by decide) (by decide), show (((0 : Int32) * (3 : Int32)) + (((0 : Int32) * (4 : Int32)) + (0 : Int32))) = (0 : Int32) from by decide, show ((8 : Int32) - ((2 : Int32) * ((0 : Int32) + (1 : Int32)))) = (6 : Int32) from by decide]
  have t1 : own_term q (3 : Int32) (0 : Int32) (0 : Int32) (4 : Int32) (2 : Int32) (1 : Int32) = ((own_idx q (2 : Int32) (1 : Int32)) <<< ((4 : Int32) &&& 31)) := by
    rw [own_tm1 (by decide) (by decide), show (((0 : Int32) * (3 : Int32)) + (((0 : Int32) * (4 : Int32)) + (1 : Int32))) = (1 : Int32) from by decide, show ((8 : Int32) - ((2 : Int32) * ((1 : Int32) + (1 : Int32)))) = (4 : Int32) from by decide]
  have t2 : own_term q (3 : Int32) (0 : Int32) (0 : Int32) (4 : Int32) (2 : Int32) (2 : Int32) = ((own_idx q (2 : Int32) (2 : Int32)) <<< ((2 : Int32) &&& 31)) := by
    rw [own_tm1 (by decide) (by decide), show (((0 : Int32) * (3 : Int32)) + (((0 : Int32) * (4 : Int32)) + (2 : Int32))) = (2 : Int32) from by decide, show ((8 : Int32) - ((2 : Int32) * ((2 : Int32) + (1 : Int32)))) = (2 : Int32) from by decide]
  have t3 : own_term q (3 : Int32) (0 : Int32) (0 : Int32) (4 : Int32) (2 : Int32) (3 : Int32) = (0 : Int32) := own_tm2 (by decide) (by decide)
  have t4 : own_term q (3 : Int32) (0 : Int32) (0 : Int32) (4 : Int32) (2 : Int32) (4 : Int32) = (0 : Int32) := own_tm0 (by decide)
  have t5 : own_term q (3 : Int32) (0 : Int32) (0 : Int32) (4 : Int32) (2 : Int32) (5 : Int32) = (0 : Int32) := own_tm0 (by decide)
  have t6 : own_term q (3 : Int32) (0 : Int32) (0 : Int32) (4 : Int32) (2 : Int32) (6 : Int32) = (0 : Int32) := own_tm0 (by decide)
  have t7 : own_term q (3 : Int32) (0 : Int32) (0 : Int32) (4 : Int32) (2 : Int32) (7 : Int32) = (0 : Int32) := own_tm0 (by decide)
  unfold own_pin
  rw [show ((0 : Int32) / ((((3 : Int32) * (2 : Int32)) + (7 : Int32)) / (8 : Int32))) = (0 : Int32) from by decide, show ((0 : Int32) % ((((3 : Int32) * (2 : Int32)) + (7 : Int32)) / (8 : Int32))) = (0 : Int32) from by decide, show ((8 : Int32) / (2 : Int32)) = (4 : Int32) from by decide, t0, t1, t2, t3, t4, t5, t6, t7]
theorem own_c2_3_1_0 (q : Int64) : own_pin q (3 : Int32) (2 : Int32) (1 : Int32) = ((((((((((own_idx q (2 : Int32) (3 : Int32)) <<< ((6 : Int32) &&& 31)) ||| ((own_idx q (2 : Int32) (4 : Int32)) <<< ((4 : Int32) &&& 31))) ||| ((own_idx q (2 : Int32) (5 : Int32)) <<< ((2 : Int32) &&& 31))) ||| (0 : Int32)) ||| (0 : Int32)) ||| (0 : Int32)) ||| (0 : Int32)) ||| (0 : Int32)).toInt8.toInt32) := by
  have t0 : own_term q (3 : Int32) (1 : Int32) (0 : Int32) (4 : Int32) (2 : Int32) (0 : Int32) = ((own_idx q (2 : Int32) (3 : Int32)) <<< ((6 : Int32) &&& 31)) := by
    rw [own_tm1 (by decide) (by decide), show (((1 : Int32) * (3 : Int32)) + (((0 : Int32) * (4 : Int32)) + (0 : Int32))) = (3 : Int32) from by decide, show ((8 : Int32) - ((2 : Int32) * ((0 : Int32) + (1 : Int32)))) = (6 : Int32) from by decide]
  have t1 : own_term q (3 : Int32) (1 : Int32) (0 : Int32) (4 : Int32) (2 : Int32) (1 : Int32) = ((own_idx q (2 : Int32) (4 : Int32)) <<< ((4 : Int32) &&& 31)) := by
    rw [own_tm1 (by decide) (by decide), show (((1 : Int32) * (3 : Int32)) + (((0 : Int32) * (4 : Int32)) + (1 : Int32))) = (4 : Int32) from by decide, show ((8 : Int32) - ((2 : Int32) * ((1 : Int32) + (1 : Int32)))) = (4 : Int32) from by decide]
  have t2 : own_term q (3 : Int32) (1 : Int32) (0 : Int32) (4 : Int32) (2 : Int32) (2 : Int32) = ((own_idx q (2 : Int32) (5 : Int32)) <<< ((2 : Int32) &&& 31)) := by
    rw [own_tm1 (by decide) (by decide), show (((1 : Int32) * (3 : Int32)) + (((0 : Int32) * (4 : Int32)) + (2 : Int32))) = (5 : Int32) from by decide, show ((8 : Int32) - ((2 : Int32) * ((2 : Int32) + (1 : Int32)))) = (2 : Int32) from by decide]
  have t3 : own_term q (3 : Int32) (1 : Int32) (0 : Int32) (4 : Int32) (2 : Int32) (3 : Int32) = (0 : Int32) := own_tm2 (by decide) (by decide)
  have t4 : own_term q (3 : Int32) (1 : Int32) (0 : Int32) (4 : Int32) (2 : Int32) (4 : Int32) = (0 : Int32) := own_tm0 (by decide)
  have t5 : own_term q (3 : Int32) (1 : Int32) (0 : Int32) (4 : Int32) (2 : Int32) (5 : Int32) = (0 : Int32) := own_tm0 (by decide)
  have t6 : own_term q (3 : Int32) (1 : Int32) (0 : Int32) (4 : Int32) (2 : Int32) (6 : Int32) = (0 : Int32) := own_tm0 (by decide)
  have t7 : own_term q (3 : Int32) (1 : Int32) (0 : Int32) (4 : Int32) (2 : Int32) (7 : Int32) = (0 : Int32) := own_tm0 (by decide)
  unfold own_pin
  rw [show ((1 : Int32) / ((((3 : Int32) * (2 : Int32)) + (7 : Int32)) / (8 : Int32))) = (1 : Int32) from by decide, show ((1 : Int32) % ((((3 : Int32) * (2 : Int32)) + (7 : Int32)) / (8 : Int32))) = (0 : Int32) from by decide, show ((8 : Int32) / (2 : Int32)) = (4 : Int32) from by decide, t0, t1, t2, t3, t4, t5, t6, t7]
theorem own_c2_4_0_0 (q : Int64) : own_pin q (4 : Int32) (2 : Int32) (0 : Int32) = ((((((((((own_idx q (2 : Int32) (0 : Int32)) <<< ((6 : Int32) &&& 31)) ||| ((own_idx q (2 : Int32) (1 : Int32)) <<< ((4 : Int32) &&& 31))) ||| ((own_idx q (2 : Int32) (2 : Int32)) <<< ((2 : Int32) &&& 31))) ||| ((own_idx q (2 : Int32) (3 : Int32)) <<< ((0 : Int32) &&& 31))) ||| (0 : Int32)) ||| (0 : Int32)) ||| (0 : Int32)) ||| (0 : Int32)).toInt8.toInt32) := by
  have t0 : own_term q (4 : Int32) (0 : Int32) (0 : Int32) (4 : Int32) (2 : Int32) (0 : Int32) = ((own_idx q (2 : Int32) (0 : Int32)) <<< ((6 : Int32) &&& 31)) := by
    rw [own_tm1 (by decide) (by decide), show (((0 : Int32) * (4 : Int32)) + (((0 : Int32) * (4 : Int32)) + (0 : Int32))) = (0 : Int32) from by decide, show ((8 : Int32) - ((2 : Int32) * ((0 : Int32) + (1 : Int32)))) = (6 : Int32) from by decide]
  have t1 : own_term q (4 : Int32) (0 : Int32) (0 : Int32) (4 : Int32) (2 : Int32) (1 : Int32) = ((own_idx q (2 : Int32) (1 : Int32)) <<< ((4 : Int32) &&& 31)) := by
    rw [own_tm1 (by decide) (by decide), show (((0 : Int32) * (4 : Int32)) + (((0 : Int32) * (4 : Int32)) + (1 : Int32))) = (1 : Int32) from by decide, show ((8 : Int32) - ((2 : Int32) * ((1 : Int32) + (1 : Int32)))) = (4 : Int32) from by decide]
  have t2 : own_term q (4 : Int32) (0 : Int32) (0 : Int32) (4 : Int32) (2 : Int32) (2 : Int32) = ((own_idx q (2 : Int32) (2 : Int32)) <<< ((2 : Int32) &&& 31)) := by
    rw [own_tm1 (by decide) (by decide), show (((0 : Int32) * (4 : Int32)) + (((0 : Int32) * (4 : Int32)) + (2 : Int32))) = (2 : Int32) from by decide, show ((8 : Int32) - ((2 : Int32) * ((2 : Int32) + (1 : Int32)))) = (2 : Int32) from by decide]
  have t3 : own_term q (4 : Int32) (0 : Int32) (0 : Int32) (4 : Int32) (2 : Int32) (3 : Int32) = ((own_idx q (2 : Int32) (3 : Int32)) <<< ((0 : Int32) &&& 31)) := by
    rw [own_tm1 (by decide) (by decide), show (((0 : Int32) * (4 : Int32)) + (((0 : Int32) * (4 : Int32)) + (3 : Int32))) = (3 : Int32) from by decide, show ((8 : Int32) - ((2 : Int32) * ((3 : Int32) + (1 : Int32)))) = (0 : Int32) from by decide]
  have t4 : own_term q (4 : Int32) (0 : Int32) (0 : Int32) (4 : Int32) (2 : Int32) (4 : Int32) = (0 : Int32) := own_tm0 (by decide)
  have t5 : own_term q (4 : Int32) (0 : Int32) (0 : Int32) (4 : Int32) (2 : Int32) (5 : Int32) = (0 : Int32) := own_tm0 (by decide)
  have t6 : own_term q (4 : Int32) (0 : Int32) (0 : Int32) (4 : Int32) (2 : Int32) (6 : Int32) = (0 : Int32) := own_tm0 (by decide)
  have t7 : own_term q (4 : Int32) (0 : Int32) (0 : Int32) (4 : Int32) (2 : Int32) (7 : Int32) = (0 : Int32) := own_tm0 (by decide)
  unfold own_pin
  rw [show ((0 : Int32) / ((((4 : Int32) * (2 : Int32)) + (7 : Int32)) / (8 : Int32))) = (0 : Int32) from by decide, show ((0 : Int32) % ((((4 : Int32) * (2 : Int32)) + (7 : Int32)) / (8 : Int32))) = (0 : Int32) from by decide, show ((8 : Int32) / (2 : Int32)) = (4 : Int32) from by decide, t0, t1, t2, t3, t4, t5, t6, t7]
theorem own_c2_4_1_0 (q : Int64) : own_pin q (4 : Int32) (2 : Int32) (1 : Int32) = ((((((((((own_idx q (2 : Int32) (4 : Int32)) <<< ((6 : Int32) &&& 31)) ||| ((own_idx q (2 : Int32) (5 : Int32)) <<< ((4 : Int32) &&& 31))) ||| ((own_idx q (2 : Int32) (6 : Int32)) <<< ((2 : Int32) &&& 31))) ||| ((own_idx q (2 : Int32) (7 : Int32)) <<< ((0 : Int32) &&& 31))) ||| (0 : Int32)) ||| (0 : Int32)) ||| (0 : Int32)) ||| (0 : Int32)).toInt8.toInt32) := by
  have t0 : own_term q (4 : Int32) (1 : Int32) (0 : Int32) (4 : Int32) (2 : Int32) (0 : Int32) = ((own_idx q (2 : Int32) (4 : Int32)) <<< ((6 : Int32) &&& 31)) := by
    rw [own_tm1 (by decide) (by decide), show (((1 : Int32) * (4 : Int32)) + (((0 : Int32) * (4 : Int32)) + (0 : Int32))) = (4 : Int32) from by decide, show ((8 : Int32) - ((2 : Int32) * ((0 : Int32) + (1 : Int32)))) = (6 : Int32) from by decide]
  have t1 : own_term q (4 : Int32) (1 : Int32) (0 : Int32) (4 : Int32) (2 : Int32) (1 : Int32) = ((own_idx q (2 : Int32) (5 : Int32)) <<< ((4 : Int32) &&& 31)) := by
    rw [own_tm1 (by decide) (by decide), show (((1 : Int32) * (4 : Int32)) + (((0 : Int32) * (4 : Int32)) + (1 : Int32))) = (5 : Int32) from by decide, show ((8 : Int32) - ((2 : Int32) * ((1 : Int32) + (1 : Int32)))) = (4 : Int32) from by decide]
  have t2 : own_term q (4 : Int32) (1 : Int32) (0 : Int32) (4 : Int32) (2 : Int32) (2 : Int32) = ((own_idx q (2 : Int32) (6 : Int32)) <<< ((2 : Int32) &&& 31)) := by
    rw [own_tm1 (by decide) (by decide), show (((1 : Int32) * (4 : Int32)) + (((0 : Int32) * (4 : Int32)) + (2 : Int32))) = (6 : Int32) from by decide, show ((8 : Int32) - ((2 : Int32) * ((2 : Int32) + (1 : Int32)))) = (2 : Int32) from by decide]
  have t3 : own_term q (4 : Int32) (1 : Int32) (0 : Int32) (4 : Int32) (2 : Int32) (3 : Int32) = ((own_idx q (2 : Int32) (7 : Int32)) <<< ((0 : Int32) &&& 31)) := by
    rw [own_tm1 (by decide) (by decide), show (((1 : Int32) * (4 : Int32)) + (((0 : Int32) * (4 : Int32)) + (3 : Int32))) = (7 : Int32) from by decide, show ((8 : Int32) - ((2 : Int32) * ((3 : Int32) + (1 : Int32)))) = (0 : Int32) from by decide]
  have t4 : own_term q (4 : Int32) (1 : Int32) (0 : Int32) (4 : Int32) (2 : Int32) (4 : Int32) = (0 : Int32) := own_tm0 (by decide)
  have t5 : own_term q (4 : Int32) (1 : Int32) (0 : Int32) (4 : Int32) (2 : Int32) (5 : Int32) = (0 : Int32) := own_tm0 (by decide)
  have t6 : own_term q (4 : Int32) (1 : Int32) (0 : Int32) (4 : Int32) (2 : Int32) (6 : Int32) = (0 : Int32) := own_tm0 (by decide)
  have t7 : own_term q (4 : Int32) (1 : Int32) (0 : Int32) (4 : Int32) (2 : Int32) (7 : Int32) = (0 : Int32) := own_tm0 (by decide)
  unfold own_pin
  rw [show ((1 : Int32) / ((((4 : Int32) * (2 : Int32)) + (7 : Int32)) / (8 : Int32))) = (1 : Int32) from by decide, show ((1 : Int32) % ((((4 : Int32) * (2 : Int32)) + (7 : Int32)) / (8 : Int32))) = (0 : Int32) from by decide, show ((8 : Int32) / (2 : Int32)) = (4 : Int32) from by decide, t0, t1, t2, t3, t4, t5, t6, t7]
theorem own_c2_5_0_0 (q : Int64) : own_pin q (5 : Int32) (2 : Int32) (0 : Int32) = ((((((((((own_idx q (2 : Int32) (0 : Int32)) <<< ((6 : Int32) &&& 31)) ||| ((own_idx q (2 : Int32) (1 : Int32)) <<< ((4 : Int32) &&& 31))) ||| ((own_idx q (2 : Int32) (2 : Int32)) <<< ((2 : Int32) &&& 31))) ||| ((own_idx q (2 : Int32) (3 : Int32)) <<< ((0 : Int32) &&& 31))) ||| (0 : Int32)) ||| (0 : Int32)) ||| (0 : Int32)) ||| (0 : Int32)).toInt8.toInt32) := by
  have t0 : own_term q (5 : Int32) (0 : Int32) (0 : Int32) (4 : Int32) (2 : Int32) (0 : Int32) = ((own_idx q (2 : Int32) (0 : Int32)) <<< ((6 : Int32) &&& 31)) := by
    rw [own_tm1 (by decide) (by decide), show (((0 : Int32) * (5 : Int32)) + (((0 : Int32) * (4 : Int32)) + (0 : Int32))) = (0 : Int32) from by decide, show ((8 : Int32) - ((2 : Int32) * ((0 : Int32) + (1 : Int32)))) = (6 : Int32) from by decide]
  have t1 : own_term q (5 : Int32) (0 : Int32) (0 : Int32) (4 : Int32) (2 : Int32) (1 : Int32) = ((own_idx q (2 : Int32) (1 : Int32)) <<< ((4 : Int32) &&& 31)) := by
    rw [own_tm1 (by decide) (by decide), show (((0 : Int32) * (5 : Int32)) + (((0 : Int32) * (4 : Int32)) + (1 : Int32))) = (1 : Int32) from by decide, show ((8 : Int32) - ((2 : Int32) * ((1 : Int32) + (1 : Int32)))) = (4 : Int32) from by decide]
  have t2 : own_term q (5 : Int32) (0 : Int32) (0 : Int32) (4 : Int32) (2 : Int32) (2 : Int32) = ((own_idx q (2 : Int32) (2 : Int32)) <<< ((2 : Int32) &&& 31)) := by
    rw [own_tm1 (by decide) (by decide), show (((0 : Int32) * (5 : Int32)) + (((0 : Int32) * (4 : Int32)) + (2 : Int32))) = (2 : Int32) from by decide, show ((8 : Int32) - ((2 : Int32) * ((2 : Int32) + (1 : Int32)))) = (2 : Int32) from by decide]
  have t3 : own_term q (5 : Int32) (0 : Int32) (0 : Int32) (4 : Int32) (2 : Int32) (3 : Int32) = ((own_idx q (2 : Int32) (3 : Int32)) <<< ((0 : Int32) &&& 31)) := by
    rw [own_tm1 (by decide) (by decide), show (((0 : Int32) * (5 : Int32)) + (((0 : Int32) * (4 : Int32)) + (3 : Int32))) = (3 : Int32) from by decide, show ((8 : Int32) - ((2 : Int32) * ((3 : Int32) + (1 : Int32)))) = (0 : Int32) from by decide]
  have t4 : own_term q (5 : Int32) (0 : Int32) (0 : Int32) (4 : Int32) (2 : Int32) (4 : Int32) = (0 : Int32) := own_tm0 (by decide)
  have t5 : own_term q (5 : Int32) (0 : Int32) (0 : Int32) (4 : Int32) (2 : Int32) (5 : Int32) = (0 : Int32) := own_tm0 (by decide)
  have t6 : own_term q (5 : Int32) (0 : Int32) (0 : Int32) (4 : Int32) (2 : Int32) (6 : Int32) = (0 : Int32) := own_tm0 (by decide)
  have t7 : own_term q (5 : Int32) (0 : Int32) (0 : Int32) (4 : Int32) (2 : Int32) (7 : Int32) = (0 : Int32) := own_tm0 (by decide)
  unfold own_pin
  rw [show ((0 : Int32) / ((((5 : Int32) * (2 : Int32)) + (7 : Int32)) / (8 : Int32))) = (0 : Int32) from by decide, show ((0 : Int32) % ((((5 : Int32) * (2 : Int32)) + (7 : Int32)) / (8 : Int32))) = (0 : Int32) from by decide, show ((8 : Int32) / (2 : Int32)) = (4 : Int32) from by decide, t0, t1, t2, t3, t4, t5, t6, t7]
theorem own_c2_5_0_1 (q : Int64) : own_pin q (5 : Int32) (2 : Int32) (1 : Int32) = ((((((((((own_idx q (2 : Int32) (4 : Int32)) <<< ((6 : Int32) &&& 31)) ||| (0 : Int32)) ||| (0 : Int32)) ||| (0 : Int32)) ||| (0 : Int32)) ||| (0 : Int32)) ||| (0 : Int32)) ||| (0 : Int32)).toInt8.toInt32) := by
  have t0 : own_term q (5 : Int32) (0 : Int32) (1 : Int32) (4 : Int32) (2 : Int32) (0 : Int32) = ((own_idx q (2 : Int32) (4 : Int32)) <<< ((6 : Int32) &&& 31)) := by
    rw [own_tm1 (by decide) (by decide), show (((0 : Int32) * (5 : Int32)) + (((1 : Int32) * (4 : Int32)) + (0 : Int32))) = (4 : Int32) from by decide, show ((8 : Int32) - ((2 : Int32) * ((0 : Int32) + (1 : Int32)))) = (6 : Int32) from by decide]
  have t1 : own_term q (5 : Int32) (0 : Int32) (1 : Int32) (4 : Int32) (2 : Int32) (1 : Int32) = (0 : Int32) := own_tm2 (by decide) (by decide)
  have t2 : own_term q (5 : Int32) (0 : Int32) (1 : Int32) (4 : Int32) (2 : Int32) (2 : Int32) = (0 : Int32) := own_tm2 (by decide) (by decide)
  have t3 : own_term q (5 : Int32) (0 : Int32) (1 : Int32) (4 : Int32) (2 : Int32) (3 : Int32) = (0 : Int32) := own_tm2 (by decide) (by decide)
  have t4 : own_term q (5 : Int32) (0 : Int32) (1 : Int32) (4 : Int32) (2 : Int32) (4 : Int32) = (0 : Int32) := own_tm0 (by decide)
  have t5 : own_term q (5 : Int32) (0 : Int32) (1 : Int32) (4 : Int32) (2 : Int32) (5 : Int32) = (0 : Int32) := own_tm0 (by decide)
  have t6 : own_term q (5 : Int32) (0 : Int32) (1 : Int32) (4 : Int32) (2 : Int32) (6 : Int32) = (0 : Int32) := own_tm0 (by decide)
  have t7 : own_term q (5 : Int32) (0 : Int32) (1 : Int32) (4 : Int32) (2 : Int32) (7 : Int32) = (0 : Int32) := own_tm0 (by decide)
  unfold own_pin
  rw [show ((1 : Int32) / ((((5 : Int32) * (2 : Int32)) + (7 : Int32)) / (8 : Int32))) = (0 : Int32) from by decide, show ((1 : Int32) % ((((5 : Int32) * (2 : Int32)) + (7 : Int32)) / (8 : Int32))) = (1 : Int32) from by decide, show ((8 : Int32) / (2 : Int32)) = (4 : Int32) from by decide, t0, t1, t2, t3, t4, t5, t6, t7]
theorem own_c2_5_1_0 (q : Int64) : own_pin q (5 : Int32) (2 : Int32) (2 : Int32) = ((((((((((own_idx q (2 : Int32) (5 : Int32)) <<< ((6 : Int32) &&& 31)) ||| ((own_idx q (2 : Int32) (6 : Int32)) <<< ((4 : Int32) &&& 31))) ||| ((own_idx q (2 : Int32) (7 : Int32)) <<< ((2 : Int32) &&& 31))) ||| ((own_idx q (2 : Int32) (8 : Int32)) <<< ((0 : Int32) &&& 31))) ||| (0 : Int32)) ||| (0 : Int32)) ||| (0 : Int32)) ||| (0 : Int32)).toInt8.toInt32) := by
  have t0 : own_term q (5 : Int32) (1 : Int32) (0 : Int32) (4 : Int32) (2 : Int32) (0 : Int32) = ((own_idx q (2 : Int32) (5 : Int32)) <<< ((6 : Int32) &&& 31)) := by
    rw [own_tm1 (by decide) (by decide), show (((1 : Int32) * (5 : Int32)) + (((0 : Int32) * (4 : Int32)) + (0 : Int32))) = (5 : Int32) from by decide, show ((8 : Int32) - ((2 : Int32) * ((0 : Int32) + (1 : Int32)))) = (6 : Int32) from by decide]
  have t1 : own_term q (5 : Int32) (1 : Int32) (0 : Int32) (4 : Int32) (2 : Int32) (1 : Int32) = ((own_idx q (2 : Int32) (6 : Int32)) <<< ((4 : Int32) &&& 31)) := by
    rw [own_tm1 (by decide) (by decide), show (((1 : Int32) * (5 : Int32)) + (((0 : Int32) * (4 : Int32)) + (1 : Int32))) = (6 : Int32) from by decide, show ((8 : Int32) - ((2 : Int32) * ((1 : Int32) + (1 : Int32)))) = (4 : Int32) from by decide]
  have t2 : own_term q (5 : Int32) (1 : Int32) (0 : Int32) (4 : Int32) (2 : Int32) (2 : Int32) = ((own_idx q (2 : Int32) (7 : Int32)) <<< ((2 : Int32) &&& 31)) := by
    rw [own_tm1 (by decide) (by decide), show (((1 : Int32) * (5 : Int32)) + (((0 : Int32) * (4 : Int32)) + (2 : Int32))) = (7 : Int32) from by decide, show ((8 : Int32) - ((2 : Int32) * ((2 : Int32) + (1 : Int32)))) = (2 : Int32) from by decide]
  have t3 : own_term q (5 : Int32) (1 : Int32) (0 : Int32) (4 : Int32) (2 : Int32) (3 : Int32) = ((own_idx q (2 : Int32) (8 : Int32)) <<< ((0 : Int32) &&& 31)) := by
    rw [own_tm1 (by decide) (by decide), show (((1 : Int32) * (5 : Int32)) + (((0 : Int32) * (4 : Int32)) + (3 : Int32))) = (8 : Int32) from by decide, show ((8 : Int32) - ((2 : Int32) * ((3 : Int32) + (1 : Int32)))) = (0 : Int32) from by decide]
  have t4 : own_term q (5 : Int32) (1 : Int32) (0 : Int32) (4 : Int32) (2 : Int32) (4 : Int32) = (0 : Int32) := own_tm0 (by decide)
  have t5 : own_term q (5 : Int32) (1 : Int32) (0 : Int32) (4 : Int32) (2 : Int32) (5 : Int32) = (0 : Int32) := own_tm0 (by decide)
  have t6 : own_term q (5 : Int32) (1 : Int32) (0 : Int32) (4 : Int32) (2 : Int32) (6 : Int32) = (0 : Int32) := own_tm0 (by decide)
  have t7 : own_term q (5 : Int32) (1 : Int32) (0 : Int32) (4 : Int32) (2 : Int32) (7 : Int32) = (0 : Int32) := own_tm0 (by decide)
  unfold own_pin
  rw [show ((2 : Int32) / ((((5 : Int32) * (2 : Int32)) + (7 : Int32)) / (8 : Int32))) = (1 : Int32) from by decide, show ((2 : Int32) % ((((5 : Int32) * (2 : Int32)) + (7 : Int32)) / (8 : Int32))) = (0 : Int32) from by decide, show ((8 : Int32) / (2 : Int32)) = (4 : Int32) from by decide, t0, t1, t2, t3, t4, t5, t6, t7]
theorem own_c2_5_1_1 (q : Int64) : own_pin q (5 : Int32) (2 : Int32) (3 : Int32) = ((((((((((own_idx q (2 : Int32) (9 : Int32)) <<< ((6 : Int32) &&& 31)) ||| (0 : Int32)) ||| (0 : Int32)) ||| (0 : Int32)) ||| (0 : Int32)) ||| (0 : Int32)) ||| (0 : Int32)) ||| (0 : Int32)).toInt8.toInt32) := by
  have t0 : own_term q (5 : Int32) (1 : Int32) (1 : Int32) (4 : Int32) (2 : Int32) (0 : Int32) = ((own_idx q (2 : Int32) (9 : Int32)) <<< ((6 : Int32) &&& 31)) := by
    rw [own_tm1 (by decide) (by decide), show (((1 : Int32) * (5 : Int32)) + (((1 : Int32) * (4 : Int32)) + (0 : Int32))) = (9 : Int32) from by decide, show ((8 : Int32) - ((2 : Int32) * ((0 : Int32) + (1 : Int32)))) = (6 : Int32) from by decide]
  have t1 : own_term q (5 : Int32) (1 : Int32) (1 : Int32) (4 : Int32) (2 : Int32) (1 : Int32) = (0 : Int32) := own_tm2 (by decide) (by decide)
  have t2 : own_term q (5 : Int32) (1 : Int32) (1 : Int32) (4 : Int32) (2 : Int32) (2 : Int32) = (0 : Int32) := own_tm2 (by decide) (by decide)
  have t3 : own_term q (5 : Int32) (1 : Int32) (1 : Int32) (4 : Int32) (2 : Int32) (3 : Int32) = (0 : Int32) := own_tm2 (by decide) (by decide)
  have t4 : own_term q (5 : Int32) (1 : Int32) (1 : Int32) (4 : Int32) (2 : Int32) (4 : Int32) = (0 : Int32) := own_tm0 (by decide)
  have t5 : own_term q (5 : Int32) (1 : Int32) (1 : Int32) (4 : Int32) (2 : Int32) (5 : Int32) = (0 : Int32) := own_tm0 (by decide)
  have t6 : own_term q (5 : Int32) (1 : Int32) (1 : Int32) (4 : Int32) (2 : Int32) (6 : Int32) = (0 : Int32) := own_tm0 (by decide)
  have t7 : own_term q (5 : Int32) (1 : Int32) (1 : Int32) (4 : Int32) (2 : Int32) (7 : Int32) = (0 : Int32) := own_tm0 (by decide)
  unfold own_pin
  rw [show ((3 : Int32) / ((((5 : Int32) * (2 : Int32)) + (7 : Int32)) / (8 : Int32))) = (1 : Int32) from by decide, show ((3 : Int32) % ((((5 : Int32) * (2 : Int32)) + (7 : Int32)) / (8 : Int32))) = (1 : Int32) from by decide, show ((8 : Int32) / (2 : Int32)) = (4 : Int32) from by decide, t0, t1, t2, t3, t4, t5, t6, t7]
theorem own_c2_6_0_0 (q : Int64) : own_pin q (6 : Int32) (2 : Int32) (0 : Int32) = ((((((((((own_idx q (2 : Int32) (0 : Int32)) <<< ((6 : Int32) &&& 31)) ||| ((own_idx q (2 : Int32) (1 : Int32)) <<< ((4 : Int32) &&& 31))) ||| ((own_idx q (2 : Int32) (2 : Int32)) <<< ((2 : Int32) &&& 31))) ||| ((own_idx q (2 : Int32) (3 : Int32)) <<< ((0 : Int32) &&& 31))) ||| (0 : Int32)) ||| (0 : Int32)) ||| (0 : Int32)) ||| (0 : Int32)).toInt8.toInt32) := by
  have t0 : own_term q (6 : Int32) (0 : Int32) (0 : Int32) (4 : Int32) (2 : Int32) (0 : Int32) = ((own_idx q (2 : Int32) (0 : Int32)) <<< ((6 : Int32) &&& 31)) := by
    rw [own_tm1 (by decide) (by decide), show (((0 : Int32) * (6 : Int32)) + (((0 : Int32) * (4 : Int32)) + (0 : Int32))) = (0 : Int32) from by decide, show ((8 : Int32) - ((2 : Int32) * ((0 : Int32) + (1 : Int32)))) = (6 : Int32) from by decide]
  have t1 : own_term q (6 : Int32) (0 : Int32) (0 : Int32) (4 : Int32) (2 : Int32) (1 : Int32) = ((own_idx q (2 : Int32) (1 : Int32)) <<< ((4 : Int32) &&& 31)) := by
    rw [own_tm1 (by decide) (by decide), show (((0 : Int32) * (6 : Int32)) + (((0 : Int32) * (4 : Int32)) + (1 : Int32))) = (1 : Int32) from by decide, show ((8 : Int32) - ((2 : Int32) * ((1 : Int32) + (1 : Int32)))) = (4 : Int32) from by decide]
  have t2 : own_term q (6 : Int32) (0 : Int32) (0 : Int32) (4 : Int32) (2 : Int32) (2 : Int32) = ((own_idx q (2 : Int32) (2 : Int32)) <<< ((2 : Int32) &&& 31)) := by
    rw [own_tm1 (by decide) (by decide), show (((0 : Int32) * (6 : Int32)) + (((0 : Int32) * (4 : Int32)) + (2 : Int32))) = (2 : Int32) from by decide, show ((8 : Int32) - ((2 : Int32) * ((2 : Int32) + (1 : Int32)))) = (2 : Int32) from by decide]
  have t3 : own_term q (6 : Int32) (0 : Int32) (0 : Int32) (4 : Int32) (2 : Int32) (3 : Int32) = ((own_idx q (2 : Int32) (3 : Int32)) <<< ((0 : Int32) &&& 31)) := by
    rw [own_tm1 (by decide) (by decide), show (((0 : Int32) * (6 : Int32)) + (((0 : Int32) * (4 : Int32)) + (3 : Int32))) = (3 : Int32) from by decide, show ((8 : Int32) - ((2 : Int32) * ((3 : Int32) + (1 : Int32)))) = (0 : Int32) from by decide]
  have t4 : own_term q (6 : Int32) (0 : Int32) (0 : Int32) (4 : Int32) (2 : Int32) (4 : Int32) = (0 : Int32) := own_tm0 (by decide)
  have t5 : own_term q (6 : Int32) (0 : Int32) (0 : Int32) (4 : Int32) (2 : Int32) (5 : Int32) = (0 : Int32) := own_tm0 (by decide)
  have t6 : own_term q (6 : Int32) (0 : Int32) (0 : Int32) (4 : Int32) (2 : Int32) (6 : Int32) = (0 : Int32) := own_tm0 (by decide)
  have t7 : own_term q (6 : Int32) (0 : Int32) (0 : Int32) (4 : Int32) (2 : Int32) (7 : Int32) = (0 : Int32) := own_tm0 (by decide)
  unfold own_pin
  rw [show ((0 : Int32) / ((((6 : Int32) * (2 : Int32)) + (7 : Int32)) / (8 : Int32))) = (0 : Int32) from by decide, show ((0 : Int32) % ((((6 : Int32) * (2 : Int32)) + (7 : Int32)) / (8 : Int32))) = (0 : Int32) from by decide, show ((8 : Int32) / (2 : Int32)) = (4 : Int32) from by decide, t0, t1, t2, t3, t4, t5, t6, t7]
theorem own_c2_6_0_1 (q : Int64) : own_pin q (6 : Int32) (2 : Int32) (1 : Int32) = ((((((((((own_idx q (2 : Int32) (4 : Int32)) <<< ((6 : Int32) &&& 31)) ||| ((own_idx q (2 : Int32) (5 : Int32)) <<< ((4 : Int32) &&& 31))) ||| (0 : Int32)) ||| (0 : Int32)) ||| (0 : Int32)) ||| (0 : Int32)) ||| (0 : Int32)) ||| (0 : Int32)).toInt8.toInt32) := by
  have t0 : own_term q (6 : Int32) (0 : Int32) (1 : Int32) (4 : Int32) (2 : Int32) (0 : Int32) = ((own_idx q (2 : Int32) (4 : Int32)) <<< ((6 : Int32) &&& 31)) := by
    rw [own_tm1 (by decide) (by decide), show (((0 : Int32) * (6 : Int32)) + (((1 : Int32) * (4 : Int32)) + (0 : Int32))) = (4 : Int32) from by decide, show ((8 : Int32) - ((2 : Int32) * ((0 : Int32) + (1 : Int32)))) = (6 : Int32) from by decide]
  have t1 : own_term q (6 : Int32) (0 : Int32) (1 : Int32) (4 : Int32) (2 : Int32) (1 : Int32) = ((own_idx q (2 : Int32) (5 : Int32)) <<< ((4 : Int32) &&& 31)) := by
    rw [own_tm1 (by decide) (by decide), show (((0 : Int32) * (6 : Int32)) + (((1 : Int32) * (4 : Int32)) + (1 : Int32))) = (5 : Int32) from by decide, show ((8 : Int32) - ((2 : Int32) * ((1 : Int32) + (1 : Int32)))) = (4 : Int32) from by decide]
  have t2 : own_term q (6 : Int32) (0 : Int32) (1 : Int32) (4 : Int32) (2 : Int32) (2 : Int32) = (0 : Int32) := own_tm2 (by decide) (by decide)
  have t3 : own_term q (6 : Int32) (0 : Int32) (1 : Int32) (4 : Int32) (2 : Int32) (3 : Int32) = (0 : Int32) := own_tm2 (by decide) (by decide)
  have t4 : own_term q (6 : Int32) (0 : Int32) (1 : Int32) (4 : Int32) (2 : Int32) (4 : Int32) = (0 : Int32) := own_tm0 (by decide)
  have t5 : own_term q (6 : Int32) (0 : Int32) (1 : Int32) (4 : Int32) (2 : Int32) (5 : Int32) = (0 : Int32) := own_tm0 (by decide)
  have t6 : own_term q (6 : Int32) (0 : Int32) (1 : Int32) (4 : Int32) (2 : Int32) (6 : Int32) = (0 : Int32) := own_tm0 (by decide)
  have t7 : own_term q (6 : Int32) (0 : Int32) (1 : Int32) (4 : Int32) (2 : Int32) (7 : Int32) = (0 : Int32) := own_tm0 (by decide)
  unfold own_pin
  rw [show ((1 : Int32) / ((((6 : Int32) * (2 : Int32)) + (7 : Int32)) / (8 : Int32))) = (0 : Int32) from by decide, show ((1 : Int32) % ((((6 : Int32) * (2 : Int32)) + (7 : Int32)) / (8 : Int32))) = (1 : Int32) from by decide, show ((8 : Int32) / (2 : Int32)) = (4 : Int32) from by decide, t0, t1, t2, t3, t4, t5, t6, t7]
theorem own_c2_6_1_0 (q : Int64) : own_pin q (6 : Int32) (2 : Int32) (2 : Int32) = ((((((((((own_idx q (2 : Int32) (6 : Int32)) <<< ((6 : Int32) &&& 31)) ||| ((own_idx q (2 : Int32) (7 : Int32)) <<< ((4 : Int32) &&& 31))) ||| ((own_idx q (2 : Int32) (8 : Int32)) <<< ((2 : Int32) &&& 31))) ||| ((own_idx q (2 : Int32) (9 : Int32)) <<< ((0 : Int32) &&& 31))) ||| (0 : Int32)) ||| (0 : Int32)) ||| (0 : Int32)) ||| (0 : Int32)).toInt8.toInt32) := by
  have t0 : own_term q (6 : Int32) (1 : Int32) (0 : Int32) (4 : Int32) (2 : Int32) (0 : Int32) = ((own_idx q (2 : Int32) (6 : Int32)) <<< ((6 : Int32) &&& 31)) := by
    rw [own_tm1 (by decide) (by decide), show (((1 : Int32) * (6 : Int32)) + (((0 : Int32) * (4 : Int32)) + (0 : Int32))) = (6 : Int32) from by decide, show ((8 : Int32) - ((2 : Int32) * ((0 : Int32) + (1 : Int32)))) = (6 : Int32) from by decide]
  have t1 : own_term q (6 : Int32) (1 : Int32) (0 : Int32) (4 : Int32) (2 : Int32) (1 : Int32) = ((own_idx q (2 : Int32) (7 : Int32)) <<< ((4 : Int32) &&& 31)) := by
    rw [own_tm1 (by decide) (by decide), show (((1 : Int32) * (6 : Int32)) + (((0 : Int32) * (4 : Int32)) + (1 : Int32))) = (7 : Int32) from by decide, show ((8 : Int32) - ((2 : Int32) * ((1 : Int32) + (1 : Int32)))) = (4 : Int32) from by decide]
  have t2 : own_term q (6 : Int32) (1 : Int32) (0 : Int32) (4 : Int32) (2 : Int32) (2 : Int32) = ((own_idx q (2 : Int32) (8 : Int32)) <<< ((2 : Int32) &&& 31)) := by
    rw [own_tm1 (by decide) (by decide), show (((1 : Int32) * (6 : Int32)) + (((0 : Int32) * (4 : Int32)) + (2 : Int32))) = (8 : Int32) from by decide, show ((8 : Int32) - ((2 : Int32) * ((2 : Int32) + (1 : Int32)))) = (2 : Int32) from by decide]
  have t3 : own_term q (6 : Int32) (1 : Int32) (0 : Int32) (4 : Int32) (2 : Int32) (3 : Int32) = ((own_idx q (2 : Int32) (9 : Int32)) <<< ((0 : Int32) &&& 31)) := by
    rw [own_tm1 (by decide) (by decide), show (((1 : Int32) * (6 : Int32)) + (((0 : Int32) * (4 : Int32)) + (3 : Int32))) = (9 : Int32) from by decide, show ((8 : Int32) - ((2 : Int32) * ((3 : Int32) + (1 : Int32)))) = (0 : Int32) from by decide]
  have t4 : own_term q (6 : Int32) (1 : Int32) (0 : Int32) (4 : Int32) (2 : Int32) (4 : Int32) = (0 : Int32) := own_tm0 (by decide)
  have t5 : own_term q (6 : Int32) (1 : Int32) (0 : Int32) (4 : Int32) (2 : Int32) (5 : Int32) = (0 : Int32) := own_tm0 (by decide)
  have t6 : own_term q (6 : Int32) (1 : Int32) (0 : Int32) (4 : Int32) (2 : Int32) (6 : Int32) = (0 : Int32) := own_tm0 (by decide)
  have t7 : own_term q (6 : Int32) (1 : Int32) (0 : Int32) (4 : Int32) (2 : Int32) (7 : Int32) = (0 : Int32) := own_tm0 (by decide)
  unfold own_pin
  rw [show ((2 : Int32) / ((((6 : Int32) * (2 : Int32)) + (7 : Int32)) / (8 : Int32))) = (1 : Int32) from by decide, show ((2 : Int32) % ((((6 : Int32) * (2 : Int32)) + (7 : Int32)) / (8 : Int32))) = (0 : Int32) from by decide, show ((8 : Int32) / (2 : Int32)) = (4 : Int32) from by decide, t0, t1, t2, t3, t4, t5, t6, t7]
theorem own_c2_6_1_1 (q : Int64) : own_pin q (6 : Int32) (2 : Int32) (3 : Int32) = ((((((((((own_idx q (2 : Int32) (10 : Int32)) <<< ((6 : Int32) &&& 31)) ||| ((own_idx q (2 : Int32) (11 : Int32)) <<< ((4 : Int32) &&& 31))) ||| (0 : Int32)) ||| (0 : Int32)) ||| (0 : Int32)) ||| (0 : Int32)) ||| (0 : Int32)) ||| (0 : Int32)).toInt8.toInt32) := by
  have t0 : own_term q (6 : Int32) (1 : Int32) (1 : Int32) (4 : Int32) (2 : Int32) (0 : Int32) = ((own_idx q (2 : Int32) (10 : Int32)) <<< ((6 : Int32) &&& 31)) := by
    rw [own_tm1 (by decide) (by decide), show (((1 : Int32) * (6 : Int32)) + (((1 : Int32) * (4 : Int32)) + (0 : Int32))) = (10 : Int32) from by decide, show ((8 : Int32) - ((2 : Int32) * ((0 : Int32) + (1 : Int32)))) = (6 : Int32) from by decide]
  have t1 : own_term q (6 : Int32) (1 : Int32) (1 : Int32) (4 : Int32) (2 : Int32) (1 : Int32) = ((own_idx q (2 : Int32) (11 : Int32)) <<< ((4 : Int32) &&& 31)) := by
    rw [own_tm1 (by decide) (by decide), show (((1 : Int32) * (6 : Int32)) + (((1 : Int32) * (4 : Int32)) + (1 : Int32))) = (11 : Int32) from by decide, show ((8 : Int32) - ((2 : Int32) * ((1 : Int32) + (1 : Int32)))) = (4 : Int32) from by decide]
  have t2 : own_term q (6 : Int32) (1 : Int32) (1 : Int32) (4 : Int32) (2 : Int32) (2 : Int32) = (0 : Int32) := own_tm2 (by decide) (by decide)
  have t3 : own_term q (6 : Int32) (1 : Int32) (1 : Int32) (4 : Int32) (2 : Int32) (3 : Int32) = (0 : Int32) := own_tm2 (by decide) (by decide)
  have t4 : own_term q (6 : Int32) (1 : Int32) (1 : Int32) (4 : Int32) (2 : Int32) (4 : Int32) = (0 : Int32) := own_tm0 (by decide)
  have t5 : own_term q (6 : Int32) (1 : Int32) (1 : Int32) (4 : Int32) (2 : Int32) (5 : Int32) = (0 : Int32) := own_tm0 (by decide)
  have t6 : own_term q (6 : Int32) (1 : Int32) (1 : Int32) (4 : Int32) (2 : Int32) (6 : Int32) = (0 : Int32) := own_tm0 (by decide)
  have t7 : own_term q (6 : Int32) (1 : Int32) (1 : Int32) (4 : Int32) (2 : Int32) (7 : Int32) = (0 : Int32) := own_tm0 (by decide)
  unfold own_pin
  rw [show ((3 : Int32) / ((((6 : Int32) * (2 : Int32)) + (7 : Int32)) / (8 : Int32))) = (1 : Int32) from by decide, show ((3 : Int32) % ((((6 : Int32) * (2 : Int32)) + (7 : Int32)) / (8 : Int32))) = (1 : Int32) from by decide, show ((8 : Int32) / (2 : Int32)) = (4 : Int32) from by decide, t0, t1, t2, t3, t4, t5, t6, t7]
theorem own_c2_7_0_0 (q : Int64) : own_pin q (7 : Int32) (2 : Int32) (0 : Int32) = ((((((((((own_idx q (2 : Int32) (0 : Int32)) <<< ((6 : Int32) &&& 31)) ||| ((own_idx q (2 : Int32) (1 : Int32)) <<< ((4 : Int32) &&& 31))) ||| ((own_idx q (2 : Int32) (2 : Int32)) <<< ((2 : Int32) &&& 31))) ||| ((own_idx q (2 : Int32) (3 : Int32)) <<< ((0 : Int32) &&& 31))) ||| (0 : Int32)) ||| (0 : Int32)) ||| (0 : Int32)) ||| (0 : Int32)).toInt8.toInt32) := by
  have t0 : own_term q (7 : Int32) (0 : Int32) (0 : Int32) (4 : Int32) (2 : Int32) (0 : Int32) = ((own_idx q (2 : Int32) (0 : Int32)) <<< ((6 : Int32) &&& 31)) := by
    rw [own_tm1 (by decide) (by decide), show (((0 : Int32) * (7 : Int32)) + (((0 : Int32) * (4 : Int32)) + (0 : Int32))) = (0 : Int32) from by decide, show ((8 : Int32) - ((2 : Int32) * ((0 : Int32) + (1 : Int32)))) = (6 : Int32) from by decide]
  have t1 : own_term q (7 : Int32) (0 : Int32) (0 : Int32) (4 : Int32) (2 : Int32) (1 : Int32) = ((own_idx q (2 : Int32) (1 : Int32)) <<< ((4 : Int32) &&& 31)) := by
    rw [own_tm1 (by decide) (by decide), show (((0 : Int32) * (7 : Int32)) + (((0 : Int32) * (4 : Int32)) + (1 : Int32))) = (1 : Int32) from by decide, show ((8 : Int32) - ((2 : Int32) * ((1 : Int32) + (1 : Int32)))) = (4 : Int32) from by decide]
  have t2 : own_term q (7 : Int32) (0 : Int32) (0 : Int32) (4 : Int32) (2 : Int32) (2 : Int32) = ((own_idx q (2 : Int32) (2 : Int32)) <<< ((2 : Int32) &&& 31)) := by
    rw [own_tm1 (by decide) (by decide), show (((0 : Int32) * (7 : Int32)) + (((0 : Int32) * (4 : Int32)) + (2 : Int32))) = (2 : Int32) from by decide, show ((8 : Int32) - ((2 : Int32) * ((2 : Int32) + (1 : Int32)))) = (2 : Int32) from by decide]
  have t3 : own_term q (7 : Int32) (0 : Int32) (0 : Int32) (4 : Int32) (2 : Int32) (3 : Int32) = ((own_idx q (2 : Int32) (3 : Int32)) <<< ((0 : Int32) &&& 31)) := by
    rw [own_tm1 (by decide) (by decide), show (((0 : Int32) * (7 : Int32)) + (((0 : Int32) * (4 : Int32)) + (3 : Int32))) = (3 : Int32) from by decide, show ((8 : Int32) - ((2 : Int32) * ((3 : Int32) + (1 : Int32)))) = (0 : Int32) from by decide]
  have t4 : own_term q (7 : Int32) (0 : Int32) (0 : Int32) (4 : Int32) (2 : Int32) (4 : Int32) = (0 : Int32) := own_tm0 (by decide)
  have t5 : own_term q (7 : Int32) (0 : Int32) (0 : Int32) (4 : Int32) (2 : Int32) (5 : Int32) = (0 : Int32) := own_tm0 (by decide)
  have t6 : own_term q (7 : Int32) (0 : Int32) (0 : Int32) (4 : Int32) (2 : Int32) (6 : Int32) = (0 : Int32) := own_tm0 (by decide)
  have t7 : own_term q (7 : Int32) (0 : Int32) (0 : Int32) (4 : Int32) (2 : Int32) (7 : Int32) = (0 : Int32) := own_tm0 (by decide)
  unfold own_pin
  rw [show ((0 : Int32) / ((((7 : Int32) * (2 : Int32)) + (7 : Int32)) / (8 : Int32))) = (0 : Int32) from by decide, show ((0 : Int32) % ((((7 : Int32) * (2 : Int32)) + (7 : Int32)) / (8 : Int32))) = (0 : Int32) from by decide, show ((8 : Int32) / (2 : Int32)) = (4 : Int32) from by decide, t0, t1, t2, t3, t4, t5, t6, t7]
theorem own_c2_7_0_1 (q : Int64) : own_pin q (7 : Int32) (2 : Int32) (1 : Int32) = ((((((((((own_idx q (2 : Int32) (4 : Int32)) <<< ((6 : Int32) &&& 31)) ||| ((own_idx q (2 : Int32) (5 : Int32)) <<< ((4 : Int32) &&& 31))) ||| ((own_idx q (2 : Int32) (6 : Int32)) <<< ((2 : Int32) &&& 31))) ||| (0 : Int32)) ||| (0 : Int32)) ||| (0 : Int32)) ||| (0 : Int32)) ||| (0 : Int32)).toInt8.toInt32) := by
  have t0 : own_term q (7 : Int32) (0 : Int32) (1 : Int32) (4 : Int32) (2 : Int32) (0 : Int32) = ((own_idx q (2 : Int32) (4 : Int32)) <<< ((6 : Int32) &&& 31)) := by
    rw [own_tm1 (by decide) (by decide), show (((0 : Int32) * (7 : Int32)) + (((1 : Int32) * (4 : Int32)) + (0 : Int32))) = (4 : Int32) from by decide, show ((8 : Int32) - ((2 : Int32) * ((0 : Int32) + (1 : Int32)))) = (6 : Int32) from by decide]
  have t1 : own_term q (7 : Int32) (0 : Int32) (1 : Int32) (4 : Int32) (2 : Int32) (1 : Int32) = ((own_idx q (2 : Int32) (5 : Int32)) <<< ((4 : Int32) &&& 31)) := by
    rw [own_tm1 (by decide) (by decide), show (((0 : Int32) * (7 : Int32)) + (((1 : Int32) * (4 : Int32)) + (1 : Int32))) = (5 : Int32) from by decide, show ((8 : Int32) - ((2 : Int32) * ((1 : Int32) + (1 : Int32)))) = (4 : Int32) from by decide]
  have t2 : own_term q (7 : Int32) (0 : Int32) (1 : Int32) (4 : Int32) (2 : Int32) (2 : Int32) = ((own_idx q (2 : Int32) (6 : Int32)) <<< ((2 : Int32) &&& 31)) := by
    rw [own_tm1 (by decide) (by decide), show (((0 : Int32) * (7 : Int32)) + (((1 : Int32) * (4 : Int32)) + (2 : Int32))) = (6 : Int32) from by decide, show ((8 : Int32) - ((2 : Int32) * ((2 : Int32) + (1 : Int32)))) = (2 : Int32) from by decide]
  have t3 : own_term q (7 : Int32) (0 : Int32) (1 : Int32) (4 : Int32) (2 : Int32) (3 : Int32) = (0 : Int32) := own_tm2 (by decide) (by decide)
  have t4 : own_term q (7 : Int32) (0 : Int32) (1 : Int32) (4 : Int32) (2 : Int32) (4 : Int32) = (0 : Int32) := own_tm0 (by decide)
  have t5 : own_term q (7 : Int32) (0 : Int32) (1 : Int32) (4 : Int32) (2 : Int32) (5 : Int32) = (0 : Int32) := own_tm0 (by decide)
  have t6 : own_term q (7 : Int32) (0 : Int32) (1 : Int32) (4 : Int32) (2 : Int32) (6 : Int32) = (0 : Int32) := own_tm0 (by decide)
  have t7 : own_term q (7 : Int32) (0 : Int32) (1 : Int32) (4 : Int32) (2 : Int32) (7 : Int32) = (0 : Int32) := own_tm0 (by decide)
  unfold own_pin
  rw [show ((1 : Int32) / ((((7 : Int32) * (2 : Int32)) + (7 : Int32)) / (8 : Int32))) = (0 : Int32) from by decide, show ((1 : Int32) % ((((7 : Int32) * (2 : Int32)) + (7 : Int32)) / (8 : Int32))) = (1 : Int32) from by decide, show ((8 : Int32) / (2 : Int32)) = (4 : Int32) from by decide, t0, t1, t2, t3, t4, t5, t6, t7]
theorem own_c2_7_1_0 (q : Int64) : own_pin q (7 : Int32) (2 : Int32) (2 : Int32) = ((((((((((own_idx q (2 : Int32) (7 : Int32)) <<< ((6 : Int32) &&& 31)) ||| ((own_idx q (2 : Int32) (8 : Int32)) <<< ((4 : Int32) &&& 31))) ||| ((own_idx q (2 : Int32) (9 : Int32)) <<< ((2 : Int32) &&& 31))) ||| ((own_idx q (2 : Int32) (10 : Int32)) <<< ((0 : Int32) &&& 31))) ||| (0 : Int32)) ||| (0 : Int32)) ||| (0 : Int32)) ||| (0 : Int32)).toInt8.toInt32) := by
  have t0 : own_term q (7 : Int32) (1 : Int32) (0 : Int32) (4 : Int32) (2 : Int32) (0 : Int32) = ((own_idx q (2 : Int32) (7 : Int32)) <<< ((6 : Int32) &&& 31)) := by
    rw [own_tm1 (by decide) (by decide), show (((1 : Int32) * (7 : Int32)) + (((0 : Int32) * (4 : Int32)) + (0 : Int32))) = (7 : Int32) from by decide, show ((8 : Int32) - ((2 : Int32) * ((0 : Int32) + (1 : Int32)))) = (6 : Int32) from by decide]
  have t1 : own_term q (7 : Int32) (1 : Int32) (0 : Int32) (4 : Int32) (2 : Int32) (1 : Int32) = ((own_idx q (2 : Int32) (8 : Int32)) <<< ((4 : Int32) &&& 31)) := by
    rw [own_tm1 (by decide) (by decide), show (((1 : Int32) * (7 : Int32)) + (((0 : Int32) * (4 : Int32)) + (1 : Int32))) = (8 : Int32) from by decide, show ((8 : Int32) - ((2 : Int32) * ((1 : Int32) + (1 : Int32)))) = (4 : Int32) from by decide]
  have t2 : own_term q (7 : Int32) (1 : Int32) (0 : Int32) (4 : Int32) (2 : Int32) (2 : Int32) = ((own_idx q (2 : Int32) (9 : Int32)) <<< ((2 : Int32) &&& 31)) := by
    rw [own_tm1 (by decide) (by decide), show (((1 : Int32) * (7 : Int32)) + (((0 : Int32) * (4 : Int32)) + (2 : Int32))) = (9 : Int32) from by decide, show ((8 : Int32) - ((2 : Int32) * ((2 : Int32) + (1 : Int32)))) = (2 : Int32) from by decide]
  have t3 : own_term q (7 : Int32) (1 : Int32) (0 : Int32) (4 : Int32) (2 : Int32) (3 : Int32) = ((own_idx q (2 : Int32) (10 : Int32)) <<< ((0 : Int32) &&& 31)) := by
    rw [own_tm1 (by decide) (by decide), show (((1 : Int32) * (7 : Int32)) + (((0 : Int32) * (4 : Int32)) + (3 : Int32))) = (10 : Int32) from by decide, show ((8 : Int32) - ((2 : Int32) * ((3 : Int32) + (1 : Int32)))) = (0 : Int32) from by decide]
  have t4 : own_term q (7 : Int32) (1 : Int32) (0 : Int32) (4 : Int32) (2 : Int32) (4 : Int32) = (0 : Int32) := own_tm0 (by decide)
  have t5 : own_term q (7 : Int32) (1 : Int32) (0 : Int32) (4 : Int32) (2 : Int32) (5 : Int32) = (0 : Int32) := own_tm0 (by decide)
  have t6 : own_term q (7 : Int32) (1 : Int32) (0 : Int32) (4 : Int32) (2 : Int32) (6 : Int32) = (0 : Int32) := own_tm0 (by decide)
  have t7 : own_term q (7 : Int32) (1 : Int32) (0 : Int32) (4 : Int32) (2 : Int32) (7 : Int32) = (0 : Int32) := own_tm0 (by decide)
  unfold own_pin
  rw [show ((2 : Int32) / ((((7 : Int32) * (2 : Int32)) + (7 : Int32)) / (8 : Int32))) = (1 : Int32) from by decide, show ((2 : Int32) % ((((7 : Int32) * (2 : Int32)) + (7 : Int32)) / (8 : Int32))) = (0 : Int32) from by decide, show ((8 : Int32) / (2 : Int32)) = (4 : Int32) from by decide, t0, t1, t2, t3, t4, t5, t6, t7]
theorem own_c2_7_1_1 (q : Int64) : own_pin q (7 : Int32) (2 : Int32) (3 : Int32) = ((((((((((own_idx q (2 : Int32) (11 : Int32)) <<< ((6 : Int32) &&& 31)) ||| ((own_idx q (2 : Int32) (12 : Int32)) <<< ((4 : Int32) &&& 31))) ||| ((own_idx q (2 : Int32) (13 : Int32)) <<< ((2 : Int32) &&& 31))) ||| (0 : Int32)) ||| (0 : Int32)) ||| (0 : Int32)) ||| (0 : Int32)) ||| (0 : Int32)).toInt8.toInt32) := by
  have t0 : own_term q (7 : Int32) (1 : Int32) (1 : Int32) (4 : Int32) (2 : Int32) (0 : Int32) = ((own_idx q (2 : Int32) (11 : Int32)) <<< ((6 : Int32) &&& 31)) := by
    rw [own_tm1 (by decide) (by decide), show (((1 : Int32) * (7 : Int32)) + (((1 : Int32) * (4 : Int32)) + (0 : Int32))) = (11 : Int32) from by decide, show ((8 : Int32) - ((2 : Int32) * ((0 : Int32) + (1 : Int32)))) = (6 : Int32) from by decide]
  have t1 : own_term q (7 : Int32) (1 : Int32) (1 : Int32) (4 : Int32) (2 : Int32) (1 : Int32) = ((own_idx q (2 : Int32) (12 : Int32)) <<< ((4 : Int32) &&& 31)) := by
    rw [own_tm1 (by decide) (by decide), show (((1 : Int32) * (7 : Int32)) + (((1 : Int32) * (4 : Int32)) + (1 : Int32))) = (12 : Int32) from by decide, show ((8 : Int32) - ((2 : Int32) * ((1 : Int32) + (1 : Int32)))) = (4 : Int32) from by decide]
  have t2 : own_term q (7 : Int32) (1 : Int32) (1 : Int32) (4 : Int32) (2 : Int32) (2 : Int32) = ((own_idx q (2 : Int32) (13 : Int32)) <<< ((2 : Int32) &&& 31)) := by
    rw [own_tm1 (by decide) (by decide), show (((1 : Int32) * (7 : Int32)) + (((1 : Int32) * (4 : Int32)) + (2 : Int32))) = (13 : Int32) from by decide, show ((8 : Int32) - ((2 : Int32) * ((2 : Int32) + (1 : Int32)))) = (2 : Int32) from by decide]
  have t3 : own_term q (7 : Int32) (1 : Int32) (1 : Int32) (4 : Int32) (2 : Int32) (3 : Int32) = (0 : Int32) := own_tm2 (by decide) (by decide)
  have t4 : own_term q (7 : Int32) (1 : Int32) (1 : Int32) (4 : Int32) (2 : Int32) (4 : Int32) = (0 : Int32) := own_tm0 (by decide)
  have t5 : own_term q (7 : Int32) (1 : Int32) (1 : Int32) (4 : Int32) (2 : Int32) (5 : Int32) = (0 : Int32) := own_tm0 (by decide)
  have t6 : own_term q (7 : Int32) (1 : Int32) (1 : Int32) (4 : Int32) (2 : Int32) (6 : Int32) = (0 : Int32) := own_tm0 (by decide)
  have t7 : own_term q (7 : Int32) (1 : Int32) (1 : Int32) (4 : Int32) (2 : Int32) (7 : Int32) = (0 : Int32) := own_tm0 (by decide)
  unfold own_pin
  rw [show ((3 : Int32) / ((((7 : Int32) * (2 : Int32)) + (7 : Int32)) / (8 : Int32))) = (1 : Int32) from by decide, show ((3 : Int32) % ((((7 : Int32) * (2 : Int32)) + (7 : Int32)) / (8 : Int32))) = (1 : Int32) from by decide, show ((8 : Int32) / (2 : Int32)) = (4 : Int32) from by decide, t0, t1, t2, t3, t4, t5, t6, t7]
theorem own_c2_8_0_0 (q : Int64) : own_pin q (8 : Int32) (2 : Int32) (0 : Int32) = ((((((((((own_idx q (2 : Int32) (0 : Int32)) <<< ((6 : Int32) &&& 31)) ||| ((own_idx q (2 : Int32) (1 : Int32)) <<< ((4 : Int32) &&& 31))) ||| ((own_idx q (2 : Int32) (2 : Int32)) <<< ((2 : Int32) &&& 31))) ||| ((own_idx q (2 : Int32) (3 : Int32)) <<< ((0 : Int32) &&& 31))) ||| (0 : Int32)) ||| (0 : Int32)) ||| (0 : Int32)) ||| (0 : Int32)).toInt8.toInt32) := by
  have t0 : own_term q (8 : Int32) (0 : Int32) (0 : Int32) (4 : Int32) (2 : Int32) (0 : Int32) = ((own_idx q (2 : Int32) (0 : Int32)) <<< ((6 : Int32) &&& 31)) := by
    rw [own_tm1 (by decide) (by decide), show (((0 : Int32) * (8 : Int32)) + (((0 : Int32) * (4 : Int32)) + (0 : Int32))) = (0 : Int32) from by decide, show ((8 : Int32) - ((2 : Int32) * ((0 : Int32) + (1 : Int32)))) = (6 : Int32) from by decide]
  have t1 : own_term q (8 : Int32) (0 : Int32) (0 : Int32) (4 : Int32) (2 : Int32) (1 : Int32) = ((own_idx q (2 : Int32) (1 : Int32)) <<< ((4 : Int32) &&& 31)) := by
    rw [own_tm1 (by decide) (by decide), show (((0 : Int32) * (8 : Int32)) + (((0 : Int32) * (4 : Int32)) + (1 : Int32))) = (1 : Int32) from by decide, show ((8 : Int32) - ((2 : Int32) * ((1 : Int32) + (1 : Int32)))) = (4 : Int32) from by decide]
  have t2 : own_term q (8 : Int32) (0 : Int32) (0 : Int32) (4 : Int32) (2 : Int32) (2 : Int32) = ((own_idx q (2 : Int32) (2 : Int32)) <<< ((2 : Int32) &&& 31)) := by
    rw [own_tm1 (by decide) (by decide), show (((0 : Int32) * (8 : Int32)) + (((0 : Int32) * (4 : Int32)) + (2 : Int32))) = (2 : Int32) from by decide, show ((8 : Int32) - ((2 : Int32) * ((2 : Int32) + (1 : Int32)))) = (2 : Int32) from by decide]
  have t3 : own_term q (8 : Int32) (0 : Int32) (0 : Int32) (4 : Int32) (2 : Int32) (3 : Int32) = ((own_idx q (2 : Int32) (3 : Int32)) <<< ((0 : Int32) &&& 31)) := by
    rw [own_tm1 (by decide) (by decide), show (((0 : Int32) * (8 : Int32)) + (((0 : Int32) * (4 : Int32)) + (3 : Int32))) = (3 : Int32) from by decide, show ((8 : Int32) - ((2 : Int32) * ((3 : Int32) + (1 : Int32)))) = (0 : Int32) from by decide]
  have t4 : own_term q (8 : Int32) (0 : Int32) (0 : Int32) (4 : Int32) (2 : Int32) (4 : Int32) = (0 : Int32) := own_tm0 (by decide)
  have t5 : own_term q (8 : Int32) (0 : Int32) (0 : Int32) (4 : Int32) (2 : Int32) (5 : Int32) = (0 : Int32) := own_tm0 (by decide)
  have t6 : own_term q (8 : Int32) (0 : Int32) (0 : Int32) (4 : Int32) (2 : Int32) (6 : Int32) = (0 : Int32) := own_tm0 (by decide)
  have t7 : own_term q (8 : Int32) (0 : Int32) (0 : Int32) (4 : Int32) (2 : Int32) (7 : Int32) = (0 : Int32) := own_tm0 (by decide)
  unfold own_pin
  rw [show ((0 : Int32) / ((((8 : Int32) * (2 : Int32)) + (7 : Int32)) / (8 : Int32))) = (0 : Int32) from by decide, show ((0 : Int32) % ((((8 : Int32) * (2 : Int32)) + (7 : Int32)) / (8 : Int32))) = (0 : Int32) from by decide, show ((8 : Int32) / (2 : Int32)) = (4 : Int32) from by decide, t0, t1, t2, t3, t4, t5, t6, t7]
theorem own_c2_8_0_1 (q : Int64) : own_pin q (8 : Int32) (2 : Int32) (1 : Int32) = ((((((((((own_idx q (2 : Int32) (4 : Int32)) <<< ((6 : Int32) &&& 31)) ||| ((own_idx q (2 : Int32) (5 : Int32)) <<< ((4 : Int32) &&& 31))) ||| ((own_idx q (2 : Int32) (6 : Int32)) <<< ((2 : Int32) &&& 31))) ||| ((own_idx q (2 : Int32) (7 : Int32)) <<< ((0 : Int32) &&& 31))) ||| (0 : Int32)) ||| (0 : Int32)) ||| (0 : Int32)) ||| (0 : Int32)).toInt8.toInt32) := by
  have t0 : own_term q (8 : Int32) (0 : Int32) (1 : Int32) (4 : Int32) (2 : Int32) (0 : Int32) = ((own_idx q (2 : Int32) (4 : Int32)) <<< ((6 : Int32) &&& 31)) := by
    rw [own_tm1 (by decide) (by decide), show (((0 : Int32) * (8 : Int32)) + (((1 : Int32) * (4 : Int32)) + (0 : Int32))) = (4 : Int32) from by decide, show ((8 : Int32) - ((2 : Int32) * ((0 : Int32) + (1 : Int32)))) = (6 : Int32) from by decide]
  have t1 : own_term q (8 : Int32) (0 : Int32) (1 : Int32) (4 : Int32) (2 : Int32) (1 : Int32) = ((own_idx q (2 : Int32) (5 : Int32)) <<< ((4 : Int32) &&& 31)) := by
    rw [own_tm1 (by decide) (by decide), show (((0 : Int32) * (8 : Int32)) + (((1 : Int32) * (4 : Int32)) + (1 : Int32))) = (5 : Int32) from by decide, show ((8 : Int32) - ((2 : Int32) * ((1 : Int32) + (1 : Int32)))) = (4 : Int32) from by decide]
  have t2 : own_term q (8 : Int32) (0 : Int32) (1 : Int32) (4 : Int32) (2 : Int32) (2 : Int32) = ((own_idx q (2 : Int32) (6 : Int32)) <<< ((2 : Int32) &&& 31)) := by
    rw [own_tm1 (by decide) (by decide), show (((0 : Int32) * (8 : Int32)) + (((1 : Int32) * (4 : Int32)) + (2 : Int32))) = (6 : Int32) from by decide, show ((8 : Int32) - ((2 : Int32) * ((2 : Int32) + (1 : Int32)))) = (2 : Int32) from by decide]
  have t3 : own_term q (8 : Int32) (0 : Int32) (1 : Int32) (4 : Int32) (2 : Int32) (3 : Int32) = ((own_idx q (2 : Int32) (7 : Int32)) <<< ((0 : Int32) &&& 31)) := by
    rw [own_tm1 (by decide) (by decide), show (((0 : Int32) * (8 : Int32)) + (((1 : Int32) * (4 : Int32)) + (3 : Int32))) = (7 : Int32) from by decide, show ((8 : Int32) - ((2 : Int32) * ((3 : Int32) + (1 : Int32)))) = (0 : Int32) from by decide]
  have t4 : own_term q (8 : Int32) (0 : Int32) (1 : Int32) (4 : Int32) (2 : Int32) (4 : Int32) = (0 : Int32) := own_tm0 (by decide)
  have t5 : own_term q (8 : Int32) (0 : Int32) (1 : Int32) (4 : Int32) (2 : Int32) (5 : Int32) = (0 : Int32) := own_tm0 (by decide)
  have t6 : own_term q (8 : Int32) (0 : Int32) (1 : Int32) (4 : Int32) (2 : Int32) (6 : Int32) = (0 : Int32) := own_tm0 (by decide)
  have t7 : own_term q (8 : Int32) (0 : Int32) (1 : Int32) (4 : Int32) (2 : Int32) (7 : Int32) = (0 : Int32) := own_tm0 (by decide)
  unfold own_pin
  rw [show ((1 : Int32) / ((((8 : Int32) * (2 : Int32)) + (7 : Int32)) / (8 : Int32))) = (0 : Int32) from by decide, show ((1 : Int32) % ((((8 : Int32) * (2 : Int32)) + (7 : Int32)) / (8 : Int32))) = (1 : Int32) from by decide, show ((8 : Int32) / (2 : Int32)) = (4 : Int32) from by decide, t0, t1, t2, t3, t4, t5, t6, t7]
theorem own_c2_8_1_0 (q : Int64) : own_pin q (8 : Int32) (2 : Int32) (2 : Int32) = ((((((((((own_idx q (2 : Int32) (8 : Int32)) <<< ((6 : Int32) &&& 31)) ||| ((own_idx q (2 : Int32) (9 : Int32)) <<< ((4 : Int32) &&& 31))) ||| ((own_idx q (2 : Int32) (10 : Int32)) <<< ((2 : Int32) &&& 31))) ||| ((own_idx q (2 : Int32) (11 : Int32)) <<< ((0 : Int32) &&& 31))) ||| (0 : Int32)) ||| (0 : Int32)) ||| (0 : Int32)) ||| (0 : Int32)).toInt8.toInt32) := by
  have t0 : own_term q (8 : Int32) (1 : Int32) (0 : Int32) (4 : Int32) (2 : Int32) (0 : Int32) = ((own_idx q (2 : Int32) (8 : Int32)) <<< ((6 : Int32) &&& 31)) := by
    rw [own_tm1 (by decide) (by decide), show (((1 : Int32) * (8 : Int32)) + (((0 : Int32) * (4 : Int32)) + (0 : Int32))) = (8 : Int32) from by decide, show ((8 : Int32) - ((2 : Int32) * ((0 : Int32) + (1 : Int32)))) = (6 : Int32) from by decide]
  have t1 : own_term q (8 : Int32) (1 : Int32) (0 : Int32) (4 : Int32) (2 : Int32) (1 : Int32) = ((own_idx q (2 : Int32) (9 : Int32)) <<< ((4 : Int32) &&& 31)) := by
    rw [own_tm1 (by decide) (by decide), show (((1 : Int32) * (8 : Int32)) + (((0 : Int32) * (4 : Int32)) + (1 : Int32))) = (9 : Int32) from by decide, show ((8 : Int32) - ((2 : Int32) * ((1 : Int32) + (1 : Int32)))) = (4 : Int32) from by decide]
  have t2 : own_term q (8 : Int32) (1 : Int32) (0 : Int32) (4 : Int32) (2 : Int32) (2 : Int32) = ((own_idx q (2 : Int32) (10 : Int32)) <<< ((2 : Int32) &&& 31)) := by
    rw [own_tm1 (by decide) (by decide), show (((1 : Int32) * (8 : Int32)) + (((0 : Int32) * (4 : Int32)) + (2 : Int32))) = (10 : Int32) from by decide, show ((8 : Int32) - ((2 : Int32) * ((2 : Int32) + (1 : Int32)))) = (2 : Int32) from by decide]
  have t3 : own_term q (8 : Int32) (1 : Int32) (0 : Int32) (4 : Int32) (2 : Int32) (3 : Int32) = ((own_idx q (2 : Int32) (11 : Int32)) <<< ((0 : Int32) &&& 31)) := by
    rw [own_tm1 (by decide) (by decide), show (((1 : Int32) * (8 : Int32)) + (((0 : Int32) * (4 : Int32)) + (3 : Int32))) = (11 : Int32) from by decide, show ((8 : Int32) - ((2 : Int32) * ((3 : Int32) + (1 : Int32)))) = (0 : Int32) from by decide]
  have t4 : own_term q (8 : Int32) (1 : Int32) (0 : Int32) (4 : Int32) (2 : Int32) (4 : Int32) = (0 : Int32) := own_tm0 (by decide)
  have t5 : own_term q (8 : Int32) (1 : Int32) (0 : Int32) (4 : Int32) (2 : Int32) (5 : Int32) = (0 : Int32) := own_tm0 (by decide)
  have t6 : own_term q (8 : Int32) (1 : Int32) (0 : Int32) (4 : Int32) (2 : Int32) (6 : Int32) = (0 : Int32) := own_tm0 (by decide)
  have t7 : own_term q (8 : Int32) (1 : Int32) (0 : Int32) (4 : Int32) (2 : Int32) (7 : Int32) = (0 : Int32) := own_tm0 (by decide)
  unfold own_pin
  rw [show ((2 : Int32) / ((((8 : Int32) * (2 : Int32)) + (7 : Int32)) / (8 : Int32))) = (1 : Int32) from by decide, show ((2 : Int32) % ((((8 : Int32) * (2 : Int32)) + (7 : Int32)) / (8 : Int32))) = (0 : Int32) from by decide, show ((8 : Int32) / (2 : Int32)) = (4 : Int32) from by decide, t0, t1, t2, t3, t4, t5, t6, t7]
theorem own_c2_8_1_1 (q : Int64) : own_pin q (8 : Int32) (2 : Int32) (3 : Int32) = ((((((((((own_idx q (2 : Int32) (12 : Int32)) <<< ((6 : Int32) &&& 31)) ||| ((own_idx q (2 : Int32) (13 : Int32)) <<< ((4 : Int32) &&& 31))) ||| ((own_idx q (2 : Int32) (14 : Int32)) <<< ((2 : Int32) &&& 31))) ||| ((own_idx q (2 : Int32) (15 : Int32)) <<< ((0 : Int32) &&& 31))) ||| (0 : Int32)) ||| (0 : Int32)) ||| (0 : Int32)) ||| (0 : Int32)).toInt8.toInt32) := by
  have t0 : own_term q (8 : Int32) (1 : Int32) (1 : Int32) (4 : Int32) (2 : Int32) (0 : Int32) = ((own_idx q (2 : Int32) (12 : Int32)) <<< ((6 : Int32) &&& 31)) := by
    rw [own_tm1 (by decide) (by decide), show (((1 : Int32) * (8 : Int32)) + (((1 : Int32) * (4 : Int32)) + (0 : Int32))) = (12 : Int32) from by decide, show ((8 : Int32) - ((2 : Int32) * ((0 : Int32) + (1 : Int32)))) = (6 : Int32) from by decide]
  have t1 : own_term q (8 : Int32) (1 : Int32) (1 : Int32) (4 : Int32) (2 : Int32) (1 : Int32) = ((own_idx q (2 : Int32) (13 : Int32)) <<< ((4 : Int32) &&& 31)) := by
    rw [own_tm1 (by decide) (by decide), show (((1 : Int32) * (8 : Int32)) + (((1 : Int32) * (4 : Int32)) + (1 : Int32))) = (13 : Int32) from by decide, show ((8 : Int32) - ((2 : Int32) * ((1 : Int32) + (1 : Int32)))) = (4 : Int32) from by decide]
  have t2 : own_term q (8 : Int32) (1 : Int32) (1 : Int32) (4 : Int32) (2 : Int32) (2 : Int32) = ((own_idx q (2 : Int32) (14 : Int32)) <<< ((2 : Int32) &&& 31)) := by
    rw [own_tm1 (by decide) (by decide), show (((1 : Int32) * (8 : Int32)) + (((1 : Int32) * (4 : Int32)) + (2 : Int32))) = (14 : Int32) from by decide, show ((8 : Int32) - ((2 : Int32) * ((2 : Int32) + (1 : Int32)))) = (2 : Int32) from by decide]
  have t3 : own_term q (8 : Int32) (1 : Int32) (1 : Int32) (4 : Int32) (2 : Int32) (3 : Int32) = ((own_idx q (2 : Int32) (15 : Int32)) <<< ((0 : Int32) &&& 31)) := by
    rw [own_tm1 (by decide) (by decide), show (((1 : Int32) * (8 : Int32)) + (((1 : Int32) * (4 : Int32)) + (3 : Int32))) = (15 : Int32) from by decide, show ((8 : Int32) - ((2 : Int32) * ((3 : Int32) + (1 : Int32)))) = (0 : Int32) from by decide]
  have t4 : own_term q (8 : Int32) (1 : Int32) (1 : Int32) (4 : Int32) (2 : Int32) (4 : Int32) = (0 : Int32) := own_tm0 (by decide)
  have t5 : own_term q (8 : Int32) (1 : Int32) (1 : Int32) (4 : Int32) (2 : Int32) (5 : Int32) = (0 : Int32) := own_tm0 (by decide)
  have t6 : own_term q (8 : Int32) (1 : Int32) (1 : Int32) (4 : Int32) (2 : Int32) (6 : Int32) = (0 : Int32) := own_tm0 (by decide)
  have t7 : own_term q (8 : Int32) (1 : Int32) (1 : Int32) (4 : Int32) (2 : Int32) (7 : Int32) = (0 : Int32) := own_tm0 (by decide)
  unfold own_pin
  rw [show ((3 : Int32) / ((((8 : Int32) * (2 : Int32)) + (7 : Int32)) / (8 : Int32))) = (1 : Int32) from by decide, show ((3 : Int32) % ((((8 : Int32) * (2 : Int32)) + (7 : Int32)) / (8 : Int32))) = (1 : Int32) from by decide, show ((8 : Int32) / (2 : Int32)) = (4 : Int32) from by decide, t0, t1, t2, t3, t4, t5, t6, t7]
theorem own_GF2_0 (q : Int64) {w : Int32} (hw : w = 0 ∨ w = 1 ∨ w = 2 ∨ w = 3 ∨ w = 4 ∨ w = 5 ∨ w = 6 ∨ w = 7 ∨ w = 8) : ∀ n : Nat, (n : Int) < w.toInt → ((n + 1) * 2) % 8 = 0 → own_pin q w (2 : Int32) ((0 + (n * 2) / 8 : Nat).toInt32) = ((own_cv 2 (2 : Int32) (fun i => (own_L q (2 : Int32)).getD (0 + i) 0) n).toInt8.toInt32).toInt8.toInt32 := by
  intro n h1 h2
  rcases hw with rfl | rfl | rfl | rfl | rfl | rfl | rfl | rfl | rfl
  · have hz : ((0 : Int32)).toInt = 0 := rfl
    omega
  · have hz : ((1 : Int32)).toInt = 1 := rfl
    omega
  · have hz : ((2 : Int32)).toInt = 2 := rfl
    omega
  · have hz : ((3 : Int32)).toInt = 3 := rfl
    omega
  · have hz : ((4 : Int32)).toInt = 4 := rfl
    have hn : n = 3 := by omega
    rcases hn with rfl
    · rw [show (0 + (3 * 2) / 8 : Nat).toInt32 = (0 : Int32) from by decide, own_c2_4_0_0, own_bb]
      have hs : own_cv 2 (2 : Int32) (fun i => (own_L q (2 : Int32)).getD (0 + i) 0) 3 = (((((((((0 : Int32) <<< ((2 : Int32) &&& 31)) ||| (((own_idx q (2 : Int32) (0 : Int32)).toInt8.toInt32).toInt8.toInt32)) <<< ((2 : Int32) &&& 31)) ||| (((own_idx q (2 : Int32) (1 : Int32)).toInt8.toInt32).toInt8.toInt32)) <<< ((2 : Int32) &&& 31)) ||| (((own_idx q (2 : Int32) (2 : Int32)).toInt8.toInt32).toInt8.toInt32)) <<< ((2 : Int32) &&& 31)) ||| (((own_idx q (2 : Int32) (3 : Int32)).toInt8.toInt32).toInt8.toInt32)) := by first | rfl | (simp [own_cu, own_cv, own_L])
      rw [hs]
      simp only [own_ib2]
      rw [own_f2_4]
  · have hz : ((5 : Int32)).toInt = 5 := rfl
    have hn : n = 3 := by omega
    rcases hn with rfl
    · rw [show (0 + (3 * 2) / 8 : Nat).toInt32 = (0 : Int32) from by decide, own_c2_5_0_0, own_bb]
      have hs : own_cv 2 (2 : Int32) (fun i => (own_L q (2 : Int32)).getD (0 + i) 0) 3 = (((((((((0 : Int32) <<< ((2 : Int32) &&& 31)) ||| (((own_idx q (2 : Int32) (0 : Int32)).toInt8.toInt32).toInt8.toInt32)) <<< ((2 : Int32) &&& 31)) ||| (((own_idx q (2 : Int32) (1 : Int32)).toInt8.toInt32).toInt8.toInt32)) <<< ((2 : Int32) &&& 31)) ||| (((own_idx q (2 : Int32) (2 : Int32)).toInt8.toInt32).toInt8.toInt32)) <<< ((2 : Int32) &&& 31)) ||| (((own_idx q (2 : Int32) (3 : Int32)).toInt8.toInt32).toInt8.toInt32)) := by first | rfl | (simp [own_cu, own_cv, own_L])
      rw [hs]
      simp only [own_ib2]
      rw [own_f2_4]
  · have hz : ((6 : Int32)).toInt = 6 := rfl
    have hn : n = 3 := by omega
    rcases hn with rfl
    · rw [show (0 + (3 * 2) / 8 : Nat).toInt32 = (0 : Int32) from by decide, own_c2_6_0_0, own_bb]
      have hs : own_cv 2 (2 : Int32) (fun i => (own_L q (2 : Int32)).getD (0 + i) 0) 3 = (((((((((0 : Int32) <<< ((2 : Int32) &&& 31)) ||| (((own_idx q (2 : Int32) (0 : Int32)).toInt8.toInt32).toInt8.toInt32)) <<< ((2 : Int32) &&& 31)) ||| (((own_idx q (2 : Int32) (1 : Int32)).toInt8.toInt32).toInt8.toInt32)) <<< ((2 : Int32) &&& 31)) ||| (((own_idx q (2 : Int32) (2 : Int32)).toInt8.toInt32).toInt8.toInt32)) <<< ((2 : Int32) &&& 31)) ||| (((own_idx q (2 : Int32) (3 : Int32)).toInt8.toInt32).toInt8.toInt32)) := by first | rfl | (simp [own_cu, own_cv, own_L])
      rw [hs]
      simp only [own_ib2]
      rw [own_f2_4]
  · have hz : ((7 : Int32)).toInt = 7 := rfl
    have hn : n = 3 := by omega
    rcases hn with rfl
    · rw [show (0 + (3 * 2) / 8 : Nat).toInt32 = (0 : Int32) from by decide, own_c2_7_0_0, own_bb]
      have hs : own_cv 2 (2 : Int32) (fun i => (own_L q (2 : Int32)).getD (0 + i) 0) 3 = (((((((((0 : Int32) <<< ((2 : Int32) &&& 31)) ||| (((own_idx q (2 : Int32) (0 : Int32)).toInt8.toInt32).toInt8.toInt32)) <<< ((2 : Int32) &&& 31)) ||| (((own_idx q (2 : Int32) (1 : Int32)).toInt8.toInt32).toInt8.toInt32)) <<< ((2 : Int32) &&& 31)) ||| (((own_idx q (2 : Int32) (2 : Int32)).toInt8.toInt32).toInt8.toInt32)) <<< ((2 : Int32) &&& 31)) ||| (((own_idx q (2 : Int32) (3 : Int32)).toInt8.toInt32).toInt8.toInt32)) := by first | rfl | (simp [own_cu, own_cv, own_L])
      rw [hs]
      simp only [own_ib2]
      rw [own_f2_4]
  · have hz : ((8 : Int32)).toInt = 8 := rfl
    have hn : n = 3 ∨ n = 7 := by omega
    rcases hn with rfl | rfl
    · rw [show (0 + (3 * 2) / 8 : Nat).toInt32 = (0 : Int32) from by decide, own_c2_8_0_0, own_bb]
      have hs : own_cv 2 (2 : Int32) (fun i => (own_L q (2 : Int32)).getD (0 + i) 0) 3 = (((((((((0 : Int32) <<< ((2 : Int32) &&& 31)) ||| (((own_idx q (2 : Int32) (0 : Int32)).toInt8.toInt32).toInt8.toInt32)) <<< ((2 : Int32) &&& 31)) ||| (((own_idx q (2 : Int32) (1 : Int32)).toInt8.toInt32).toInt8.toInt32)) <<< ((2 : Int32) &&& 31)) ||| (((own_idx q (2 : Int32) (2 : Int32)).toInt8.toInt32).toInt8.toInt32)) <<< ((2 : Int32) &&& 31)) ||| (((own_idx q (2 : Int32) (3 : Int32)).toInt8.toInt32).toInt8.toInt32)) := by first | rfl | (simp [own_cu, own_cv, own_L])
      rw [hs]
      simp only [own_ib2]
      rw [own_f2_4]
    · rw [show (0 + (7 * 2) / 8 : Nat).toInt32 = (1 : Int32) from by decide, own_c2_8_0_1, own_bb]
      have hs : own_cv 2 (2 : Int32) (fun i => (own_L q (2 : Int32)).getD (0 + i) 0) 7 = (((((((((0 : Int32) <<< ((2 : Int32) &&& 31)) ||| (((own_idx q (2 : Int32) (4 : Int32)).toInt8.toInt32).toInt8.toInt32)) <<< ((2 : Int32) &&& 31)) ||| (((own_idx q (2 : Int32) (5 : Int32)).toInt8.toInt32).toInt8.toInt32)) <<< ((2 : Int32) &&& 31)) ||| (((own_idx q (2 : Int32) (6 : Int32)).toInt8.toInt32).toInt8.toInt32)) <<< ((2 : Int32) &&& 31)) ||| (((own_idx q (2 : Int32) (7 : Int32)).toInt8.toInt32).toInt8.toInt32)) := by first | rfl | (simp [own_cu, own_cv, own_L])
      rw [hs]
      simp only [own_ib2]
      rw [own_f2_4]
theorem own_GP2_0 (q : Int64) {w : Int32} (hw : w = 0 ∨ w = 1 ∨ w = 2 ∨ w = 3 ∨ w = 4 ∨ w = 5 ∨ w = 6 ∨ w = 7 ∨ w = 8) : ∀ u : Int32, u.toInt = (w.toInt * 2) % 8 → 0 < u.toInt → own_pin q w (2 : Int32) ((0 + (w.toInt.toNat * 2) / 8 : Nat).toInt32) = ((((own_cu 2 (2 : Int32) (fun i => (own_L q (2 : Int32)).getD (0 + i) 0) w.toInt.toNat) <<< (((8 : Int32) - u) &&& 31)).toInt8.toInt32).toInt8.toInt32) := by
  intro u h1 h2
  rcases hw with rfl | rfl | rfl | rfl | rfl | rfl | rfl | rfl | rfl
  · have hz : ((0 : Int32)).toInt = 0 := rfl
    omega
  · have hz : ((1 : Int32)).toInt = 1 := rfl
    obtain rfl : u = (2 : Int32) := Int32.toInt_inj.mp (by have hq : ((2 : Int32)).toInt = 2 := rfl; omega)
    rw [show (0 + ((1 : Int32).toInt.toNat * 2) / 8 : Nat).toInt32 = (0 : Int32) from by decide, own_c2_1_0_0, own_bb]
    have hs : own_cu 2 (2 : Int32) (fun i => (own_L q (2 : Int32)).getD (0 + i) 0) ((1 : Int32).toInt.toNat) = (((0 : Int32) <<< ((2 : Int32) &&& 31)) ||| (((own_idx q (2 : Int32) (0 : Int32)).toInt8.toInt32).toInt8.toInt32)) := by first | rfl | (simp [own_cu, own_cv, own_L])
    rw [hs]
    rw [show ((8 : Int32) - (2 : Int32)) = (6 : Int32) from by decide]
    simp only [own_ib2]
    rw [own_f2_1]
  · have hz : ((2 : Int32)).toInt = 2 := rfl
    obtain rfl : u = (4 : Int32) := Int32.toInt_inj.mp (by have hq : ((4 : Int32)).toInt = 4 := rfl; omega)
    rw [show (0 + ((2 : Int32).toInt.toNat * 2) / 8 : Nat).toInt32 = (0 : Int32) from by decide, own_c2_2_0_0, own_bb]
    have hs : own_cu 2 (2 : Int32) (fun i => (own_L q (2 : Int32)).getD (0 + i) 0) ((2 : Int32).toInt.toNat) = (((((0 : Int32) <<< ((2 : Int32) &&& 31)) ||| (((own_idx q (2 : Int32) (0 : Int32)).toInt8.toInt32).toInt8.toInt32)) <<< ((2 : Int32) &&& 31)) ||| (((own_idx q (2 : Int32) (1 : Int32)).toInt8.toInt32).toInt8.toInt32)) := by first | rfl | (simp [own_cu, own_cv, own_L])
    rw [hs]
    rw [show ((8 : Int32) - (4 : Int32)) = (4 : Int32) from by decide]
    simp only [own_ib2]
    rw [own_f2_2]
  · have hz : ((3 : Int32)).toInt = 3 := rfl
    obtain rfl : u = (6 : Int32) := Int32.toInt_inj.mp (by have hq : ((6 : Int32)).toInt = 6 := rfl; omega)
    rw [show (0 + ((3 : Int32).toInt.toNat * 2) / 8 : Nat).toInt32 = (0 : Int32) from by decide, own_c2_3_0_0, own_bb]
    have hs : own_cu 2 (2 : Int32) (fun i => (own_L q (2 : Int32)).getD (0 + i) 0) ((3 : Int32).toInt.toNat) = (((((((0 : Int32) <<< ((2 : Int32) &&& 31)) ||| (((own_idx q (2 : Int32) (0 : Int32)).toInt8.toInt32).toInt8.toInt32)) <<< ((2 : Int32) &&& 31)) ||| (((own_idx q (2 : Int32) (1 : Int32)).toInt8.toInt32).toInt8.toInt32)) <<< ((2 : Int32) &&& 31)) ||| (((own_idx q (2 : Int32) (2 : Int32)).toInt8.toInt32).toInt8.toInt32)) := by first | rfl | (simp [own_cu, own_cv, own_L])
    rw [hs]
    rw [show ((8 : Int32) - (6 : Int32)) = (2 : Int32) from by decide]
    simp only [own_ib2]
    rw [own_f2_3]
  · have hz : ((4 : Int32)).toInt = 4 := rfl
    omega
  · have hz : ((5 : Int32)).toInt = 5 := rfl
    obtain rfl : u = (2 : Int32) := Int32.toInt_inj.mp (by have hq : ((2 : Int32)).toInt = 2 := rfl; omega)
    rw [show (0 + ((5 : Int32).toInt.toNat * 2) / 8 : Nat).toInt32 = (1 : Int32) from by decide, own_c2_5_0_1, own_bb]
    have hs : own_cu 2 (2 : Int32) (fun i => (own_L q (2 : Int32)).getD (0 + i) 0) ((5 : Int32).toInt.toNat) = (((0 : Int32) <<< ((2 : Int32) &&& 31)) ||| (((own_idx q (2 : Int32) (4 : Int32)).toInt8.toInt32).toInt8.toInt32)) := by first | rfl | (simp [own_cu, own_cv, own_L])
    rw [hs]
    rw [show ((8 : Int32) - (2 : Int32)) = (6 : Int32) from by decide]
    simp only [own_ib2]
    rw [own_f2_1]
  · have hz : ((6 : Int32)).toInt = 6 := rfl
    obtain rfl : u = (4 : Int32) := Int32.toInt_inj.mp (by have hq : ((4 : Int32)).toInt = 4 := rfl; omega)
    rw [show (0 + ((6 : Int32).toInt.toNat * 2) / 8 : Nat).toInt32 = (1 : Int32) from by decide, own_c2_6_0_1, own_bb]
    have hs : own_cu 2 (2 : Int32) (fun i => (own_L q (2 : Int32)).getD (0 + i) 0) ((6 : Int32).toInt.toNat) = (((((0 : Int32) <<< ((2 : Int32) &&& 31)) ||| (((own_idx q (2 : Int32) (4 : Int32)).toInt8.toInt32).toInt8.toInt32)) <<< ((2 : Int32) &&& 31)) ||| (((own_idx q (2 : Int32) (5 : Int32)).toInt8.toInt32).toInt8.toInt32)) := by first | rfl | (simp [own_cu, own_cv, own_L])
    rw [hs]
    rw [show ((8 : Int32) - (4 : Int32)) = (4 : Int32) from by decide]
    simp only [own_ib2]
    rw [own_f2_2]
  · have hz : ((7 : Int32)).toInt = 7 := rfl
    obtain rfl : u = (6 : Int32) := Int32.toInt_inj.mp (by have hq : ((6 : Int32)).toInt = 6 := rfl; omega)
    rw [show (0 + ((7 : Int32).toInt.toNat * 2) / 8 : Nat).toInt32 = (1 : Int32) from by decide, own_c2_7_0_1, own_bb]
    have hs : own_cu 2 (2 : Int32) (fun i => (own_L q (2 : Int32)).getD (0 + i) 0) ((7 : Int32).toInt.toNat) = (((((((0 : Int32) <<< ((2 : Int32) &&& 31)) ||| (((own_idx q (2 : Int32) (4 : Int32)).toInt8.toInt32).toInt8.toInt32)) <<< ((2 : Int32) &&& 31)) ||| (((own_idx q (2 : Int32) (5 : Int32)).toInt8.toInt32).toInt8.toInt32)) <<< ((2 : Int32) &&& 31)) ||| (((own_idx q (2 : Int32) (6 : Int32)).toInt8.toInt32).toInt8.toInt32)) := by first | rfl | (simp [own_cu, own_cv, own_L])
    rw [hs]
    rw [show ((8 : Int32) - (6 : Int32)) = (2 : Int32) from by decide]
    simp only [own_ib2]
    rw [own_f2_3]
  · have hz : ((8 : Int32)).toInt = 8 := rfl
    omega
theorem own_GF2_1 (q : Int64) {w : Int32} (hw : w = 0 ∨ w = 1 ∨ w = 2 ∨ w = 3 ∨ w = 4 ∨ w = 5 ∨ w = 6 ∨ w = 7 ∨ w = 8) : ∀ n : Nat, (n : Int) < w.toInt → ((n + 1) * 2) % 8 = 0 → own_pin q w (2 : Int32) ((((w.toInt.toNat * 2 + 7) / 8) + (n * 2) / 8 : Nat).toInt32) = ((own_cv 2 (2 : Int32) (fun i => (own_L q (2 : Int32)).getD (w.toInt.toNat + i) 0) n).toInt8.toInt32).toInt8.toInt32 := by
  intro n h1 h2
  rcases hw with rfl | rfl | rfl | rfl | rfl | rfl | rfl | rfl | rfl
  · have hz : ((0 : Int32)).toInt = 0 := rfl
    omega
  · have hz : ((1 : Int32)).toInt = 1 := rfl
    omega
  · have hz : ((2 : Int32)).toInt = 2 := rfl
    omega
  · have hz : ((3 : Int32)).toInt = 3 := rfl
    omega
  · have hz : ((4 : Int32)).toInt = 4 := rfl
    have hn : n = 3 := by omega
    rcases hn with rfl
    · rw [show ((((4 : Int32).toInt.toNat * 2 + 7) / 8) + (3 * 2) / 8 : Nat).toInt32 = (1 : Int32) from by decide, own_c2_4_1_0, own_bb]
      have hs : own_cv 2 (2 : Int32) (fun i => (own_L q (2 : Int32)).getD ((4 : Int32).toInt.toNat + i) 0) 3 = (((((((((0 : Int32) <<< ((2 : Int32) &&& 31)) ||| (((own_idx q (2 : Int32) (4 : Int32)).toInt8.toInt32).toInt8.toInt32)) <<< ((2 : Int32) &&& 31)) ||| (((own_idx q (2 : Int32) (5 : Int32)).toInt8.toInt32).toInt8.toInt32)) <<< ((2 : Int32) &&& 31)) ||| (((own_idx q (2 : Int32) (6 : Int32)).toInt8.toInt32).toInt8.toInt32)) <<< ((2 : Int32) &&& 31)) ||| (((own_idx q (2 : Int32) (7 : Int32)).toInt8.toInt32).toInt8.toInt32)) := by first | rfl | (simp [own_cu, own_cv, own_L])
      rw [hs]
      simp only [own_ib2]
      rw [own_f2_4]
  · have hz : ((5 : Int32)).toInt = 5 := rfl
    have hn : n = 3 := by omega
    rcases hn with rfl
    · rw [show ((((5 : Int32).toInt.toNat * 2 + 7) / 8) + (3 * 2) / 8 : Nat).toInt32 = (2 : Int32) from by decide, own_c2_5_1_0, own_bb]
      have hs : own_cv 2 (2 : Int32) (fun i => (own_L q (2 : Int32)).getD ((5 : Int32).toInt.toNat + i) 0) 3 = (((((((((0 : Int32) <<< ((2 : Int32) &&& 31)) ||| (((own_idx q (2 : Int32) (5 : Int32)).toInt8.toInt32).toInt8.toInt32)) <<< ((2 : Int32) &&& 31)) ||| (((own_idx q (2 : Int32) (6 : Int32)).toInt8.toInt32).toInt8.toInt32)) <<< ((2 : Int32) &&& 31)) ||| (((own_idx q (2 : Int32) (7 : Int32)).toInt8.toInt32).toInt8.toInt32)) <<< ((2 : Int32) &&& 31)) ||| (((own_idx q (2 : Int32) (8 : Int32)).toInt8.toInt32).toInt8.toInt32)) := by first | rfl | (simp [own_cu, own_cv, own_L])
      rw [hs]
      simp only [own_ib2]
      rw [own_f2_4]
  · have hz : ((6 : Int32)).toInt = 6 := rfl
    have hn : n = 3 := by omega
    rcases hn with rfl
    · rw [show ((((6 : Int32).toInt.toNat * 2 + 7) / 8) + (3 * 2) / 8 : Nat).toInt32 = (2 : Int32) from by decide, own_c2_6_1_0, own_bb]
      have hs : own_cv 2 (2 : Int32) (fun i => (own_L q (2 : Int32)).getD ((6 : Int32).toInt.toNat + i) 0) 3 = (((((((((0 : Int32) <<< ((2 : Int32) &&& 31)) ||| (((own_idx q (2 : Int32) (6 : Int32)).toInt8.toInt32).toInt8.toInt32)) <<< ((2 : Int32) &&& 31)) ||| (((own_idx q (2 : Int32) (7 : Int32)).toInt8.toInt32).toInt8.toInt32)) <<< ((2 : Int32) &&& 31)) ||| (((own_idx q (2 : Int32) (8 : Int32)).toInt8.toInt32).toInt8.toInt32)) <<< ((2 : Int32) &&& 31)) ||| (((own_idx q (2 : Int32) (9 : Int32)).toInt8.toInt32).toInt8.toInt32)) := by first | rfl | (simp [own_cu, own_cv, own_L])
      rw [hs]
      simp only [own_ib2]
      rw [own_f2_4]
  · have hz : ((7 : Int32)).toInt = 7 := rfl
    have hn : n = 3 := by omega
    rcases hn with rfl
    · rw [show ((((7 : Int32).toInt.toNat * 2 + 7) / 8) + (3 * 2) / 8 : Nat).toInt32 = (2 : Int32) from by decide, own_c2_7_1_0, own_bb]
      have hs : own_cv 2 (2 : Int32) (fun i => (own_L q (2 : Int32)).getD ((7 : Int32).toInt.toNat + i) 0) 3 = (((((((((0 : Int32) <<< ((2 : Int32) &&& 31)) ||| (((own_idx q (2 : Int32) (7 : Int32)).toInt8.toInt32).toInt8.toInt32)) <<< ((2 : Int32) &&& 31)) ||| (((own_idx q (2 : Int32) (8 : Int32)).toInt8.toInt32).toInt8.toInt32)) <<< ((2 : Int32) &&& 31)) ||| (((own_idx q (2 : Int32) (9 : Int32)).toInt8.toInt32).toInt8.toInt32)) <<< ((2 : Int32) &&& 31)) ||| (((own_idx q (2 : Int32) (10 : Int32)).toInt8.toInt32).toInt8.toInt32)) := by first | rfl | (simp [own_cu, own_cv, own_L])
      rw [hs]
      simp only [own_ib2]
      rw [own_f2_4]
  · have hz : ((8 : Int32)).toInt = 8 := rfl
    have hn : n = 3 ∨ n = 7 := by omega
    rcases hn with rfl | rfl
    · rw [show ((((8 : Int32).toInt.toNat * 2 + 7) / 8) + (3 * 2) / 8 : Nat).toInt32 = (2 : Int32) from by decide, own_c2_8_1_0, own_bb]
      have hs : own_cv 2 (2 : Int32) (fun i => (own_L q (2 : Int32)).getD ((8 : Int32).toInt.toNat + i) 0) 3 = (((((((((0 : Int32) <<< ((2 : Int32) &&& 31)) ||| (((own_idx q (2 : Int32) (8 : Int32)).toInt8.toInt32).toInt8.toInt32)) <<< ((2 : Int32) &&& 31)) ||| (((own_idx q (2 : Int32) (9 : Int32)).toInt8.toInt32).toInt8.toInt32)) <<< ((2 : Int32) &&& 31)) ||| (((own_idx q (2 : Int32) (10 : Int32)).toInt8.toInt32).toInt8.toInt32)) <<< ((2 : Int32) &&& 31)) ||| (((own_idx q (2 : Int32) (11 : Int32)).toInt8.toInt32).toInt8.toInt32)) := by first | rfl | (simp [own_cu, own_cv, own_L])
      rw [hs]
      simp only [own_ib2]
      rw [own_f2_4]
    · rw [show ((((8 : Int32).toInt.toNat * 2 + 7) / 8) + (7 * 2) / 8 : Nat).toInt32 = (3 : Int32) from by decide, own_c2_8_1_1, own_bb]
      have hs : own_cv 2 (2 : Int32) (fun i => (own_L q (2 : Int32)).getD ((8 : Int32).toInt.toNat + i) 0) 7 = (((((((((0 : Int32) <<< ((2 : Int32) &&& 31)) ||| (((own_idx q (2 : Int32) (12 : Int32)).toInt8.toInt32).toInt8.toInt32)) <<< ((2 : Int32) &&& 31)) ||| (((own_idx q (2 : Int32) (13 : Int32)).toInt8.toInt32).toInt8.toInt32)) <<< ((2 : Int32) &&& 31)) ||| (((own_idx q (2 : Int32) (14 : Int32)).toInt8.toInt32).toInt8.toInt32)) <<< ((2 : Int32) &&& 31)) ||| (((own_idx q (2 : Int32) (15 : Int32)).toInt8.toInt32).toInt8.toInt32)) := by first | rfl | (simp [own_cu, own_cv, own_L])
      rw [hs]
      simp only [own_ib2]
      rw [own_f2_4]
theorem own_GP2_1 (q : Int64) {w : Int32} (hw : w = 0 ∨ w = 1 ∨ w = 2 ∨ w = 3 ∨ w = 4 ∨ w = 5 ∨ w = 6 ∨ w = 7 ∨ w = 8) : ∀ u : Int32, u.toInt = (w.toInt * 2) % 8 → 0 < u.toInt → own_pin q w (2 : Int32) ((((w.toInt.toNat * 2 + 7) / 8) + (w.toInt.toNat * 2) / 8 : Nat).toInt32) = ((((own_cu 2 (2 : Int32) (fun i => (own_L q (2 : Int32)).getD (w.toInt.toNat + i) 0) w.toInt.toNat) <<< (((8 : Int32) - u) &&& 31)).toInt8.toInt32).toInt8.toInt32) := by
  intro u h1 h2
  rcases hw with rfl | rfl | rfl | rfl | rfl | rfl | rfl | rfl | rfl
  · have hz : ((0 : Int32)).toInt = 0 := rfl
    omega
  · have hz : ((1 : Int32)).toInt = 1 := rfl
    obtain rfl : u = (2 : Int32) := Int32.toInt_inj.mp (by have hq : ((2 : Int32)).toInt = 2 := rfl; omega)
    rw [show ((((1 : Int32).toInt.toNat * 2 + 7) / 8) + ((1 : Int32).toInt.toNat * 2) / 8 : Nat).toInt32 = (1 : Int32) from by decide, own_c2_1_1_0, own_bb]
    have hs : own_cu 2 (2 : Int32) (fun i => (own_L q (2 : Int32)).getD ((1 : Int32).toInt.toNat + i) 0) ((1 : Int32).toInt.toNat) = (((0 : Int32) <<< ((2 : Int32) &&& 31)) ||| (((own_idx q (2 : Int32) (1 : Int32)).toInt8.toInt32).toInt8.toInt32)) := by first | rfl | (simp [own_cu, own_cv, own_L])
    rw [hs]
    rw [show ((8 : Int32) - (2 : Int32)) = (6 : Int32) from by decide]
    simp only [own_ib2]
    rw [own_f2_1]
  · have hz : ((2 : Int32)).toInt = 2 := rfl
    obtain rfl : u = (4 : Int32) := Int32.toInt_inj.mp (by have hq : ((4 : Int32)).toInt = 4 := rfl; omega)
    rw [show ((((2 : Int32).toInt.toNat * 2 + 7) / 8) + ((2 : Int32).toInt.toNat * 2) / 8 : Nat).toInt32 = (1 : Int32) from by decide, own_c2_2_1_0, own_bb]
    have hs : own_cu 2 (2 : Int32) (fun i => (own_L q (2 : Int32)).getD ((2 : Int32).toInt.toNat + i) 0) ((2 : Int32).toInt.toNat) = (((((0 : Int32) <<< ((2 : Int32) &&& 31)) ||| (((own_idx q (2 : Int32) (2 : Int32)).toInt8.toInt32).toInt8.toInt32)) <<< ((2 : Int32) &&& 31)) ||| (((own_idx q (2 : Int32) (3 : Int32)).toInt8.toInt32).toInt8.toInt32)) := by first | rfl | (simp [own_cu, own_cv, own_L])
    rw [hs]
    rw [show ((8 : Int32) - (4 : Int32)) = (4 : Int32) from by decide]
    simp only [own_ib2]
    rw [own_f2_2]
  · have hz : ((3 : Int32)).toInt = 3 := rfl
    obtain rfl : u = (6 : Int32) := Int32.toInt_inj.mp (by have hq : ((6 : Int32)).toInt = 6 := rfl; omega)
    rw [show ((((3 : Int32).toInt.toNat * 2 + 7) / 8) + ((3 : Int32).toInt.toNat * 2) / 8 : Nat).toInt32 = (1 : Int32) from by decide, own_c2_3_1_0, own_bb]
    have hs : own_cu 2 (2 : Int32) (fun i => (own_L q (2 : Int32)).getD ((3 : Int32).toInt.toNat + i) 0) ((3 : Int32).toInt.toNat) = (((((((0 : Int32) <<< ((2 : Int32) &&& 31)) ||| (((own_idx q (2 : Int32) (3 : Int32)).toInt8.toInt32).toInt8.toInt32)) <<< ((2 : Int32) &&& 31)) ||| (((own_idx q (2 : Int32) (4 : Int32)).toInt8.toInt32).toInt8.toInt32)) <<< ((2 : Int32) &&& 31)) ||| (((own_idx q (2 : Int32) (5 : Int32)).toInt8.toInt32).toInt8.toInt32)) := by first | rfl | (simp [own_cu, own_cv, own_L])
    rw [hs]
    rw [show ((8 : Int32) - (6 : Int32)) = (2 : Int32) from by decide]
    simp only [own_ib2]
    rw [own_f2_3]
  · have hz : ((4 : Int32)).toInt = 4 := rfl
    omega
  · have hz : ((5 : Int32)).toInt = 5 := rfl
    obtain rfl : u = (2 : Int32) := Int32.toInt_inj.mp (by have hq : ((2 : Int32)).toInt = 2 := rfl; omega)
    rw [show ((((5 : Int32).toInt.toNat * 2 + 7) / 8) + ((5 : Int32).toInt.toNat * 2) / 8 : Nat).toInt32 = (3 : Int32) from by decide, own_c2_5_1_1, own_bb]
    have hs : own_cu 2 (2 : Int32) (fun i => (own_L q (2 : Int32)).getD ((5 : Int32).toInt.toNat + i) 0) ((5 : Int32).toInt.toNat) = (((0 : Int32) <<< ((2 : Int32) &&& 31)) ||| (((own_idx q (2 : Int32) (9 : Int32)).toInt8.toInt32).toInt8.toInt32)) := by first | rfl | (simp [own_cu, own_cv, own_L])
    rw [hs]
    rw [show ((8 : Int32) - (2 : Int32)) = (6 : Int32) from by decide]
    simp only [own_ib2]
    rw [own_f2_1]
  · have hz : ((6 : Int32)).toInt = 6 := rfl
    obtain rfl : u = (4 : Int32) := Int32.toInt_inj.mp (by have hq : ((4 : Int32)).toInt = 4 := rfl; omega)
    rw [show ((((6 : Int32).toInt.toNat * 2 + 7) / 8) + ((6 : Int32).toInt.toNat * 2) / 8 : Nat).toInt32 = (3 : Int32) from by decide, own_c2_6_1_1, own_bb]
    have hs : own_cu 2 (2 : Int32) (fun i => (own_L q (2 : Int32)).getD ((6 : Int32).toInt.toNat + i) 0) ((6 : Int32).toInt.toNat) = (((((0 : Int32) <<< ((2 : Int32) &&& 31)) ||| (((own_idx q (2 : Int32) (10 : Int32)).toInt8.toInt32).toInt8.toInt32)) <<< ((2 : Int32) &&& 31)) ||| (((own_idx q (2 : Int32) (11 : Int32)).toInt8.toInt32).toInt8.toInt32)) := by first | rfl | (simp [own_cu, own_cv, own_L])
    rw [hs]
    rw [show ((8 : Int32) - (4 : Int32)) = (4 : Int32) from by decide]
    simp only [own_ib2]
    rw [own_f2_2]
  · have hz : ((7 : Int32)).toInt = 7 := rfl
    obtain rfl : u = (6 : Int32) := Int32.toInt_inj.mp (by have hq : ((6 : Int32)).toInt = 6 := rfl; omega)
    rw [show ((((7 : Int32).toInt.toNat * 2 + 7) / 8) + ((7 : Int32).toInt.toNat * 2) / 8 : Nat).toInt32 = (3 : Int32) from by decide, own_c2_7_1_1, own_bb]
    have hs : own_cu 2 (2 : Int32) (fun i => (own_L q (2 : Int32)).getD ((7 : Int32).toInt.toNat + i) 0) ((7 : Int32).toInt.toNat) = (((((((0 : Int32) <<< ((2 : Int32) &&& 31)) ||| (((own_idx q (2 : Int32) (11 : Int32)).toInt8.toInt32).toInt8.toInt32)) <<< ((2 : Int32) &&& 31)) ||| (((own_idx q (2 : Int32) (12 : Int32)).toInt8.toInt32).toInt8.toInt32)) <<< ((2 : Int32) &&& 31)) ||| (((own_idx q (2 : Int32) (13 : Int32)).toInt8.toInt32).toInt8.toInt32)) := by first | rfl | (simp [own_cu, own_cv, own_L])
    rw [hs]
    rw [show ((8 : Int32) - (6 : Int32)) = (2 : Int32) from by decide]
    simp only [own_ib2]
    rw [own_f2_3]
  · have hz : ((8 : Int32)).toInt = 8 := rfl
    omega
theorem ef_3b2 (m : MethodId) (x0 : Addr) (x1 : Int32) (x2 : Int32) (x3 : Int32) (x4 : Addr) (x5 : Int32) : entryFrame m #[(.ref x0), (.int x1), (.int x2), (.int x3), (.ref x4), (.int x5)] 11 = mkF m 0 #[.val (.ref x0), .val (.int x1), .val (.int x2), .val (.int x3), .val (.ref x4), .val (.int x5), .unset, .unset, .unset, .unset, .unset] [] := by first | (simp [entryFrame, mkF, argsToLocals, Value.category]; done) | rfl
def Q3b2 (Z : State) (a1 : Addr) (a2 : Addr) (p1 : Int32) (p2 : Int32) (p5 : Int32) (xs : List Int32) (ys : List Int32) (G : Nat → Int32) (h0 : Heap) (n0 : Nat) (v : Option Value) (h : Heap) (L : List Loc) : Prop := ∃ (r : Int32) (w2 : List Value), v = some (.int r) ∧ Fr n0 L ∧ Keep h0 h [a2] ∧ own_A Z h a2 .byte w2 ∧ (r.toInt = p5.toInt + p2.toInt * ((p1.toInt * 2 + 7) / 8)) ∧ (own_Ow ys p5.toInt.toNat (r.toInt - p5.toInt).toNat G w2)
set_option maxHeartbeats 40000000 in
theorem rm3b2 (l : Launch) (Z : State) (a0 : Array Value) (hw : ∀ d ∈ tables_1, d.before a0 Z = true) (ws : List Jvm.Cond) (a1 : Addr) (a2 : Addr) (p1 : Int32) (p2 : Int32) (p5 : Int32) (xs : List Int32) (ys : List Int32) (G : Nat → Int32) (h0 : Heap) (n0 : Nat) (Z0 : n0 ≤ h0.size) (F0 : own_A Z h0 a1 .byte (xs.map Value.int)) (F1 : own_A Z h0 a2 .byte (ys.map Value.int)) (na : a1 ≠ a2) (ga : n0 ≤ a2) (hw1 : 0 ≤ p1.toInt ∧ p1.toInt ≤ 8) (hhe : 0 ≤ p2.toInt ∧ p2.toInt ≤ 2) (ho5 : 0 ≤ p5.toInt ∧ p5.toInt ≤ 7) (hlx : xs.length = 16) (hly : ys.length = 16) (hg0 : ∀ n : Nat, (n : Int) < p1.toInt → ((n + 1) * 2) % 8 = 0 → G (0 + (n * 2) / 8) = ((own_cv 2 (2 : Int32) (fun i => xs.getD (0 + i) 0) n).toInt8.toInt32).toInt8.toInt32) (hp0 : ∀ u : Int32, u.toInt = (p1.toInt * 2) % 8 → 0 < u.toInt → G (0 + (p1.toInt.toNat * 2) / 8) = ((((own_cu 2 (2 : Int32) (fun i => xs.getD (0 + i) 0) p1.toInt.toNat) <<< (((8 : Int32) - u) &&& 31)).toInt8.toInt32).toInt8.toInt32)) (hg1 : ∀ n : Nat, (n : Int) < p1.toInt → ((n + 1) * 2) % 8 = 0 → G (((p1.toInt.toNat * 2 + 7) / 8) + (n * 2) / 8) = ((own_cv 2 (2 : Int32) (fun i => xs.getD (p1.toInt.toNat + i) 0) n).toInt8.toInt32).toInt8.toInt32) (hp1 : ∀ u : Int32, u.toInt = (p1.toInt * 2) % 8 → 0 < u.toInt → G (((p1.toInt.toNat * 2 + 7) / 8) + (p1.toInt.toNat * 2) / 8) = ((((own_cu 2 (2 : Int32) (fun i => xs.getD (p1.toInt.toNat + i) 0) p1.toInt.toNat) <<< (((8 : Int32) - u) &&& 31)).toInt8.toInt32).toInt8.toInt32)) :
    MetFree l (⟨"com/example/relayframe/relayframe/Palette", "pack", "([BIII[BI)I"⟩ : MethodName) (head1 (Jvm.Cond.code (⟨"com/example/relayframe/relayframe/Palette", "pack", "([BIII[BI)I"⟩ : MethodName) prog_3_method_7_code 11 (some .int) :: ws) ({ frames := 0, cells := 0, slots := 0, locals := 0 } : Room)) (fun a U => a = #[(.ref a1), (.int p1), (.int p2), (.int (2 : Int32)), (.ref a2), (.int p5)] ∧ Z.Warmed39 U.vm ∧ U.heap = h0) (fun _ _ _ _ _ => True) (fun _ U o U' => ∃ v L, o = .returned v ∧ Q3b2 Z a1 a2 p1 p2 p5 xs ys G h0 n0 v U'.heap L ∧ FrameEnd U o U' L ({ frames := 0, cells := 0, slots := 0, locals := 0 } : Room).cells ({ frames := 0, cells := 0, slots := 0, locals := 0 } : Room).slots) := by
  refine MetFree.of_bodySF (plainFor_of_name own_pn2) hisR ?_
  intro p e s m args below meth c s₁ Bd hml0 hP hK
  obtain ⟨rfl, hZ, hh⟩ := hP
  have hx := Bd.exec
  have hby := Bd.bytes
  have hml : c.maxLocals = 11 := hml0
  have hlk : meth.locks = false := BodyLoose.notSynchronized Bd
  have hown : s.vm.findClass "com/example/relayframe/relayframe/Palette" = some m.cls := findClass_of_methodNamed Bd.named
  have hnm := (name_of_methodNamed Bd.named Bd.method).1
  have X0 : Stand p l e ({ frames := 0, cells := 0, slots := 0, locals := 0 } : Room) s m #[(.ref a1), (.int p1), (.int p2), (.int (2 : Int32)), (.ref a2), (.int p5)] below meth c s₁ [] 0 0 := Stand.of_body Bd
  have e0 : s₁.heap = h0 := by rw [← hh, Bd.state]; rfl
  have N0 := Fr.nil n0
  show own_Go p e below s (Q3b2 Z a1 a2 p1 p2 p5 xs ys G h0 n0) ({ frames := 0, cells := 0, slots := 0, locals := 0 } : Room).cells ({ frames := 0, cells := 0, slots := 0, locals := 0 } : Room).slots _
  refine own_st (B := s₁.setTop (mkF m 0 #[(rV a1), (iV p1), (iV p2), (iV (2 : Int32)), (rV a2), (iV p5), uV, uV, uV, uV, uV] [])) (fun t k => castTop (ef_3b2 m (a1) (p1) (p2) ((2 : Int32)) (a2) (p5)) k) ?_
  refine own_st (B := s₁.setTop (mkF m 2 #[(rV a1), (iV p1), (iV p2), (iV (2 : Int32)), (rV a2), (iV p5), uV, uV, uV, uV, uV] [(.int p5)])) (fun t k => XS.iload X0.here hx rfl (hb hby d3_0) rfl k) ?_
  refine own_st (B := s₁.setTop (mkF m 4 #[(rV a1), (iV p1), (iV p2), (iV (2 : Int32)), (rV a2), (iV p5), (iV p5), uV, uV, uV, uV] [])) (fun t k => XS.istore X0.here hx rfl (hb hby d3_2) rfl (l' := #[(rV a1), (iV p1), (iV p2), (iV (2 : Int32)), (rV a2), (iV p5), (iV p5), uV, uV, uV, uV]) rfl k) ?_
  refine own_st (B := s₁.setTop (mkF m 5 #[(rV a1), (iV p1), (iV p2), (iV (2 : Int32)), (rV a2), (iV p5), (iV p5), uV, uV, uV, uV] [(.int (0 : Int32))])) (fun t k => XS.iconst X0.here hx rfl (hb hby d3_4) k) ?_
  refine own_st (B := s₁.setTop (mkF m 7 #[(rV a1), (iV p1), (iV p2), (iV (2 : Int32)), (rV a2), (iV p5), (iV p5), (iV (0 : Int32)), uV, uV, uV] [])) (fun t k => XS.istore X0.here hx rfl (hb hby d3_5) rfl (l' := #[(rV a1), (iV p1), (iV p2), (iV (2 : Int32)), (rV a2), (iV p5), (iV p5), (iV (0 : Int32)), uV, uV, uV]) rfl k) ?_
  refine own_st (B := s₁.setTop (mkF m 9 #[(rV a1), (iV p1), (iV p2), (iV (2 : Int32)), (rV a2), (iV p5), (iV p5), (iV (0 : Int32)), uV, uV, uV] [(.int (0 : Int32))])) (fun t k => XS.iload X0.here hx rfl (hb hby d3_7) rfl k) ?_
  refine own_st (B := s₁.setTop (mkF m 10 #[(rV a1), (iV p1), (iV p2), (iV (2 : Int32)), (rV a2), (iV p5), (iV p5), (iV (0 : Int32)), uV, uV, uV] [(.int p2), (.int (0 : Int32))])) (fun t k => XS.iloadN X0.here hx rfl (hb hby d3_9) rfl k) ?_
  by_cases hc1 : (0 : Int32) < p2
  · refine own_st (B := s₁.setTop (mkF m 13 #[(rV a1), (iV p1), (iV p2), (iV (2 : Int32)), (rV a2), (iV p5), (iV p5), (iV (0 : Int32)), uV, uV, uV] [])) (fun t k => XS.icmpNo X0.here hx rfl (hb hby d3_10) rfl (XT.ii_ge_f hc1) k) ?_
    refine own_st (B := s₁.setTop (mkF m 14 #[(rV a1), (iV p1), (iV p2), (iV (2 : Int32)), (rV a2), (iV p5), (iV p5), (iV (0 : Int32)), uV, uV, uV] [(.int (0 : Int32))])) (fun t k => XS.iconst X0.here hx rfl (hb hby d3_13) k) ?_
    refine own_st (B := s₁.setTop (mkF m 16 #[(rV a1), (iV p1), (iV p2), (iV (2 : Int32)), (rV a2), (iV p5), (iV p5), (iV (0 : Int32)), (iV (0 : Int32)), uV, uV] [])) (fun t k => XS.istore X0.here hx rfl (hb hby d3_14) rfl (l' := #[(rV a1), (iV p1), (iV p2), (iV (2 : Int32)), (rV a2), (iV p5), (iV p5), (iV (0 : Int32)), (iV (0 : Int32)), uV, uV]) rfl k) ?_
    refine own_st (B := s₁.setTop (mkF m 17 #[(rV a1), (iV p1), (iV p2), (iV (2 : Int32)), (rV a2), (iV p5), (iV p5), (iV (0 : Int32)), (iV (0 : Int32)), uV, uV] [(.int (0 : Int32))])) (fun t k => XS.iconst X0.here hx rfl (hb hby d3_16) k) ?_
    refine own_st (B := s₁.setTop (mkF m 19 #[(rV a1), (iV p1), (iV p2), (iV (2 : Int32)), (rV a2), (iV p5), (iV p5), (iV (0 : Int32)), (iV (0 : Int32)), (iV (0 : Int32)), uV] [])) (fun t k => XS.istore X0.here hx rfl (hb hby d3_17) rfl (l' := #[(rV a1), (iV p1), (iV p2), (iV (2 : Int32)), (rV a2), (iV p5), (iV p5), (iV (0 : Int32)), (iV (0 : Int32)), (iV (0 : Int32)), uV]) rfl k) ?_
    refine own_st (B := s₁.setTop (mkF m 20 #[(rV a1), (iV p1), (iV p2), (iV (2 : Int32)), (rV a2), (iV p5), (iV p5), (iV (0 : Int32)), (iV (0 : Int32)), (iV (0 : Int32)), uV] [(.int (0 : Int32))])) (fun t k => XS.iconst X0.here hx rfl (hb hby d3_19) k) ?_
    refine own_st (B := s₁.setTop (mkF m 22 #[(rV a1), (iV p1), (iV p2), (iV (2 : Int32)), (rV a2), (iV p5), (iV p5), (iV (0 : Int32)), (iV (0 : Int32)), (iV (0 : Int32)), (iV (0 : Int32))] [])) (fun t k => XS.istore X0.here hx rfl (hb hby d3_20) rfl (l' := #[(rV a1), (iV p1), (iV p2), (iV (2 : Int32)), (rV a2), (iV p5), (iV p5), (iV (0 : Int32)), (iV (0 : Int32)), (iV (0 : Int32)), (iV (0 : Int32))]) rfl k) ?_
    refine own_cut (P := ∀ (mu2 : Nat) (T2 : State) (lo2 : List Loc) (h2 : Heap) (oo0 : Int32) (cu0 : Int32) (us0 : Int32) (cc0 : Int32) (vv0 : List Value), Stand p l e ({ frames := 0, cells := 0, slots := 0, locals := 0 } : Room) s m #[(.ref a1), (.int p1), (.int p2), (.int (2 : Int32)), (.ref a2), (.int p5)] below meth c T2 lo2 0 0 → T2.heap = h2 → Fr n0 lo2 → n0 ≤ h2.size → Keep h0 h2 [a2] → own_A Z h2 a1 .byte (xs.map Value.int) → own_A Z h2 a2 .byte vv0 → mu2 = (p1.toInt - cc0.toInt).toNat → (0 ≤ cc0.toInt ∧ cc0.toInt ≤ p1.toInt) → (us0.toInt = (cc0.toInt * 2) % 8) → (oo0.toInt = p5.toInt + 0 + (cc0.toInt * 2) / 8) → (cu0 = own_cu 2 (2 : Int32) (fun i => xs.getD (0 + i) 0) cc0.toInt.toNat) → (own_Ow ys p5.toInt.toNat (0 + (cc0.toInt.toNat * 2) / 8) G vv0) → own_Go p e below s (Q3b2 Z a1 a2 p1 p2 p5 xs ys G h0 n0) ({ frames := 0, cells := 0, slots := 0, locals := 0 } : Room).cells ({ frames := 0, cells := 0, slots := 0, locals := 0 } : Room).slots (T2.setTop (mkF m 22 #[(rV a1), (iV p1), (iV p2), (iV (2 : Int32)), (rV a2), (iV p5), (iV oo0), (iV (0 : Int32)), (iV cu0), (iV us0), (iV cc0)] []))) (fun J2 => ?_) ?_
    · exact J2 _ s₁ _ _ p5 (0 : Int32) (0 : Int32) (0 : Int32) (ys.map Value.int) X0 e0 N0 Z0 (Keep.refl h0 [a2]) F0 F1 rfl (show 0 ≤ (0 : Int32).toInt ∧ (0 : Int32).toInt ≤ p1.toInt by have z0 : (0 : Int32).toInt = 0 := rfl; omega) (show (0 : Int32).toInt = ((0 : Int32).toInt * 2) % 8 by have z0 : (0 : Int32).toInt = 0 := rfl; omega) (show p5.toInt = p5.toInt + 0 + ((0 : Int32).toInt * 2) / 8 by have z0 : (0 : Int32).toInt = 0 := rfl; omega) (show (0 : Int32) = own_cu 2 (2 : Int32) (fun i => xs.getD (0 + i) 0) (0 : Int32).toInt.toNat by rfl) (show own_Ow ys p5.toInt.toNat (0 + ((0 : Int32).toInt.toNat * 2) / 8) G (ys.map Value.int) by have z1 : ((0 : Int32).toInt.toNat * 2) / 8 = 0 := rfl; rw [z1]; exact own_Ow.start hly)
    intro mu2
    induction mu2 using Nat.strongRecOn with
    | ind mu2 ih2 =>
      intro T2 lo2 h2 oo0 cu0 us0 cc0 vv0 X2 e2 N2 z2 kp2 lf2_0 lf2_1 hmu2 hc0 hu0 hO0 hC0 hV0
      refine own_st (B := T2.setTop (mkF m 24 #[(rV a1), (iV p1), (iV p2), (iV (2 : Int32)), (rV a2), (iV p5), (iV oo0), (iV (0 : Int32)), (iV cu0), (iV us0), (iV cc0)] [(.int cc0)])) (fun t k => XS.iload X2.here hx rfl (hb hby d3_22) rfl k) ?_
      refine own_st (B := T2.setTop (mkF m 25 #[(rV a1), (iV p1), (iV p2), (iV (2 : Int32)), (rV a2), (iV p5), (iV oo0), (iV (0 : Int32)), (iV cu0), (iV us0), (iV cc0)] [(.int p1), (.int cc0)])) (fun t k => XS.iloadN X2.here hx rfl (hb hby d3_24) rfl k) ?_
      by_cases hc3 : cc0 < p1
      · refine own_st (B := T2.setTop (mkF m 28 #[(rV a1), (iV p1), (iV p2), (iV (2 : Int32)), (rV a2), (iV p5), (iV oo0), (iV (0 : Int32)), (iV cu0), (iV us0), (iV cc0)] [])) (fun t k => XS.icmpNo X2.here hx rfl (hb hby d3_25) rfl (XT.ii_ge_f hc3) k) ?_
        refine own_st (B := T2.setTop (mkF m 30 #[(rV a1), (iV p1), (iV p2), (iV (2 : Int32)), (rV a2), (iV p5), (iV oo0), (iV (0 : Int32)), (iV cu0), (iV us0), (iV cc0)] [(.int cu0)])) (fun t k => XS.iload X2.here hx rfl (hb hby d3_28) rfl k) ?_
        refine own_st (B := T2.setTop (mkF m 31 #[(rV a1), (iV p1), (iV p2), (iV (2 : Int32)), (rV a2), (iV p5), (iV oo0), (iV (0 : Int32)), (iV cu0), (iV us0), (iV cc0)] [(.int (2 : Int32)), (.int cu0)])) (fun t k => XS.iloadN X2.here hx rfl (hb hby d3_30) rfl k) ?_
        refine own_st (B := T2.setTop (mkF m 32 #[(rV a1), (iV p1), (iV p2), (iV (2 : Int32)), (rV a2), (iV p5), (iV oo0), (iV (0 : Int32)), (iV cu0), (iV us0), (iV cc0)] [(.int (cu0 <<< ((2 : Int32) &&& 31)))])) (fun t k => XS.ishl X2.here hx rfl (hb hby d3_31) rfl k) ?_
        refine own_st (B := T2.setTop (mkF m 33 #[(rV a1), (iV p1), (iV p2), (iV (2 : Int32)), (rV a2), (iV p5), (iV oo0), (iV (0 : Int32)), (iV cu0), (iV us0), (iV cc0)] [(.ref a1), (.int (cu0 <<< ((2 : Int32) &&& 31)))])) (fun t k => XS.aloadN X2.here hx rfl (hb hby d3_32) rfl rfl k) ?_
        refine own_st (B := T2.setTop (mkF m 35 #[(rV a1), (iV p1), (iV p2), (iV (2 : Int32)), (rV a2), (iV p5), (iV oo0), (iV (0 : Int32)), (iV cu0), (iV us0), (iV cc0)] [(.int (0 : Int32)), (.ref a1), (.int (cu0 <<< ((2 : Int32) &&& 31)))])) (fun t k => XS.iload X2.here hx rfl (hb hby d3_33) rfl k) ?_
        refine own_st (B := T2.setTop (mkF m 36 #[(rV a1), (iV p1), (iV p2), (iV (2 : Int32)), (rV a2), (iV p5), (iV oo0), (iV (0 : Int32)), (iV cu0), (iV us0), (iV cc0)] [(.int p1), (.int (0 : Int32)), (.ref a1), (.int (cu0 <<< ((2 : Int32) &&& 31)))])) (fun t k => XS.iloadN X2.here hx rfl (hb hby d3_35) rfl k) ?_
        refine own_st (B := T2.setTop (mkF m 37 #[(rV a1), (iV p1), (iV p2), (iV (2 : Int32)), (rV a2), (iV p5), (iV oo0), (iV (0 : Int32)), (iV cu0), (iV us0), (iV cc0)] [(.int ((0 : Int32) * p1)), (.ref a1), (.int (cu0 <<< ((2 : Int32) &&& 31)))])) (fun t k => XS.imul X2.here hx rfl (hb hby d3_36) rfl k) ?_
        refine own_st (B := T2.setTop (mkF m 39 #[(rV a1), (iV p1), (iV p2), (iV (2 : Int32)), (rV a2), (iV p5), (iV oo0), (iV (0 : Int32)), (iV cu0), (iV us0), (iV cc0)] [(.int cc0), (.int ((0 : Int32) * p1)), (.ref a1), (.int (cu0 <<< ((2 : Int32) &&& 31)))])) (fun t k => XS.iload X2.here hx rfl (hb hby d3_37) rfl k) ?_
        refine own_st (B := T2.setTop (mkF m 40 #[(rV a1), (iV p1), (iV p2), (iV (2 : Int32)), (rV a2), (iV p5), (iV oo0), (iV (0 : Int32)), (iV cu0), (iV us0), (iV cc0)] [(.int (((0 : Int32) * p1) + cc0)), (.ref a1), (.int (cu0 <<< ((2 : Int32) &&& 31)))])) (fun t k => XS.iadd X2.here hx rfl (hb hby d3_39) rfl k) ?_
        have hltA := Int32.lt_iff_toInt_lt.mp hc3
        refine own_st (B := T2.setTop (mkF m 41 #[(rV a1), (iV p1), (iV p2), (iV (2 : Int32)), (rV a2), (iV p5), (iV oo0), (iV (0 : Int32)), (iV cu0), (iV us0), (iV cc0)] [(.int (xs.getD (0 + cc0.toInt.toNat) 0)), (.int (cu0 <<< ((2 : Int32) &&& 31)))])) (fun t k => own_ldB X2 hx hZ e2 lf2_0 (g := (mkF m 40 #[(rV a1), (iV p1), (iV p2), (iV (2 : Int32)), (rV a2), (iV p5), (iV oo0), (iV (0 : Int32)), (iV cu0), (iV us0), (iV cc0)] [(.int (((0 : Int32) * p1) + cc0)), (.ref a1), (.int (cu0 <<< ((2 : Int32) &&& 31)))])) (i := (0 + cc0.toInt.toNat)) (own_r0 hw1 (by omega)) (own_getI (by omega)) rfl rfl (hb hby d3_40) k) ?_
        refine own_st (B := T2.setTop (mkF m 42 #[(rV a1), (iV p1), (iV p2), (iV (2 : Int32)), (rV a2), (iV p5), (iV oo0), (iV (0 : Int32)), (iV cu0), (iV us0), (iV cc0)] [(.int ((cu0 <<< ((2 : Int32) &&& 31)) ||| (xs.getD (0 + cc0.toInt.toNat) 0)))])) (fun t k => XS.ior X2.here hx rfl (hb hby d3_41) rfl k) ?_
        obtain ⟨v4, ev4⟩ : ∃ z : Int32, z = ((cu0 <<< ((2 : Int32) &&& 31)) ||| (xs.getD (0 + cc0.toInt.toNat) 0)) := ⟨_, rfl⟩
        rw [← ev4]
        refine own_st (B := T2.setTop (mkF m 44 #[(rV a1), (iV p1), (iV p2), (iV (2 : Int32)), (rV a2), (iV p5), (iV oo0), (iV (0 : Int32)), (iV v4), (iV us0), (iV cc0)] [])) (fun t k => XS.istore X2.here hx rfl (hb hby d3_42) rfl (l' := #[(rV a1), (iV p1), (iV p2), (iV (2 : Int32)), (rV a2), (iV p5), (iV oo0), (iV (0 : Int32)), (iV v4), (iV us0), (iV cc0)]) rfl k) ?_
        refine own_st (B := T2.setTop (mkF m 46 #[(rV a1), (iV p1), (iV p2), (iV (2 : Int32)), (rV a2), (iV p5), (iV oo0), (iV (0 : Int32)), (iV v4), (iV us0), (iV cc0)] [(.int us0)])) (fun t k => XS.iload X2.here hx rfl (hb hby d3_44) rfl k) ?_
        refine own_st (B := T2.setTop (mkF m 47 #[(rV a1), (iV p1), (iV p2), (iV (2 : Int32)), (rV a2), (iV p5), (iV oo0), (iV (0 : Int32)), (iV v4), (iV us0), (iV cc0)] [(.int (2 : Int32)), (.int us0)])) (fun t k => XS.iloadN X2.here hx rfl (hb hby d3_46) rfl k) ?_
        refine own_st (B := T2.setTop (mkF m 48 #[(rV a1), (iV p1), (iV p2), (iV (2 : Int32)), (rV a2), (iV p5), (iV oo0), (iV (0 : Int32)), (iV v4), (iV us0), (iV cc0)] [(.int (us0 + (2 : Int32)))])) (fun t k => XS.iadd X2.here hx rfl (hb hby d3_47) rfl k) ?_
        obtain ⟨v5, ev5⟩ : ∃ z : Int32, z = (us0 + (2 : Int32)) := ⟨_, rfl⟩
        rw [← ev5]
        refine own_st (B := T2.setTop (mkF m 50 #[(rV a1), (iV p1), (iV p2), (iV (2 : Int32)), (rV a2), (iV p5), (iV oo0), (iV (0 : Int32)), (iV v4), (iV v5), (iV cc0)] [])) (fun t k => XS.istore X2.here hx rfl (hb hby d3_48) rfl (l' := #[(rV a1), (iV p1), (iV p2), (iV (2 : Int32)), (rV a2), (iV p5), (iV oo0), (iV (0 : Int32)), (iV v4), (iV v5), (iV cc0)]) rfl k) ?_
        refine own_st (B := T2.setTop (mkF m 52 #[(rV a1), (iV p1), (iV p2), (iV (2 : Int32)), (rV a2), (iV p5), (iV oo0), (iV (0 : Int32)), (iV v4), (iV v5), (iV cc0)] [(.int v5)])) (fun t k => XS.iload X2.here hx rfl (hb hby d3_50) rfl k) ?_
        refine own_st (B := T2.setTop (mkF m 54 #[(rV a1), (iV p1), (iV p2), (iV (2 : Int32)), (rV a2), (iV p5), (iV oo0), (iV (0 : Int32)), (iV v4), (iV v5), (iV cc0)] [(.int (8 : Int32)), (.int v5)])) (fun t k => XS.bipush X2.here hx rfl (hb hby d3_52) k) ?_
        by_cases hc6 : v5 = (8 : Int32)
        · refine own_st (B := T2.setTop (mkF m 57 #[(rV a1), (iV p1), (iV p2), (iV (2 : Int32)), (rV a2), (iV p5), (iV oo0), (iV (0 : Int32)), (iV v4), (iV v5), (iV cc0)] [])) (fun t k => XS.icmpNo X2.here hx rfl (hb hby d3_54) rfl (XT.ii_ne_f hc6) k) ?_
          refine own_st (B := T2.setTop (mkF m 59 #[(rV a1), (iV p1), (iV p2), (iV (2 : Int32)), (rV a2), (iV p5), (iV oo0), (iV (0 : Int32)), (iV v4), (iV v5), (iV cc0)] [(.ref a2)])) (fun t k => XS.aload X2.here hx rfl (hb hby d3_57) rfl rfl k) ?_
          refine own_st (B := T2.setTop (mkF m 61 #[(rV a1), (iV p1), (iV p2), (iV (2 : Int32)), (rV a2), (iV p5), (iV oo0), (iV (0 : Int32)), (iV v4), (iV v5), (iV cc0)] [(.int oo0), (.ref a2)])) (fun t k => XS.iload X2.here hx rfl (hb hby d3_59) rfl k) ?_
          refine own_st (B := T2.setTop (mkF m 64 #[(rV a1), (iV p1), (iV p2), (iV (2 : Int32)), (rV a2), (iV p5), (iV (oo0 + (1 : Int32))), (iV (0 : Int32)), (iV v4), (iV v5), (iV cc0)] [(.int oo0), (.ref a2)])) (fun t k => XS.iinc X2.here hx rfl (hb hby d3_61) rfl (l' := #[(rV a1), (iV p1), (iV p2), (iV (2 : Int32)), (rV a2), (iV p5), (iV (oo0 + (1 : Int32))), (iV (0 : Int32)), (iV v4), (iV v5), (iV cc0)]) rfl k) ?_
          refine own_st (B := T2.setTop (mkF m 66 #[(rV a1), (iV p1), (iV p2), (iV (2 : Int32)), (rV a2), (iV p5), (iV (oo0 + (1 : Int32))), (iV (0 : Int32)), (iV v4), (iV v5), (iV cc0)] [(.int v4), (.int oo0), (.ref a2)])) (fun t k => XS.iload X2.here hx rfl (hb hby d3_64) rfl k) ?_
          refine own_st (B := T2.setTop (mkF m 67 #[(rV a1), (iV p1), (iV p2), (iV (2 : Int32)), (rV a2), (iV p5), (iV (oo0 + (1 : Int32))), (iV (0 : Int32)), (iV v4), (iV v5), (iV cc0)] [(.int (v4.toInt8.toInt32)), (.int oo0), (.ref a2)])) (fun t k => XS.i2b X2.here hx rfl (hb hby d3_66) rfl k) ?_
          have hltB := Int32.lt_iff_toInt_lt.mp hc3
          obtain ⟨T7, h7, X7, e7, W7, A7, st7⟩ := own_stB X2 hx hZ e2 lf2_1 (j := oo0) (x := (v4.toInt8.toInt32)) (i := (oo0.toInt.toNat)) (own_nat (by omega)) (by have h9 := hV0.1; omega) (g := (mkF m 67 #[(rV a1), (iV p1), (iV p2), (iV (2 : Int32)), (rV a2), (iV p5), (iV (oo0 + (1 : Int32))), (iV (0 : Int32)), (iV v4), (iV v5), (iV cc0)] [(.int (v4.toInt8.toInt32)), (.int oo0), (.ref a2)])) rfl rfl (hb hby d3_67)
          have f7_ : own_A Z h7 a2 .byte (vv0.set (oo0.toInt.toNat) (.int ((v4.toInt8.toInt32).toInt8.toInt32))) := A7
          have z8 : n0 ≤ h7.size := Nat.le_trans z2 (Keep.of_wr W7).1
          have kp8 : Keep h0 h7 [a2] := kp2.wr W7 (Or.inl (List.mem_of_getElem? (i := 0) rfl))
          have n9 := Fr.snoc X7 N2 ga
          refine own_st (B := T7.setTop (mkF m 68 #[(rV a1), (iV p1), (iV p2), (iV (2 : Int32)), (rV a2), (iV p5), (iV (oo0 + (1 : Int32))), (iV (0 : Int32)), (iV v4), (iV v5), (iV cc0)] [])) (fun t k => st7 t k) ?_
          refine own_st (B := T7.setTop (mkF m 69 #[(rV a1), (iV p1), (iV p2), (iV (2 : Int32)), (rV a2), (iV p5), (iV (oo0 + (1 : Int32))), (iV (0 : Int32)), (iV v4), (iV v5), (iV cc0)] [(.int (0 : Int32))])) (fun t k => XS.iconst X7.here hx rfl (hb hby d3_68) k) ?_
          refine own_st (B := T7.setTop (mkF m 71 #[(rV a1), (iV p1), (iV p2), (iV (2 : Int32)), (rV a2), (iV p5), (iV (oo0 + (1 : Int32))), (iV (0 : Int32)), (iV (0 : Int32)), (iV v5), (iV cc0)] [])) (fun t k => XS.istore X7.here hx rfl (hb hby d3_69) rfl (l' := #[(rV a1), (iV p1), (iV p2), (iV (2 : Int32)), (rV a2), (iV p5), (iV (oo0 + (1 : Int32))), (iV (0 : Int32)), (iV (0 : Int32)), (iV v5), (iV cc0)]) rfl k) ?_
          refine own_st (B := T7.setTop (mkF m 72 #[(rV a1), (iV p1), (iV p2), (iV (2 : Int32)), (rV a2), (iV p5), (iV (oo0 + (1 : Int32))), (iV (0 : Int32)), (iV (0 : Int32)), (iV v5), (iV cc0)] [(.int (0 : Int32))])) (fun t k => XS.iconst X7.here hx rfl (hb hby d3_71) k) ?_
          refine own_st (B := T7.setTop (mkF m 74 #[(rV a1), (iV p1), (iV p2), (iV (2 : Int32)), (rV a2), (iV p5), (iV (oo0 + (1 : Int32))), (iV (0 : Int32)), (iV (0 : Int32)), (iV (0 : Int32)), (iV cc0)] [])) (fun t k => XS.istore X7.here hx rfl (hb hby d3_72) rfl (l' := #[(rV a1), (iV p1), (iV p2), (iV (2 : Int32)), (rV a2), (iV p5), (iV (oo0 + (1 : Int32))), (iV (0 : Int32)), (iV (0 : Int32)), (iV (0 : Int32)), (iV cc0)]) rfl k) ?_
          refine own_st (B := T7.setTop (mkF m 77 #[(rV a1), (iV p1), (iV p2), (iV (2 : Int32)), (rV a2), (iV p5), (iV (oo0 + (1 : Int32))), (iV (0 : Int32)), (iV (0 : Int32)), (iV (0 : Int32)), (iV (cc0 + (1 : Int32)))] [])) (fun t k => XS.iinc X7.here hx rfl (hb hby d3_74) rfl (l' := #[(rV a1), (iV p1), (iV p2), (iV (2 : Int32)), (rV a2), (iV p5), (iV (oo0 + (1 : Int32))), (iV (0 : Int32)), (iV (0 : Int32)), (iV (0 : Int32)), (iV (cc0 + (1 : Int32)))]) rfl k) ?_
          refine own_st (B := T7.setTop (mkF m 22 #[(rV a1), (iV p1), (iV p2), (iV (2 : Int32)), (rV a2), (iV p5), (iV (oo0 + (1 : Int32))), (iV (0 : Int32)), (iV (0 : Int32)), (iV (0 : Int32)), (iV (cc0 + (1 : Int32)))] [])) (fun t k => XS.goto X7.here hx rfl (pc0 := 77) (pc' := 22) rfl (hb hby d3_77) (by decide) (by decide) k) ?_
          have hlt := Int32.lt_iff_toInt_lt.mp hc3
          have hcc := own_inc (x := cc0) (by omega)
          have hN : (cc0 + (1 : Int32)).toInt.toNat = cc0.toInt.toNat + 1 := by rw [hcc]; omega
          have hvu : v5.toInt = us0.toInt + 2 := by rw [ev5]; have g1 := c_iadd us0 (2 : Int32); have g2 := rng32 (us0 + (2 : Int32)); have g3 : ((2 : Int32)).toInt = 2 := rfl; omega
          have hv8 : v5.toInt = 8 := own_eq8.mp hc6
          have z0 : (0 : Int32).toInt = 0 := rfl
          have hoo := own_inc (x := oo0) (by omega)
          have hcv : own_cv 2 (2 : Int32) (fun i => xs.getD (0 + i) 0) cc0.toInt.toNat = v4 := by unfold own_cv; rw [← hC0]; exact ev4.symm
          have hn1 : 0 + ((cc0 + (1 : Int32)).toInt.toNat * 2) / 8 = (0 + (cc0.toInt.toNat * 2) / 8) + 1 := by rw [hN]; omega
          have f10 : own_A Z h7 a1 .byte (xs.map Value.int) := (lf2_0.other W7 na)
          exact ih2 _ (by rw [hcc]; omega) T7 _ _ ((oo0 + (1 : Int32))) (0 : Int32) (0 : Int32) ((cc0 + (1 : Int32))) ((vv0.set (oo0.toInt.toNat) (.int ((v4.toInt8.toInt32).toInt8.toInt32)))) X7 e7 n9 z8 kp8 f10 f7_ rfl (show 0 ≤ (cc0 + (1 : Int32)).toInt ∧ (cc0 + (1 : Int32)).toInt ≤ p1.toInt by rw [hcc]; omega) (show (0 : Int32).toInt = ((cc0 + (1 : Int32)).toInt * 2) % 8 by rw [hcc]; omega) (show (oo0 + (1 : Int32)).toInt = p5.toInt + 0 + ((cc0 + (1 : Int32)).toInt * 2) / 8 by rw [hoo, hcc]; omega) (show (0 : Int32) = own_cu 2 (2 : Int32) (fun i => xs.getD (0 + i) 0) (cc0 + (1 : Int32)).toInt.toNat by rw [hN, own_cu, if_pos (by omega)]) (show own_Ow ys p5.toInt.toNat (0 + ((cc0 + (1 : Int32)).toInt.toNat * 2) / 8) G (vv0.set (oo0.toInt.toNat) (.int ((v4.toInt8.toInt32).toInt8.toInt32))) by rw [hn1]; exact hV0.step (by omega) (by omega) (by rw [hg0 _ (by omega) (by omega), hcv]))
        · refine own_st (B := T2.setTop (mkF m 74 #[(rV a1), (iV p1), (iV p2), (iV (2 : Int32)), (rV a2), (iV p5), (iV oo0), (iV (0 : Int32)), (iV v4), (iV v5), (iV cc0)] [])) (fun t k => XS.icmpYes X2.here hx rfl (pc0 := 54) (pc' := 74) rfl (hb hby d3_54) rfl (XT.ii_ne_t hc6) (by decide) (by decide) k) ?_
          refine own_st (B := T2.setTop (mkF m 77 #[(rV a1), (iV p1), (iV p2), (iV (2 : Int32)), (rV a2), (iV p5), (iV oo0), (iV (0 : Int32)), (iV v4), (iV v5), (iV (cc0 + (1 : Int32)))] [])) (fun t k => XS.iinc X2.here hx rfl (hb hby d3_74) rfl (l' := #[(rV a1), (iV p1), (iV p2), (iV (2 : Int32)), (rV a2), (iV p5), (iV oo0), (iV (0 : Int32)), (iV v4), (iV v5), (iV (cc0 + (1 : Int32)))]) rfl k) ?_
          refine own_st (B := T2.setTop (mkF m 22 #[(rV a1), (iV p1), (iV p2), (iV (2 : Int32)), (rV a2), (iV p5), (iV oo0), (iV (0 : Int32)), (iV v4), (iV v5), (iV (cc0 + (1 : Int32)))] [])) (fun t k => XS.goto X2.here hx rfl (pc0 := 77) (pc' := 22) rfl (hb hby d3_77) (by decide) (by decide) k) ?_
          have hlt := Int32.lt_iff_toInt_lt.mp hc3
          have hcc := own_inc (x := cc0) (by omega)
          have hN : (cc0 + (1 : Int32)).toInt.toNat = cc0.toInt.toNat + 1 := by rw [hcc]; omega
          have hvu : v5.toInt = us0.toInt + 2 := by rw [ev5]; have g1 := c_iadd us0 (2 : Int32); have g2 := rng32 (us0 + (2 : Int32)); have g3 : ((2 : Int32)).toInt = 2 := rfl; omega
          have hv8 : ¬ (v5.toInt = 8) := fun q => hc6 (own_eq8.mpr q)
          have z0 : (0 : Int32).toInt = 0 := rfl
          have hn1 : 0 + ((cc0 + (1 : Int32)).toInt.toNat * 2) / 8 = 0 + (cc0.toInt.toNat * 2) / 8 := by rw [hN]; omega
          exact ih2 _ (by rw [hcc]; omega) T2 _ _ oo0 v4 v5 ((cc0 + (1 : Int32))) vv0 X2 e2 N2 z2 kp2 lf2_0 lf2_1 rfl (show 0 ≤ (cc0 + (1 : Int32)).toInt ∧ (cc0 + (1 : Int32)).toInt ≤ p1.toInt by rw [hcc]; omega) (show v5.toInt = ((cc0 + (1 : Int32)).toInt * 2) % 8 by rw [hcc]; omega) (show oo0.toInt = p5.toInt + 0 + ((cc0 + (1 : Int32)).toInt * 2) / 8 by rw [hcc]; omega) (show v4 = own_cu 2 (2 : Int32) (fun i => xs.getD (0 + i) 0) (cc0 + (1 : Int32)).toInt.toNat by rw [hN, own_cu, if_neg (by omega), ← hC0]; exact ev4) (show own_Ow ys p5.toInt.toNat (0 + ((cc0 + (1 : Int32)).toInt.toNat * 2) / 8) G vv0 by rw [hn1]; exact hV0)
      · refine own_st (B := T2.setTop (mkF m 80 #[(rV a1), (iV p1), (iV p2), (iV (2 : Int32)), (rV a2), (iV p5), (iV oo0), (iV (0 : Int32)), (iV cu0), (iV us0), (iV cc0)] [])) (fun t k => XS.icmpYes X2.here hx rfl (pc0 := 25) (pc' := 80) rfl (hb hby d3_25) rfl (XT.ii_ge_t hc3) (by decide) (by decide) k) ?_
        have hcw : cc0.toInt = p1.toInt := by have h9 : ¬ _ := fun q => hc3 (Int32.lt_iff_toInt_lt.mpr q); omega
        have hcn : cc0.toInt.toNat = p1.toInt.toNat := by rw [hcw]
        refine own_cut (P := ∀ (T11 : State) (lo11 : List Loc) (h11 : Heap) (om0 : Int32) (vm0 : List Value), Stand p l e ({ frames := 0, cells := 0, slots := 0, locals := 0 } : Room) s m #[(.ref a1), (.int p1), (.int p2), (.int (2 : Int32)), (.ref a2), (.int p5)] below meth c T11 lo11 0 0 → T11.heap = h11 → Fr n0 lo11 → n0 ≤ h11.size → Keep h0 h11 [a2] → own_A Z h11 a1 .byte (xs.map Value.int) → own_A Z h11 a2 .byte vm0 → (om0.toInt = p5.toInt + 0 + ((p1.toInt * 2 + 7) / 8)) → (own_Ow ys p5.toInt.toNat (0 + ((p1.toInt.toNat * 2 + 7) / 8)) G vm0) → own_Go p e below s (Q3b2 Z a1 a2 p1 p2 p5 xs ys G h0 n0) ({ frames := 0, cells := 0, slots := 0, locals := 0 } : Room).cells ({ frames := 0, cells := 0, slots := 0, locals := 0 } : Room).slots (T11.setTop (mkF m 102 #[(rV a1), (iV p1), (iV p2), (iV (2 : Int32)), (rV a2), (iV p5), (iV om0), (iV (0 : Int32)), (iV cu0), (iV us0), (iV cc0)] []))) (fun J11 => ?_) ?_
        · refine own_st (B := T2.setTop (mkF m 82 #[(rV a1), (iV p1), (iV p2), (iV (2 : Int32)), (rV a2), (iV p5), (iV oo0), (iV (0 : Int32)), (iV cu0), (iV us0), (iV cc0)] [(.int us0)])) (fun t k => XS.iload X2.here hx rfl (hb hby d3_80) rfl k) ?_
          by_cases hc12 : (0 : Int32) < us0
          · refine own_st (B := T2.setTop (mkF m 85 #[(rV a1), (iV p1), (iV p2), (iV (2 : Int32)), (rV a2), (iV p5), (iV oo0), (iV (0 : Int32)), (iV cu0), (iV us0), (iV cc0)] [])) (fun t k => XS.ifNo X2.here hx rfl (hb hby d3_82) rfl (XT.i0_le_f hc12) k) ?_
            refine own_st (B := T2.setTop (mkF m 87 #[(rV a1), (iV p1), (iV p2), (iV (2 : Int32)), (rV a2), (iV p5), (iV oo0), (iV (0 : Int32)), (iV cu0), (iV us0), (iV cc0)] [(.ref a2)])) (fun t k => XS.aload X2.here hx rfl (hb hby d3_85) rfl rfl k) ?_
            refine own_st (B := T2.setTop (mkF m 89 #[(rV a1), (iV p1), (iV p2), (iV (2 : Int32)), (rV a2), (iV p5), (iV oo0), (iV (0 : Int32)), (iV cu0), (iV us0), (iV cc0)] [(.int oo0), (.ref a2)])) (fun t k => XS.iload X2.here hx rfl (hb hby d3_87) rfl k) ?_
            refine own_st (B := T2.setTop (mkF m 92 #[(rV a1), (iV p1), (iV p2), (iV (2 : Int32)), (rV a2), (iV p5), (iV (oo0 + (1 : Int32))), (iV (0 : Int32)), (iV cu0), (iV us0), (iV cc0)] [(.int oo0), (.ref a2)])) (fun t k => XS.iinc X2.here hx rfl (hb hby d3_89) rfl (l' := #[(rV a1), (iV p1), (iV p2), (iV (2 : Int32)), (rV a2), (iV p5), (iV (oo0 + (1 : Int32))), (iV (0 : Int32)), (iV cu0), (iV us0), (iV cc0)]) rfl k) ?_
            refine own_st (B := T2.setTop (mkF m 94 #[(rV a1), (iV p1), (iV p2), (iV (2 : Int32)), (rV a2), (iV p5), (iV (oo0 + (1 : Int32))), (iV (0 : Int32)), (iV cu0), (iV us0), (iV cc0)] [(.int cu0), (.int oo0), (.ref a2)])) (fun t k => XS.iload X2.here hx rfl (hb hby d3_92) rfl k) ?_
            refine own_st (B := T2.setTop (mkF m 96 #[(rV a1), (iV p1), (iV p2), (iV (2 : Int32)), (rV a2), (iV p5), (iV (oo0 + (1 : Int32))), (iV (0 : Int32)), (iV cu0), (iV us0), (iV cc0)] [(.int (8 : Int32)), (.int cu0), (.int oo0), (.ref a2)])) (fun t k => XS.bipush X2.here hx rfl (hb hby d3_94) k) ?_
            refine own_st (B := T2.setTop (mkF m 98 #[(rV a1), (iV p1), (iV p2), (iV (2 : Int32)), (rV a2), (iV p5), (iV (oo0 + (1 : Int32))), (iV (0 : Int32)), (iV cu0), (iV us0), (iV cc0)] [(.int us0), (.int (8 : Int32)), (.int cu0), (.int oo0), (.ref a2)])) (fun t k => XS.iload X2.here hx rfl (hb hby d3_96) rfl k) ?_
            refine own_st (B := T2.setTop (mkF m 99 #[(rV a1), (iV p1), (iV p2), (iV (2 : Int32)), (rV a2), (iV p5), (iV (oo0 + (1 : Int32))), (iV (0 : Int32)), (iV cu0), (iV us0), (iV cc0)] [(.int ((8 : Int32) - us0)), (.int cu0), (.int oo0), (.ref a2)])) (fun t k => XS.isub X2.here hx rfl (hb hby d3_98) rfl k) ?_
            refine own_st (B := T2.setTop (mkF m 100 #[(rV a1), (iV p1), (iV p2), (iV (2 : Int32)), (rV a2), (iV p5), (iV (oo0 + (1 : Int32))), (iV (0 : Int32)), (iV cu0), (iV us0), (iV cc0)] [(.int (cu0 <<< (((8 : Int32) - us0) &&& 31))), (.int oo0), (.ref a2)])) (fun t k => XS.ishl X2.here hx rfl (hb hby d3_99) rfl k) ?_
            refine own_st (B := T2.setTop (mkF m 101 #[(rV a1), (iV p1), (iV p2), (iV (2 : Int32)), (rV a2), (iV p5), (iV (oo0 + (1 : Int32))), (iV (0 : Int32)), (iV cu0), (iV us0), (iV cc0)] [(.int ((cu0 <<< (((8 : Int32) - us0) &&& 31)).toInt8.toInt32)), (.int oo0), (.ref a2)])) (fun t k => XS.i2b X2.here hx rfl (hb hby d3_100) rfl k) ?_
            obtain ⟨T13, h13, X13, e13, W13, A13, st13⟩ := own_stB X2 hx hZ e2 lf2_1 (j := oo0) (x := ((cu0 <<< (((8 : Int32) - us0) &&& 31)).toInt8.toInt32)) (i := (oo0.toInt.toNat)) (own_nat (by omega)) (by have h9 := hV0.1; omega) (g := (mkF m 101 #[(rV a1), (iV p1), (iV p2), (iV (2 : Int32)), (rV a2), (iV p5), (iV (oo0 + (1 : Int32))), (iV (0 : Int32)), (iV cu0), (iV us0), (iV cc0)] [(.int ((cu0 <<< (((8 : Int32) - us0) &&& 31)).toInt8.toInt32)), (.int oo0), (.ref a2)])) rfl rfl (hb hby d3_101)
            have f13_ : own_A Z h13 a2 .byte (vv0.set (oo0.toInt.toNat) (.int (((cu0 <<< (((8 : Int32) - us0) &&& 31)).toInt8.toInt32).toInt8.toInt32))) := A13
            have z14 : n0 ≤ h13.size := Nat.le_trans z2 (Keep.of_wr W13).1
            have kp14 : Keep h0 h13 [a2] := kp2.wr W13 (Or.inl (List.mem_of_getElem? (i := 0) rfl))
            have n15 := Fr.snoc X13 N2 ga
            refine own_st (B := T13.setTop (mkF m 102 #[(rV a1), (iV p1), (iV p2), (iV (2 : Int32)), (rV a2), (iV p5), (iV (oo0 + (1 : Int32))), (iV (0 : Int32)), (iV cu0), (iV us0), (iV cc0)] [])) (fun t k => st13 t k) ?_
            have f16 : own_A Z h13 a1 .byte (xs.map Value.int) := (lf2_0.other W13 na)
            have z0 : (0 : Int32).toInt = 0 := rfl
            have hup := Int32.lt_iff_toInt_lt.mp hc12
            have hoo := own_inc (x := oo0) (by omega)
            have hn1 : 0 + ((p1.toInt.toNat * 2 + 7) / 8) = (0 + (cc0.toInt.toNat * 2) / 8) + 1 := by rw [hcn]; omega
            exact J11 T13 _ _ ((oo0 + (1 : Int32))) ((vv0.set (oo0.toInt.toNat) (.int (((cu0 <<< (((8 : Int32) - us0) &&& 31)).toInt8.toInt32).toInt8.toInt32)))) X13 e13 n15 z14 kp14 f16 f13_ (show (oo0 + (1 : Int32)).toInt = p5.toInt + 0 + ((p1.toInt * 2 + 7) / 8) by rw [hoo]; omega) (show own_Ow ys p5.toInt.toNat (0 + ((p1.toInt.toNat * 2 + 7) / 8)) G (vv0.set (oo0.toInt.toNat) (.int (((cu0 <<< (((8 : Int32) - us0) &&& 31)).toInt8.toInt32).toInt8.toInt32))) by rw [hn1]; exact hV0.step (by omega) (by omega) (by rw [hC0, hcn]; exact hp0 us0 (by rw [← hcw]; exact hu0) (by omega)))
          · refine own_st (B := T2.setTop (mkF m 102 #[(rV a1), (iV p1), (iV p2), (iV (2 : Int32)), (rV a2), (iV p5), (iV oo0), (iV (0 : Int32)), (iV cu0), (iV us0), (iV cc0)] [])) (fun t k => XS.ifYes X2.here hx rfl (pc0 := 82) (pc' := 102) rfl (hb hby d3_82) rfl (XT.i0_le_t hc12) (by decide) (by decide) k) ?_
            have z0 : (0 : Int32).toInt = 0 := rfl
            have hup : ¬ (0 < us0.toInt) := fun q => hc12 (Int32.lt_iff_toInt_lt.mpr (by rw [z0]; exact q))
            have hn1 : 0 + ((p1.toInt.toNat * 2 + 7) / 8) = 0 + (cc0.toInt.toNat * 2) / 8 := by rw [hcn]; omega
            exact J11 T2 _ _ oo0 vv0 X2 e2 N2 z2 kp2 lf2_0 lf2_1 (show oo0.toInt = p5.toInt + 0 + ((p1.toInt * 2 + 7) / 8) by omega) (show own_Ow ys p5.toInt.toNat (0 + ((p1.toInt.toNat * 2 + 7) / 8)) G vv0 by rw [hn1]; exact hV0)
        intro T11 lo11 h11 om0 vm0 X11 e11 N11 z11 kp11 lf11_0 lf11_1 hE0 hF0
        rw [Int.add_zero] at hE0
        rw [Nat.zero_add] at hF0
        refine own_st (B := T11.setTop (mkF m 105 #[(rV a1), (iV p1), (iV p2), (iV (2 : Int32)), (rV a2), (iV p5), (iV om0), (iV ((0 : Int32) + (1 : Int32))), (iV cu0), (iV us0), (iV cc0)] [])) (fun t k => XS.iinc X11.here hx rfl (hb hby d3_102) rfl (l' := #[(rV a1), (iV p1), (iV p2), (iV (2 : Int32)), (rV a2), (iV p5), (iV om0), (iV ((0 : Int32) + (1 : Int32))), (iV cu0), (iV us0), (iV cc0)]) rfl k) ?_
        refine own_st (B := T11.setTop (mkF m 7 #[(rV a1), (iV p1), (iV p2), (iV (2 : Int32)), (rV a2), (iV p5), (iV om0), (iV ((0 : Int32) + (1 : Int32))), (iV cu0), (iV us0), (iV cc0)] [])) (fun t k => XS.goto X11.here hx rfl (pc0 := 105) (pc' := 7) rfl (hb hby d3_105) (by decide) (by decide) k) ?_
        rw [show ((0 : Int32) + (1 : Int32)) = (1 : Int32) from by decide]
        refine own_st (B := T11.setTop (mkF m 9 #[(rV a1), (iV p1), (iV p2), (iV (2 : Int32)), (rV a2), (iV p5), (iV om0), (iV (1 : Int32)), (iV cu0), (iV us0), (iV cc0)] [(.int (1 : Int32))])) (fun t k => XS.iload X11.here hx rfl (hb hby d3_7) rfl k) ?_
        refine own_st (B := T11.setTop (mkF m 10 #[(rV a1), (iV p1), (iV p2), (iV (2 : Int32)), (rV a2), (iV p5), (iV om0), (iV (1 : Int32)), (iV cu0), (iV us0), (iV cc0)] [(.int p2), (.int (1 : Int32))])) (fun t k => XS.iloadN X11.here hx rfl (hb hby d3_9) rfl k) ?_
        by_cases hc17 : (1 : Int32) < p2
        · refine own_st (B := T11.setTop (mkF m 13 #[(rV a1), (iV p1), (iV p2), (iV (2 : Int32)), (rV a2), (iV p5), (iV om0), (iV (1 : Int32)), (iV cu0), (iV us0), (iV cc0)] [])) (fun t k => XS.icmpNo X11.here hx rfl (hb hby d3_10) rfl (XT.ii_ge_f hc17) k) ?_
          refine own_st (B := T11.setTop (mkF m 14 #[(rV a1), (iV p1), (iV p2), (iV (2 : Int32)), (rV a2), (iV p5), (iV om0), (iV (1 : Int32)), (iV cu0), (iV us0), (iV cc0)] [(.int (0 : Int32))])) (fun t k => XS.iconst X11.here hx rfl (hb hby d3_13) k) ?_
          refine own_st (B := T11.setTop (mkF m 16 #[(rV a1), (iV p1), (iV p2), (iV (2 : Int32)), (rV a2), (iV p5), (iV om0), (iV (1 : Int32)), (iV (0 : Int32)), (iV us0), (iV cc0)] [])) (fun t k => XS.istore X11.here hx rfl (hb hby d3_14) rfl (l' := #[(rV a1), (iV p1), (iV p2), (iV (2 : Int32)), (rV a2), (iV p5), (iV om0), (iV (1 : Int32)), (iV (0 : Int32)), (iV us0), (iV cc0)]) rfl k) ?_
          refine own_st (B := T11.setTop (mkF m 17 #[(rV a1), (iV p1), (iV p2), (iV (2 : Int32)), (rV a2), (iV p5), (iV om0), (iV (1 : Int32)), (iV (0 : Int32)), (iV us0), (iV cc0)] [(.int (0 : Int32))])) (fun t k => XS.iconst X11.here hx rfl (hb hby d3_16) k) ?_
          refine own_st (B := T11.setTop (mkF m 19 #[(rV a1), (iV p1), (iV p2), (iV (2 : Int32)), (rV a2), (iV p5), (iV om0), (iV (1 : Int32)), (iV (0 : Int32)), (iV (0 : Int32)), (iV cc0)] [])) (fun t k => XS.istore X11.here hx rfl (hb hby d3_17) rfl (l' := #[(rV a1), (iV p1), (iV p2), (iV (2 : Int32)), (rV a2), (iV p5), (iV om0), (iV (1 : Int32)), (iV (0 : Int32)), (iV (0 : Int32)), (iV cc0)]) rfl k) ?_
          refine own_st (B := T11.setTop (mkF m 20 #[(rV a1), (iV p1), (iV p2), (iV (2 : Int32)), (rV a2), (iV p5), (iV om0), (iV (1 : Int32)), (iV (0 : Int32)), (iV (0 : Int32)), (iV cc0)] [(.int (0 : Int32))])) (fun t k => XS.iconst X11.here hx rfl (hb hby d3_19) k) ?_
          refine own_st (B := T11.setTop (mkF m 22 #[(rV a1), (iV p1), (iV p2), (iV (2 : Int32)), (rV a2), (iV p5), (iV om0), (iV (1 : Int32)), (iV (0 : Int32)), (iV (0 : Int32)), (iV (0 : Int32))] [])) (fun t k => XS.istore X11.here hx rfl (hb hby d3_20) rfl (l' := #[(rV a1), (iV p1), (iV p2), (iV (2 : Int32)), (rV a2), (iV p5), (iV om0), (iV (1 : Int32)), (iV (0 : Int32)), (iV (0 : Int32)), (iV (0 : Int32))]) rfl k) ?_
          refine own_cut (P := ∀ (mu18 : Nat) (T18 : State) (lo18 : List Loc) (h18 : Heap) (oo1 : Int32) (cu1 : Int32) (us1 : Int32) (cc1 : Int32) (vv1 : List Value), Stand p l e ({ frames := 0, cells := 0, slots := 0, locals := 0 } : Room) s m #[(.ref a1), (.int p1), (.int p2), (.int (2 : Int32)), (.ref a2), (.int p5)] below meth c T18 lo18 0 0 → T18.heap = h18 → Fr n0 lo18 → n0 ≤ h18.size → Keep h0 h18 [a2] → own_A Z h18 a1 .byte (xs.map Value.int) → own_A Z h18 a2 .byte vv1 → mu18 = (p1.toInt - cc1.toInt).toNat → (0 ≤ cc1.toInt ∧ cc1.toInt ≤ p1.toInt) → (us1.toInt = (cc1.toInt * 2) % 8) → (oo1.toInt = p5.toInt + ((p1.toInt * 2 + 7) / 8) + (cc1.toInt * 2) / 8) → (cu1 = own_cu 2 (2 : Int32) (fun i => xs.getD (p1.toInt.toNat + i) 0) cc1.toInt.toNat) → (own_Ow ys p5.toInt.toNat (((p1.toInt.toNat * 2 + 7) / 8) + (cc1.toInt.toNat * 2) / 8) G vv1) → own_Go p e below s (Q3b2 Z a1 a2 p1 p2 p5 xs ys G h0 n0) ({ frames := 0, cells := 0, slots := 0, locals := 0 } : Room).cells ({ frames := 0, cells := 0, slots := 0, locals := 0 } : Room).slots (T18.setTop (mkF m 22 #[(rV a1), (iV p1), (iV p2), (iV (2 : Int32)), (rV a2), (iV p5), (iV oo1), (iV (1 : Int32)), (iV cu1), (iV us1), (iV cc1)] []))) (fun J18 => ?_) ?_
          · exact J18 _ T11 _ _ om0 (0 : Int32) (0 : Int32) (0 : Int32) vm0 X11 e11 N11 z11 kp11 lf11_0 lf11_1 rfl (show 0 ≤ (0 : Int32).toInt ∧ (0 : Int32).toInt ≤ p1.toInt by have z0 : (0 : Int32).toInt = 0 := rfl; omega) (show (0 : Int32).toInt = ((0 : Int32).toInt * 2) % 8 by have z0 : (0 : Int32).toInt = 0 := rfl; omega) (show om0.toInt = p5.toInt + ((p1.toInt * 2 + 7) / 8) + ((0 : Int32).toInt * 2) / 8 by have z0 : (0 : Int32).toInt = 0 := rfl; have z2 := hE0; omega) (show (0 : Int32) = own_cu 2 (2 : Int32) (fun i => xs.getD (p1.toInt.toNat + i) 0) (0 : Int32).toInt.toNat by rfl) (show own_Ow ys p5.toInt.toNat (((p1.toInt.toNat * 2 + 7) / 8) + ((0 : Int32).toInt.toNat * 2) / 8) G vm0 by have z1 : ((0 : Int32).toInt.toNat * 2) / 8 = 0 := rfl; rw [z1]; exact hF0)
          intro mu18
          induction mu18 using Nat.strongRecOn with
          | ind mu18 ih18 =>
            intro T18 lo18 h18 oo1 cu1 us1 cc1 vv1 X18 e18 N18 z18 kp18 lf18_0 lf18_1 hmu18 hc1 hu1 hO1 hC1 hV1
            refine own_st (B := T18.setTop (mkF m 24 #[(rV a1), (iV p1), (iV p2), (iV (2 : Int32)), (rV a2), (iV p5), (iV oo1), (iV (1 : Int32)), (iV cu1), (iV us1), (iV cc1)] [(.int cc1)])) (fun t k => XS.iload X18.here hx rfl (hb hby d3_22) rfl k) ?_
            refine own_st (B := T18.setTop (mkF m 25 #[(rV a1), (iV p1), (iV p2), (iV (2 : Int32)), (rV a2), (iV p5), (iV oo1), (iV (1 : Int32)), (iV cu1), (iV us1), (iV cc1)] [(.int p1), (.int cc1)])) (fun t k => XS.iloadN X18.here hx rfl (hb hby d3_24) rfl k) ?_
            by_cases hc19 : cc1 < p1
            · refine own_st (B := T18.setTop (mkF m 28 #[(rV a1), (iV p1), (iV p2), (iV (2 : Int32)), (rV a2), (iV p5), (iV oo1), (iV (1 : Int32)), (iV cu1), (iV us1), (iV cc1)] [])) (fun t k => XS.icmpNo X18.here hx rfl (hb hby d3_25) rfl (XT.ii_ge_f hc19) k) ?_
              refine own_st (B := T18.setTop (mkF m 30 #[(rV a1), (iV p1), (iV p2), (iV (2 : Int32)), (rV a2), (iV p5), (iV oo1), (iV (1 : Int32)), (iV cu1), (iV us1), (iV cc1)] [(.int cu1)])) (fun t k => XS.iload X18.here hx rfl (hb hby d3_28) rfl k) ?_
              refine own_st (B := T18.setTop (mkF m 31 #[(rV a1), (iV p1), (iV p2), (iV (2 : Int32)), (rV a2), (iV p5), (iV oo1), (iV (1 : Int32)), (iV cu1), (iV us1), (iV cc1)] [(.int (2 : Int32)), (.int cu1)])) (fun t k => XS.iloadN X18.here hx rfl (hb hby d3_30) rfl k) ?_
              refine own_st (B := T18.setTop (mkF m 32 #[(rV a1), (iV p1), (iV p2), (iV (2 : Int32)), (rV a2), (iV p5), (iV oo1), (iV (1 : Int32)), (iV cu1), (iV us1), (iV cc1)] [(.int (cu1 <<< ((2 : Int32) &&& 31)))])) (fun t k => XS.ishl X18.here hx rfl (hb hby d3_31) rfl k) ?_
              refine own_st (B := T18.setTop (mkF m 33 #[(rV a1), (iV p1), (iV p2), (iV (2 : Int32)), (rV a2), (iV p5), (iV oo1), (iV (1 : Int32)), (iV cu1), (iV us1), (iV cc1)] [(.ref a1), (.int (cu1 <<< ((2 : Int32) &&& 31)))])) (fun t k => XS.aloadN X18.here hx rfl (hb hby d3_32) rfl rfl k) ?_
              refine own_st (B := T18.setTop (mkF m 35 #[(rV a1), (iV p1), (iV p2), (iV (2 : Int32)), (rV a2), (iV p5), (iV oo1), (iV (1 : Int32)), (iV cu1), (iV us1), (iV cc1)] [(.int (1 : Int32)), (.ref a1), (.int (cu1 <<< ((2 : Int32) &&& 31)))])) (fun t k => XS.iload X18.here hx rfl (hb hby d3_33) rfl k) ?_
              refine own_st (B := T18.setTop (mkF m 36 #[(rV a1), (iV p1), (iV p2), (iV (2 : Int32)), (rV a2), (iV p5), (iV oo1), (iV (1 : Int32)), (iV cu1), (iV us1), (iV cc1)] [(.int p1), (.int (1 : Int32)), (.ref a1), (.int (cu1 <<< ((2 : Int32) &&& 31)))])) (fun t k => XS.iloadN X18.here hx rfl (hb hby d3_35) rfl k) ?_
              refine own_st (B := T18.setTop (mkF m 37 #[(rV a1), (iV p1), (iV p2), (iV (2 : Int32)), (rV a2), (iV p5), (iV oo1), (iV (1 : Int32)), (iV cu1), (iV us1), (iV cc1)] [(.int ((1 : Int32) * p1)), (.ref a1), (.int (cu1 <<< ((2 : Int32) &&& 31)))])) (fun t k => XS.imul X18.here hx rfl (hb hby d3_36) rfl k) ?_
              refine own_st (B := T18.setTop (mkF m 39 #[(rV a1), (iV p1), (iV p2), (iV (2 : Int32)), (rV a2), (iV p5), (iV oo1), (iV (1 : Int32)), (iV cu1), (iV us1), (iV cc1)] [(.int cc1), (.int ((1 : Int32) * p1)), (.ref a1), (.int (cu1 <<< ((2 : Int32) &&& 31)))])) (fun t k => XS.iload X18.here hx rfl (hb hby d3_37) rfl k) ?_
              refine own_st (B := T18.setTop (mkF m 40 #[(rV a1), (iV p1), (iV p2), (iV (2 : Int32)), (rV a2), (iV p5), (iV oo1), (iV (1 : Int32)), (iV cu1), (iV us1), (iV cc1)] [(.int (((1 : Int32) * p1) + cc1)), (.ref a1), (.int (cu1 <<< ((2 : Int32) &&& 31)))])) (fun t k => XS.iadd X18.here hx rfl (hb hby d3_39) rfl k) ?_
              have hltA := Int32.lt_iff_toInt_lt.mp hc19
              refine own_st (B := T18.setTop (mkF m 41 #[(rV a1), (iV p1), (iV p2), (iV (2 : Int32)), (rV a2), (iV p5), (iV oo1), (iV (1 : Int32)), (iV cu1), (iV us1), (iV cc1)] [(.int (xs.getD (p1.toInt.toNat + cc1.toInt.toNat) 0)), (.int (cu1 <<< ((2 : Int32) &&& 31)))])) (fun t k => own_ldB X18 hx hZ e18 lf18_0 (g := (mkF m 40 #[(rV a1), (iV p1), (iV p2), (iV (2 : Int32)), (rV a2), (iV p5), (iV oo1), (iV (1 : Int32)), (iV cu1), (iV us1), (iV cc1)] [(.int (((1 : Int32) * p1) + cc1)), (.ref a1), (.int (cu1 <<< ((2 : Int32) &&& 31)))])) (i := (p1.toInt.toNat + cc1.toInt.toNat)) (own_r1 hw1 (by omega)) (own_getI (by omega)) rfl rfl (hb hby d3_40) k) ?_
              refine own_st (B := T18.setTop (mkF m 42 #[(rV a1), (iV p1), (iV p2), (iV (2 : Int32)), (rV a2), (iV p5), (iV oo1), (iV (1 : Int32)), (iV cu1), (iV us1), (iV cc1)] [(.int ((cu1 <<< ((2 : Int32) &&& 31)) ||| (xs.getD (p1.toInt.toNat + cc1.toInt.toNat) 0)))])) (fun t k => XS.ior X18.here hx rfl (hb hby d3_41) rfl k) ?_
              obtain ⟨v20, ev20⟩ : ∃ z : Int32, z = ((cu1 <<< ((2 : Int32) &&& 31)) ||| (xs.getD (p1.toInt.toNat + cc1.toInt.toNat) 0)) := ⟨_, rfl⟩
              rw [← ev20]
              refine own_st (B := T18.setTop (mkF m 44 #[(rV a1), (iV p1), (iV p2), (iV (2 : Int32)), (rV a2), (iV p5), (iV oo1), (iV (1 : Int32)), (iV v20), (iV us1), (iV cc1)] [])) (fun t k => XS.istore X18.here hx rfl (hb hby d3_42) rfl (l' := #[(rV a1), (iV p1), (iV p2), (iV (2 : Int32)), (rV a2), (iV p5), (iV oo1), (iV (1 : Int32)), (iV v20), (iV us1), (iV cc1)]) rfl k) ?_
              refine own_st (B := T18.setTop (mkF m 46 #[(rV a1), (iV p1), (iV p2), (iV (2 : Int32)), (rV a2), (iV p5), (iV oo1), (iV (1 : Int32)), (iV v20), (iV us1), (iV cc1)] [(.int us1)])) (fun t k => XS.iload X18.here hx rfl (hb hby d3_44) rfl k) ?_
              refine own_st (B := T18.setTop (mkF m 47 #[(rV a1), (iV p1), (iV p2), (iV (2 : Int32)), (rV a2), (iV p5), (iV oo1), (iV (1 : Int32)), (iV v20), (iV us1), (iV cc1)] [(.int (2 : Int32)), (.int us1)])) (fun t k => XS.iloadN X18.here hx rfl (hb hby d3_46) rfl k) ?_
              refine own_st (B := T18.setTop (mkF m 48 #[(rV a1), (iV p1), (iV p2), (iV (2 : Int32)), (rV a2), (iV p5), (iV oo1), (iV (1 : Int32)), (iV v20), (iV us1), (iV cc1)] [(.int (us1 + (2 : Int32)))])) (fun t k => XS.iadd X18.here hx rfl (hb hby d3_47) rfl k) ?_
              obtain ⟨v21, ev21⟩ : ∃ z : Int32, z = (us1 + (2 : Int32)) := ⟨_, rfl⟩
              rw [← ev21]
              refine own_st (B := T18.setTop (mkF m 50 #[(rV a1), (iV p1), (iV p2), (iV (2 : Int32)), (rV a2), (iV p5), (iV oo1), (iV (1 : Int32)), (iV v20), (iV v21), (iV cc1)] [])) (fun t k => XS.istore X18.here hx rfl (hb hby d3_48) rfl (l' := #[(rV a1), (iV p1), (iV p2), (iV (2 : Int32)), (rV a2), (iV p5), (iV oo1), (iV (1 : Int32)), (iV v20), (iV v21), (iV cc1)]) rfl k) ?_
              refine own_st (B := T18.setTop (mkF m 52 #[(rV a1), (iV p1), (iV p2), (iV (2 : Int32)), (rV a2), (iV p5), (iV oo1), (iV (1 : Int32)), (iV v20), (iV v21), (iV cc1)] [(.int v21)])) (fun t k => XS.iload X18.here hx rfl (hb hby d3_50) rfl k) ?_
              refine own_st (B := T18.setTop (mkF m 54 #[(rV a1), (iV p1), (iV p2), (iV (2 : Int32)), (rV a2), (iV p5), (iV oo1), (iV (1 : Int32)), (iV v20), (iV v21), (iV cc1)] [(.int (8 : Int32)), (.int v21)])) (fun t k => XS.bipush X18.here hx rfl (hb hby d3_52) k) ?_
              by_cases hc22 : v21 = (8 : Int32)
              · refine own_st (B := T18.setTop (mkF m 57 #[(rV a1), (iV p1), (iV p2), (iV (2 : Int32)), (rV a2), (iV p5), (iV oo1), (iV (1 : Int32)), (iV v20), (iV v21), (iV cc1)] [])) (fun t k => XS.icmpNo X18.here hx rfl (hb hby d3_54) rfl (XT.ii_ne_f hc22) k) ?_
                refine own_st (B := T18.setTop (mkF m 59 #[(rV a1), (iV p1), (iV p2), (iV (2 : Int32)), (rV a2), (iV p5), (iV oo1), (iV (1 : Int32)), (iV v20), (iV v21), (iV cc1)] [(.ref a2)])) (fun t k => XS.aload X18.here hx rfl (hb hby d3_57) rfl rfl k) ?_
                refine own_st (B := T18.setTop (mkF m 61 #[(rV a1), (iV p1), (iV p2), (iV (2 : Int32)), (rV a2), (iV p5), (iV oo1), (iV (1 : Int32)), (iV v20), (iV v21), (iV cc1)] [(.int oo1), (.ref a2)])) (fun t k => XS.iload X18.here hx rfl (hb hby d3_59) rfl k) ?_
                refine own_st (B := T18.setTop (mkF m 64 #[(rV a1), (iV p1), (iV p2), (iV (2 : Int32)), (rV a2), (iV p5), (iV (oo1 + (1 : Int32))), (iV (1 : Int32)), (iV v20), (iV v21), (iV cc1)] [(.int oo1), (.ref a2)])) (fun t k => XS.iinc X18.here hx rfl (hb hby d3_61) rfl (l' := #[(rV a1), (iV p1), (iV p2), (iV (2 : Int32)), (rV a2), (iV p5), (iV (oo1 + (1 : Int32))), (iV (1 : Int32)), (iV v20), (iV v21), (iV cc1)]) rfl k) ?_
                refine own_st (B := T18.setTop (mkF m 66 #[(rV a1), (iV p1), (iV p2), (iV (2 : Int32)), (rV a2), (iV p5), (iV (oo1 + (1 : Int32))), (iV (1 : Int32)), (iV v20), (iV v21), (iV cc1)] [(.int v20), (.int oo1), (.ref a2)])) (fun t k => XS.iload X18.here hx rfl (hb hby d3_64) rfl k) ?_
                refine own_st (B := T18.setTop (mkF m 67 #[(rV a1), (iV p1), (iV p2), (iV (2 : Int32)), (rV a2), (iV p5), (iV (oo1 + (1 : Int32))), (iV (1 : Int32)), (iV v20), (iV v21), (iV cc1)] [(.int (v20.toInt8.toInt32)), (.int oo1), (.ref a2)])) (fun t k => XS.i2b X18.here hx rfl (hb hby d3_66) rfl k) ?_
                have hltB := Int32.lt_iff_toInt_lt.mp hc19
                obtain ⟨T23, h23, X23, e23, W23, A23, st23⟩ := own_stB X18 hx hZ e18 lf18_1 (j := oo1) (x := (v20.toInt8.toInt32)) (i := (oo1.toInt.toNat)) (own_nat (by omega)) (by have h9 := hV1.1; omega) (g := (mkF m 67 #[(rV a1), (iV p1), (iV p2), (iV (2 : Int32)), (rV a2), (iV p5), (iV (oo1 + (1 : Int32))), (iV (1 : Int32)), (iV v20), (iV v21), (iV cc1)] [(.int (v20.toInt8.toInt32)), (.int oo1), (.ref a2)])) rfl rfl (hb hby d3_67)
                have f23_ : own_A Z h23 a2 .byte (vv1.set (oo1.toInt.toNat) (.int ((v20.toInt8.toInt32).toInt8.toInt32))) := A23
                have z24 : n0 ≤ h23.size := Nat.le_trans z18 (Keep.of_wr W23).1
                have kp24 : Keep h0 h23 [a2] := kp18.wr W23 (Or.inl (List.mem_of_getElem? (i := 0) rfl))
                have n25 := Fr.snoc X23 N18 ga
                refine own_st (B := T23.setTop (mkF m 68 #[(rV a1), (iV p1), (iV p2), (iV (2 : Int32)), (rV a2), (iV p5), (iV (oo1 + (1 : Int32))), (iV (1 : Int32)), (iV v20), (iV v21), (iV cc1)] [])) (fun t k => st23 t k) ?_
                refine own_st (B := T23.setTop (mkF m 69 #[(rV a1), (iV p1), (iV p2), (iV (2 : Int32)), (rV a2), (iV p5), (iV (oo1 + (1 : Int32))), (iV (1 : Int32)), (iV v20), (iV v21), (iV cc1)] [(.int (0 : Int32))])) (fun t k => XS.iconst X23.here hx rfl (hb hby d3_68) k) ?_
                refine own_st (B := T23.setTop (mkF m 71 #[(rV a1), (iV p1), (iV p2), (iV (2 : Int32)), (rV a2), (iV p5), (iV (oo1 + (1 : Int32))), (iV (1 : Int32)), (iV (0 : Int32)), (iV v21), (iV cc1)] [])) (fun t k => XS.istore X23.here hx rfl (hb hby d3_69) rfl (l' := #[(rV a1), (iV p1), (iV p2), (iV (2 : Int32)), (rV a2), (iV p5), (iV (oo1 + (1 : Int32))), (iV (1 : Int32)), (iV (0 : Int32)), (iV v21), (iV cc1)]) rfl k) ?_
                refine own_st (B := T23.setTop (mkF m 72 #[(rV a1), (iV p1), (iV p2), (iV (2 : Int32)), (rV a2), (iV p5), (iV (oo1 + (1 : Int32))), (iV (1 : Int32)), (iV (0 : Int32)), (iV v21), (iV cc1)] [(.int (0 : Int32))])) (fun t k => XS.iconst X23.here hx rfl (hb hby d3_71) k) ?_
                refine own_st (B := T23.setTop (mkF m 74 #[(rV a1), (iV p1), (iV p2), (iV (2 : Int32)), (rV a2), (iV p5), (iV (oo1 + (1 : Int32))), (iV (1 : Int32)), (iV (0 : Int32)), (iV (0 : Int32)), (iV cc1)] [])) (fun t k => XS.istore X23.here hx rfl (hb hby d3_72) rfl (l' := #[(rV a1), (iV p1), (iV p2), (iV (2 : Int32)), (rV a2), (iV p5), (iV (oo1 + (1 : Int32))), (iV (1 : Int32)), (iV (0 : Int32)), (iV (0 : Int32)), (iV cc1)]) rfl k) ?_
                refine own_st (B := T23.setTop (mkF m 77 #[(rV a1), (iV p1), (iV p2), (iV (2 : Int32)), (rV a2), (iV p5), (iV (oo1 + (1 : Int32))), (iV (1 : Int32)), (iV (0 : Int32)), (iV (0 : Int32)), (iV (cc1 + (1 : Int32)))] [])) (fun t k => XS.iinc X23.here hx rfl (hb hby d3_74) rfl (l' := #[(rV a1), (iV p1), (iV p2), (iV (2 : Int32)), (rV a2), (iV p5), (iV (oo1 + (1 : Int32))), (iV (1 : Int32)), (iV (0 : Int32)), (iV (0 : Int32)), (iV (cc1 + (1 : Int32)))]) rfl k) ?_
                refine own_st (B := T23.setTop (mkF m 22 #[(rV a1), (iV p1), (iV p2), (iV (2 : Int32)), (rV a2), (iV p5), (iV (oo1 + (1 : Int32))), (iV (1 : Int32)), (iV (0 : Int32)), (iV (0 : Int32)), (iV (cc1 + (1 : Int32)))] [])) (fun t k => XS.goto X23.here hx rfl (pc0 := 77) (pc' := 22) rfl (hb hby d3_77) (by decide) (by decide) k) ?_
                have hlt := Int32.lt_iff_toInt_lt.mp hc19
                have hcc := own_inc (x := cc1) (by omega)
                have hN : (cc1 + (1 : Int32)).toInt.toNat = cc1.toInt.toNat + 1 := by rw [hcc]; omega
                have hvu : v21.toInt = us1.toInt + 2 := by rw [ev21]; have g1 := c_iadd us1 (2 : Int32); have g2 := rng32 (us1 + (2 : Int32)); have g3 : ((2 : Int32)).toInt = 2 := rfl; omega
                have hv8 : v21.toInt = 8 := own_eq8.mp hc22
                have z0 : (0 : Int32).toInt = 0 := rfl
                have hoo := own_inc (x := oo1) (by omega)
                have hcv : own_cv 2 (2 : Int32) (fun i => xs.getD (p1.toInt.toNat + i) 0) cc1.toInt.toNat = v20 := by unfold own_cv; rw [← hC1]; exact ev20.symm
                have hn1 : ((p1.toInt.toNat * 2 + 7) / 8) + ((cc1 + (1 : Int32)).toInt.toNat * 2) / 8 = (((p1.toInt.toNat * 2 + 7) / 8) + (cc1.toInt.toNat * 2) / 8) + 1 := by rw [hN]; omega
                have f26 : own_A Z h23 a1 .byte (xs.map Value.int) := (lf18_0.other W23 na)
                exact ih18 _ (by rw [hcc]; omega) T23 _ _ ((oo1 + (1 : Int32))) (0 : Int32) (0 : Int32) ((cc1 + (1 : Int32))) ((vv1.set (oo1.toInt.toNat) (.int ((v20.toInt8.toInt32).toInt8.toInt32)))) X23 e23 n25 z24 kp24 f26 f23_ rfl (show 0 ≤ (cc1 + (1 : Int32)).toInt ∧ (cc1 + (1 : Int32)).toInt ≤ p1.toInt by rw [hcc]; omega) (show (0 : Int32).toInt = ((cc1 + (1 : Int32)).toInt * 2) % 8 by rw [hcc]; omega) (show (oo1 + (1 : Int32)).toInt = p5.toInt + ((p1.toInt * 2 + 7) / 8) + ((cc1 + (1 : Int32)).toInt * 2) / 8 by rw [hoo, hcc]; omega) (show (0 : Int32) = own_cu 2 (2 : Int32) (fun i => xs.getD (p1.toInt.toNat + i) 0) (cc1 + (1 : Int32)).toInt.toNat by rw [hN, own_cu, if_pos (by omega)]) (show own_Ow ys p5.toInt.toNat (((p1.toInt.toNat * 2 + 7) / 8) + ((cc1 + (1 : Int32)).toInt.toNat * 2) / 8) G (vv1.set (oo1.toInt.toNat) (.int ((v20.toInt8.toInt32).toInt8.toInt32))) by rw [hn1]; exact hV1.step (by omega) (by omega) (by rw [hg1 _ (by omega) (by omega), hcv]))
              · refine own_st (B := T18.setTop (mkF m 74 #[(rV a1), (iV p1), (iV p2), (iV (2 : Int32)), (rV a2), (iV p5), (iV oo1), (iV (1 : Int32)), (iV v20), (iV v21), (iV cc1)] [])) (fun t k => XS.icmpYes X18.here hx rfl (pc0 := 54) (pc' := 74) rfl (hb hby d3_54) rfl (XT.ii_ne_t hc22) (by decide) (by decide) k) ?_
                refine own_st (B := T18.setTop (mkF m 77 #[(rV a1), (iV p1), (iV p2), (iV (2 : Int32)), (rV a2), (iV p5), (iV oo1), (iV (1 : Int32)), (iV v20), (iV v21), (iV (cc1 + (1 : Int32)))] [])) (fun t k => XS.iinc X18.here hx rfl (hb hby d3_74) rfl (l' := #[(rV a1), (iV p1), (iV p2), (iV (2 : Int32)), (rV a2), (iV p5), (iV oo1), (iV (1 : Int32)), (iV v20), (iV v21), (iV (cc1 + (1 : Int32)))]) rfl k) ?_
                refine own_st (B := T18.setTop (mkF m 22 #[(rV a1), (iV p1), (iV p2), (iV (2 : Int32)), (rV a2), (iV p5), (iV oo1), (iV (1 : Int32)), (iV v20), (iV v21), (iV (cc1 + (1 : Int32)))] [])) (fun t k => XS.goto X18.here hx rfl (pc0 := 77) (pc' := 22) rfl (hb hby d3_77) (by decide) (by decide) k) ?_
                have hlt := Int32.lt_iff_toInt_lt.mp hc19
                have hcc := own_inc (x := cc1) (by omega)
                have hN : (cc1 + (1 : Int32)).toInt.toNat = cc1.toInt.toNat + 1 := by rw [hcc]; omega
                have hvu : v21.toInt = us1.toInt + 2 := by rw [ev21]; have g1 := c_iadd us1 (2 : Int32); have g2 := rng32 (us1 + (2 : Int32)); have g3 : ((2 : Int32)).toInt = 2 := rfl; omega
                have hv8 : ¬ (v21.toInt = 8) := fun q => hc22 (own_eq8.mpr q)
                have z0 : (0 : Int32).toInt = 0 := rfl
                have hn1 : ((p1.toInt.toNat * 2 + 7) / 8) + ((cc1 + (1 : Int32)).toInt.toNat * 2) / 8 = ((p1.toInt.toNat * 2 + 7) / 8) + (cc1.toInt.toNat * 2) / 8 := by rw [hN]; omega
                exact ih18 _ (by rw [hcc]; omega) T18 _ _ oo1 v20 v21 ((cc1 + (1 : Int32))) vv1 X18 e18 N18 z18 kp18 lf18_0 lf18_1 rfl (show 0 ≤ (cc1 + (1 : Int32)).toInt ∧ (cc1 + (1 : Int32)).toInt ≤ p1.toInt by rw [hcc]; omega) (show v21.toInt = ((cc1 + (1 : Int32)).toInt * 2) % 8 by rw [hcc]; omega) (show oo1.toInt = p5.toInt + ((p1.toInt * 2 + 7) / 8) + ((cc1 + (1 : Int32)).toInt * 2) / 8 by rw [hcc]; omega) (show v20 = own_cu 2 (2 : Int32) (fun i => xs.getD (p1.toInt.toNat + i) 0) (cc1 + (1 : Int32)).toInt.toNat by rw [hN, own_cu, if_neg (by omega), ← hC1]; exact ev20) (show own_Ow ys p5.toInt.toNat (((p1.toInt.toNat * 2 + 7) / 8) + ((cc1 + (1 : Int32)).toInt.toNat * 2) / 8) G vv1 by rw [hn1]; exact hV1)
            · refine own_st (B := T18.setTop (mkF m 80 #[(rV a1), (iV p1), (iV p2), (iV (2 : Int32)), (rV a2), (iV p5), (iV oo1), (iV (1 : Int32)), (iV cu1), (iV us1), (iV cc1)] [])) (fun t k => XS.icmpYes X18.here hx rfl (pc0 := 25) (pc' := 80) rfl (hb hby d3_25) rfl (XT.ii_ge_t hc19) (by decide) (by decide) k) ?_
              have hcw : cc1.toInt = p1.toInt := by have h9 : ¬ _ := fun q => hc19 (Int32.lt_iff_toInt_lt.mpr q); omega
              have hcn : cc1.toInt.toNat = p1.toInt.toNat := by rw [hcw]
              refine own_cut (P := ∀ (T27 : State) (lo27 : List Loc) (h27 : Heap) (om1 : Int32) (vm1 : List Value), Stand p l e ({ frames := 0, cells := 0, slots := 0, locals := 0 } : Room) s m #[(.ref a1), (.int p1), (.int p2), (.int (2 : Int32)), (.ref a2), (.int p5)] below meth c T27 lo27 0 0 → T27.heap = h27 → Fr n0 lo27 → n0 ≤ h27.size → Keep h0 h27 [a2] → own_A Z h27 a1 .byte (xs.map Value.int) → own_A Z h27 a2 .byte vm1 → (om1.toInt = p5.toInt + ((p1.toInt * 2 + 7) / 8) + ((p1.toInt * 2 + 7) / 8)) → (own_Ow ys p5.toInt.toNat (((p1.toInt.toNat * 2 + 7) / 8) + ((p1.toInt.toNat * 2 + 7) / 8)) G vm1) → own_Go p e below s (Q3b2 Z a1 a2 p1 p2 p5 xs ys G h0 n0) ({ frames := 0, cells := 0, slots := 0, locals := 0 } : Room).cells ({ frames := 0, cells := 0, slots := 0, locals := 0 } : Room).slots (T27.setTop (mkF m 102 #[(rV a1), (iV p1), (iV p2), (iV (2 : Int32)), (rV a2), (iV p5), (iV om1), (iV (1 : Int32)), (iV cu1), (iV us1), (iV cc1)] []))) (fun J27 => ?_) ?_
              · refine own_st (B := T18.setTop (mkF m 82 #[(rV a1), (iV p1), (iV p2), (iV (2 : Int32)), (rV a2), (iV p5), (iV oo1), (iV (1 : Int32)), (iV cu1), (iV us1), (iV cc1)] [(.int us1)])) (fun t k => XS.iload X18.here hx rfl (hb hby d3_80) rfl k) ?_
                by_cases hc28 : (0 : Int32) < us1
                · refine own_st (B := T18.setTop (mkF m 85 #[(rV a1), (iV p1), (iV p2), (iV (2 : Int32)), (rV a2), (iV p5), (iV oo1), (iV (1 : Int32)), (iV cu1), (iV us1), (iV cc1)] [])) (fun t k => XS.ifNo X18.here hx rfl (hb hby d3_82) rfl (XT.i0_le_f hc28) k) ?_
                  refine own_st (B := T18.setTop (mkF m 87 #[(rV a1), (iV p1), (iV p2), (iV (2 : Int32)), (rV a2), (iV p5), (iV oo1), (iV (1 : Int32)), (iV cu1), (iV us1), (iV cc1)] [(.ref a2)])) (fun t k => XS.aload X18.here hx rfl (hb hby d3_85) rfl rfl k) ?_
                  refine own_st (B := T18.setTop (mkF m 89 #[(rV a1), (iV p1), (iV p2), (iV (2 : Int32)), (rV a2), (iV p5), (iV oo1), (iV (1 : Int32)), (iV cu1), (iV us1), (iV cc1)] [(.int oo1), (.ref a2)])) (fun t k => XS.iload X18.here hx rfl (hb hby d3_87) rfl k) ?_
                  refine own_st (B := T18.setTop (mkF m 92 #[(rV a1), (iV p1), (iV p2), (iV (2 : Int32)), (rV a2), (iV p5), (iV (oo1 + (1 : Int32))), (iV (1 : Int32)), (iV cu1), (iV us1), (iV cc1)] [(.int oo1), (.ref a2)])) (fun t k => XS.iinc X18.here hx rfl (hb hby d3_89) rfl (l' := #[(rV a1), (iV p1), (iV p2), (iV (2 : Int32)), (rV a2), (iV p5), (iV (oo1 + (1 : Int32))), (iV (1 : Int32)), (iV cu1), (iV us1), (iV cc1)]) rfl k) ?_
                  refine own_st (B := T18.setTop (mkF m 94 #[(rV a1), (iV p1), (iV p2), (iV (2 : Int32)), (rV a2), (iV p5), (iV (oo1 + (1 : Int32))), (iV (1 : Int32)), (iV cu1), (iV us1), (iV cc1)] [(.int cu1), (.int oo1), (.ref a2)])) (fun t k => XS.iload X18.here hx rfl (hb hby d3_92) rfl k) ?_
                  refine own_st (B := T18.setTop (mkF m 96 #[(rV a1), (iV p1), (iV p2), (iV (2 : Int32)), (rV a2), (iV p5), (iV (oo1 + (1 : Int32))), (iV (1 : Int32)), (iV cu1), (iV us1), (iV cc1)] [(.int (8 : Int32)), (.int cu1), (.int oo1), (.ref a2)])) (fun t k => XS.bipush X18.here hx rfl (hb hby d3_94) k) ?_
                  refine own_st (B := T18.setTop (mkF m 98 #[(rV a1), (iV p1), (iV p2), (iV (2 : Int32)), (rV a2), (iV p5), (iV (oo1 + (1 : Int32))), (iV (1 : Int32)), (iV cu1), (iV us1), (iV cc1)] [(.int us1), (.int (8 : Int32)), (.int cu1), (.int oo1), (.ref a2)])) (fun t k => XS.iload X18.here hx rfl (hb hby d3_96) rfl k) ?_
                  refine own_st (B := T18.setTop (mkF m 99 #[(rV a1), (iV p1), (iV p2), (iV (2 : Int32)), (rV a2), (iV p5), (iV (oo1 + (1 : Int32))), (iV (1 : Int32)), (iV cu1), (iV us1), (iV cc1)] [(.int ((8 : Int32) - us1)), (.int cu1), (.int oo1), (.ref a2)])) (fun t k => XS.isub X18.here hx rfl (hb hby d3_98) rfl k) ?_
                  refine own_st (B := T18.setTop (mkF m 100 #[(rV a1), (iV p1), (iV p2), (iV (2 : Int32)), (rV a2), (iV p5), (iV (oo1 + (1 : Int32))), (iV (1 : Int32)), (iV cu1), (iV us1), (iV cc1)] [(.int (cu1 <<< (((8 : Int32) - us1) &&& 31))), (.int oo1), (.ref a2)])) (fun t k => XS.ishl X18.here hx rfl (hb hby d3_99) rfl k) ?_
                  refine own_st (B := T18.setTop (mkF m 101 #[(rV a1), (iV p1), (iV p2), (iV (2 : Int32)), (rV a2), (iV p5), (iV (oo1 + (1 : Int32))), (iV (1 : Int32)), (iV cu1), (iV us1), (iV cc1)] [(.int ((cu1 <<< (((8 : Int32) - us1) &&& 31)).toInt8.toInt32)), (.int oo1), (.ref a2)])) (fun t k => XS.i2b X18.here hx rfl (hb hby d3_100) rfl k) ?_
                  obtain ⟨T29, h29, X29, e29, W29, A29, st29⟩ := own_stB X18 hx hZ e18 lf18_1 (j := oo1) (x := ((cu1 <<< (((8 : Int32) - us1) &&& 31)).toInt8.toInt32)) (i := (oo1.toInt.toNat)) (own_nat (by omega)) (by have h9 := hV1.1; omega) (g := (mkF m 101 #[(rV a1), (iV p1), (iV p2), (iV (2 : Int32)), (rV a2), (iV p5), (iV (oo1 + (1 : Int32))), (iV (1 : Int32)), (iV cu1), (iV us1), (iV cc1)] [(.int ((cu1 <<< (((8 : Int32) - us1) &&& 31)).toInt8.toInt32)), (.int oo1), (.ref a2)])) rfl rfl (hb hby d3_101)
                  have f29_ : own_A Z h29 a2 .byte (vv1.set (oo1.toInt.toNat) (.int (((cu1 <<< (((8 : Int32) - us1) &&& 31)).toInt8.toInt32).toInt8.toInt32))) := A29
                  have z30 : n0 ≤ h29.size := Nat.le_trans z18 (Keep.of_wr W29).1
                  have kp30 : Keep h0 h29 [a2] := kp18.wr W29 (Or.inl (List.mem_of_getElem? (i := 0) rfl))
                  have n31 := Fr.snoc X29 N18 ga
                  refine own_st (B := T29.setTop (mkF m 102 #[(rV a1), (iV p1), (iV p2), (iV (2 : Int32)), (rV a2), (iV p5), (iV (oo1 + (1 : Int32))), (iV (1 : Int32)), (iV cu1), (iV us1), (iV cc1)] [])) (fun t k => st29 t k) ?_
                  have f32 : own_A Z h29 a1 .byte (xs.map Value.int) := (lf18_0.other W29 na)
                  have z0 : (0 : Int32).toInt = 0 := rfl
                  have hup := Int32.lt_iff_toInt_lt.mp hc28
                  have hoo := own_inc (x := oo1) (by omega)
                  have hn1 : ((p1.toInt.toNat * 2 + 7) / 8) + ((p1.toInt.toNat * 2 + 7) / 8) = (((p1.toInt.toNat * 2 + 7) / 8) + (cc1.toInt.toNat * 2) / 8) + 1 := by rw [hcn]; omega
                  exact J27 T29 _ _ ((oo1 + (1 : Int32))) ((vv1.set (oo1.toInt.toNat) (.int (((cu1 <<< (((8 : Int32) - us1) &&& 31)).toInt8.toInt32).toInt8.toInt32)))) X29 e29 n31 z30 kp30 f32 f29_ (show (oo1 + (1 : Int32)).toInt = p5.toInt + ((p1.toInt * 2 + 7) / 8) + ((p1.toInt * 2 + 7) / 8) by rw [hoo]; omega) (show own_Ow ys p5.toInt.toNat (((p1.toInt.toNat * 2 + 7) / 8) + ((p1.toInt.toNat * 2 + 7) / 8)) G (vv1.set (oo1.toInt.toNat) (.int (((cu1 <<< (((8 : Int32) - us1) &&& 31)).toInt8.toInt32).toInt8.toInt32))) by rw [hn1]; exact hV1.step (by omega) (by omega) (by rw [hC1, hcn]; exact hp1 us1 (by rw [← hcw]; exact hu1) (by omega)))
                · refine own_st (B := T18.setTop (mkF m 102 #[(rV a1), (iV p1), (iV p2), (iV (2 : Int32)), (rV a2), (iV p5), (iV oo1), (iV (1 : Int32)), (iV cu1), (iV us1), (iV cc1)] [])) (fun t k => XS.ifYes X18.here hx rfl (pc0 := 82) (pc' := 102) rfl (hb hby d3_82) rfl (XT.i0_le_t hc28) (by decide) (by decide) k) ?_
                  have z0 : (0 : Int32).toInt = 0 := rfl
                  have hup : ¬ (0 < us1.toInt) := fun q => hc28 (Int32.lt_iff_toInt_lt.mpr (by rw [z0]; exact q))
                  have hn1 : ((p1.toInt.toNat * 2 + 7) / 8) + ((p1.toInt.toNat * 2 + 7) / 8) = ((p1.toInt.toNat * 2 + 7) / 8) + (cc1.toInt.toNat * 2) / 8 := by rw [hcn]; omega
                  exact J27 T18 _ _ oo1 vv1 X18 e18 N18 z18 kp18 lf18_0 lf18_1 (show oo1.toInt = p5.toInt + ((p1.toInt * 2 + 7) / 8) + ((p1.toInt * 2 + 7) / 8) by omega) (show own_Ow ys p5.toInt.toNat (((p1.toInt.toNat * 2 + 7) / 8) + ((p1.toInt.toNat * 2 + 7) / 8)) G vv1 by rw [hn1]; exact hV1)
              intro T27 lo27 h27 om1 vm1 X27 e27 N27 z27 kp27 lf27_0 lf27_1 hE1 hF1
              refine own_st (B := T27.setTop (mkF m 105 #[(rV a1), (iV p1), (iV p2), (iV (2 : Int32)), (rV a2), (iV p5), (iV om1), (iV ((1 : Int32) + (1 : Int32))), (iV cu1), (iV us1), (iV cc1)] [])) (fun t k => XS.iinc X27.here hx rfl (hb hby d3_102) rfl (l' := #[(rV a1), (iV p1), (iV p2), (iV (2 : Int32)), (rV a2), (iV p5), (iV om1), (iV ((1 : Int32) + (1 : Int32))), (iV cu1), (iV us1), (iV cc1)]) rfl k) ?_
              refine own_st (B := T27.setTop (mkF m 7 #[(rV a1), (iV p1), (iV p2), (iV (2 : Int32)), (rV a2), (iV p5), (iV om1), (iV ((1 : Int32) + (1 : Int32))), (iV cu1), (iV us1), (iV cc1)] [])) (fun t k => XS.goto X27.here hx rfl (pc0 := 105) (pc' := 7) rfl (hb hby d3_105) (by decide) (by decide) k) ?_
              rw [show ((1 : Int32) + (1 : Int32)) = (2 : Int32) from by decide]
              refine own_st (B := T27.setTop (mkF m 9 #[(rV a1), (iV p1), (iV p2), (iV (2 : Int32)), (rV a2), (iV p5), (iV om1), (iV (2 : Int32)), (iV cu1), (iV us1), (iV cc1)] [(.int (2 : Int32))])) (fun t k => XS.iload X27.here hx rfl (hb hby d3_7) rfl k) ?_
              refine own_st (B := T27.setTop (mkF m 10 #[(rV a1), (iV p1), (iV p2), (iV (2 : Int32)), (rV a2), (iV p5), (iV om1), (iV (2 : Int32)), (iV cu1), (iV us1), (iV cc1)] [(.int p2), (.int (2 : Int32))])) (fun t k => XS.iloadN X27.here hx rfl (hb hby d3_9) rfl k) ?_
              have hc33 : ¬ ((2 : Int32) < p2) := by
                intro q; have h9 := Int32.lt_iff_toInt_lt.mp q; have z2 : (2 : Int32).toInt = 2 := rfl; omega
              refine own_st (B := T27.setTop (mkF m 108 #[(rV a1), (iV p1), (iV p2), (iV (2 : Int32)), (rV a2), (iV p5), (iV om1), (iV (2 : Int32)), (iV cu1), (iV us1), (iV cc1)] [])) (fun t k => XS.icmpYes X27.here hx rfl (pc0 := 10) (pc' := 108) rfl (hb hby d3_10) rfl (XT.ii_ge_t hc33) (by decide) (by decide) k) ?_
              refine own_st (B := T27.setTop (mkF m 110 #[(rV a1), (iV p1), (iV p2), (iV (2 : Int32)), (rV a2), (iV p5), (iV om1), (iV (2 : Int32)), (iV cu1), (iV us1), (iV cc1)] [(.int om1)])) (fun t k => XS.iload X27.here hx rfl (hb hby d3_108) rfl k) ?_
              refine own_retI X27 hx hlk Bd.returns (hb hby d3_110) (by decide) (by decide) ?_
              show Q3b2 Z a1 a2 p1 p2 p5 xs ys G h0 n0 _ T27.heap _
              rw [e27]
              exact ⟨om1, vm1, rfl, N27, kp27, lf27_1, (by have z0 : (0 : Int32).toInt = 0 := rfl; have z1 : (1 : Int32).toInt = 1 := rfl; have h8 := Int32.lt_iff_toInt_lt.mp hc17; have hz : p2.toInt = 2 := (by omega); rw [hz]; have h7 := hE1; omega), (by rw [show (om1.toInt - p5.toInt).toNat = ((p1.toInt.toNat * 2 + 7) / 8) + ((p1.toInt.toNat * 2 + 7) / 8) from by have h7 := hE1; omega]; exact hF1)⟩
        · refine own_st (B := T11.setTop (mkF m 108 #[(rV a1), (iV p1), (iV p2), (iV (2 : Int32)), (rV a2), (iV p5), (iV om0), (iV (1 : Int32)), (iV cu0), (iV us0), (iV cc0)] [])) (fun t k => XS.icmpYes X11.here hx rfl (pc0 := 10) (pc' := 108) rfl (hb hby d3_10) rfl (XT.ii_ge_t hc17) (by decide) (by decide) k) ?_
          refine own_st (B := T11.setTop (mkF m 110 #[(rV a1), (iV p1), (iV p2), (iV (2 : Int32)), (rV a2), (iV p5), (iV om0), (iV (1 : Int32)), (iV cu0), (iV us0), (iV cc0)] [(.int om0)])) (fun t k => XS.iload X11.here hx rfl (hb hby d3_108) rfl k) ?_
          refine own_retI X11 hx hlk Bd.returns (hb hby d3_110) (by decide) (by decide) ?_
          show Q3b2 Z a1 a2 p1 p2 p5 xs ys G h0 n0 _ T11.heap _
          rw [e11]
          exact ⟨om0, vm0, rfl, N11, kp11, lf11_1, (by have z0 : (0 : Int32).toInt = 0 := rfl; have z1 : (1 : Int32).toInt = 1 := rfl; have h8 := Int32.lt_iff_toInt_lt.mp hc1; have h9 : ¬ _ := fun q => hc17 (Int32.lt_iff_toInt_lt.mpr q); have hz : p2.toInt = 1 := (by omega); rw [hz]; have h7 := hE0; omega), (by rw [show (om0.toInt - p5.toInt).toNat = ((p1.toInt.toNat * 2 + 7) / 8) from by have h7 := hE0; omega]; exact hF0)⟩
  · refine own_st (B := s₁.setTop (mkF m 108 #[(rV a1), (iV p1), (iV p2), (iV (2 : Int32)), (rV a2), (iV p5), (iV p5), (iV (0 : Int32)), uV, uV, uV] [])) (fun t k => XS.icmpYes X0.here hx rfl (pc0 := 10) (pc' := 108) rfl (hb hby d3_10) rfl (XT.ii_ge_t hc1) (by decide) (by decide) k) ?_
    refine own_st (B := s₁.setTop (mkF m 110 #[(rV a1), (iV p1), (iV p2), (iV (2 : Int32)), (rV a2), (iV p5), (iV p5), (iV (0 : Int32)), uV, uV, uV] [(.int p5)])) (fun t k => XS.iload X0.here hx rfl (hb hby d3_108) rfl k) ?_
    refine own_retI X0 hx hlk Bd.returns (hb hby d3_110) (by decide) (by decide) ?_
    show Q3b2 Z a1 a2 p1 p2 p5 xs ys G h0 n0 _ s₁.heap _
    rw [e0]
    exact ⟨p5, (ys.map Value.int), rfl, N0, (Keep.refl h0 [a2]), F1, (by have z0 : (0 : Int32).toInt = 0 := rfl; have z1 : (1 : Int32).toInt = 1 := rfl; have h9 : ¬ _ := fun q => hc1 (Int32.lt_iff_toInt_lt.mpr q); have hz : p2.toInt = 0 := (by omega); rw [hz]; omega), (by rw [show (p5.toInt - p5.toInt).toNat = 0 from by omega]; exact own_Ow.start hly)⟩
theorem own_rb2 {w : Int32} (hw : 0 ≤ w.toInt ∧ w.toInt ≤ 8) : (((w * (2 : Int32)) + (7 : Int32)) / (8 : Int32)).toInt = (w.toInt * (2 : Int32).toInt + 7) / 8 := by
  have h1 := c_imul w (2 : Int32)
  have z : ((2 : Int32)).toInt = 2 := rfl
  rw [z] at h1 ⊢
  have h2 := rng32 (w * (2 : Int32))
  have h3 := c_iadd (w * (2 : Int32)) 7
  have h4 := rng32 ((w * (2 : Int32)) + (7 : Int32))
  have z7 : (7 : Int32).toInt = 7 := rfl
  have h5 := (c_idiv ((w * (2 : Int32)) + (7 : Int32)) 8 8 rfl (by decide)).1 (by omega)
  rw [h5]
  omega
theorem own_ib4 (q : Int64) (i : Int32) : (((own_idx q (4 : Int32) i).toInt8.toInt32).toInt8.toInt32) = own_idx q (4 : Int32) i := by
  have h := own_sml (own_idx_r q i (B := (4 : Int32)) (by decide))
  rw [h, h]
theorem own_c4_1_0_0 (q : Int64) : own_pin q (1 : Int32) (4 : Int32) (0 : Int32) = ((((((((((own_idx q (4 : Int32) (0 : Int32)) <<< ((4 : Int32) &&& 31)) ||| (0 : Int32)) ||| (0 : Int32)) ||| (0 : Int32)) ||| (0 : Int32)) ||| (0 : Int32)) ||| (0 : Int32)) ||| (0 : Int32)).toInt8.toInt32) := by
  have t0 : own_term q (1 : Int32) (0 : Int32) (0 : Int32) (2 : Int32) (4 : Int32) (0 : Int32) = ((own_idx q (4 : Int32) (0 : Int32)) <<< ((4 : Int32) &&& 31)) := by
    rw [own_tm1 (by decide) (by decide), show (((0 : Int32) * (1 : Int32)) + (((0 : Int32) * (2 : Int32)) + (0 : Int32))) = (0 : Int32) from by decide, show ((8 : Int32) - ((4 : Int32) * ((0 : Int32) + (1 : Int32)))) = (4 : Int32) from by decide]
  have t1 : own_term q (1 : Int32) (0 : Int32) (0 : Int32) (2 : Int32) (4 : Int32) (1 : Int32) = (0 : Int32) := own_tm2 (by decide) (by decide)
  have t2 : own_term q (1 : Int32) (0 : Int32) (0 : Int32) (2 : Int32) (4 : Int32) (2 : Int32) = (0 : Int32) := own_tm0 (by decide)
  have t3 : own_term q (1 : Int32) (0 : Int32) (0 : Int32) (2 : Int32) (4 : Int32) (3 : Int32) = (0 : Int32) := own_tm0 (by decide)
  have t4 : own_term q (1 : Int32) (0 : Int32) (0 : Int32) (2 : Int32) (4 : Int32) (4 : Int32) = (0 : Int32) := own_tm0 (by decide)
  have t5 : own_term q (1 : Int32) (0 : Int32) (0 : Int32) (2 : Int32) (4 : Int32) (5 : Int32) = (0 : Int32) := own_tm0 (by decide)
  have t6 : own_term q (1 : Int32) (0 : Int32) (0 : Int32) (2 : Int32) (4 : Int32) (6 : Int32) = (0 : Int32) := own_tm0 (by decide)
  have t7 : own_term q (1 : Int32) (0 : Int32) (0 : Int32) (2 : Int32) (4 : Int32) (7 : Int32) = (0 : Int32) := own_tm0 (by decide)
  unfold own_pin
  rw [show ((0 : Int32) / ((((1 : Int32) * (4 : Int32)) + (7 : Int32)) / (8 : Int32))) = (0 : Int32) from by decide, show ((0 : Int32) % ((((1 : Int32) * (4 : Int32)) + (7 : Int32)) / (8 : Int32))) = (0 : Int32) from by decide, show ((8 : Int32) / (4 : Int32)) = (2 : Int32) from by decide, t0, t1, t2, t3, t4, t5, t6, t7]
theorem own_c4_1_1_0 (q : Int64) : own_pin q (1 : Int32) (4 : Int32) (1 : Int32) = ((((((((((own_idx q (4 : Int32) (1 : Int32)) <<< ((4 : Int32) &&& 31)) ||| (0 : Int32)) ||| (0 : Int32)) ||| (0 : Int32)) ||| (0 : Int32)) ||| (0 : Int32)) ||| (0 : Int32)) ||| (0 : Int32)).toInt8.toInt32) := by
  have t0 : own_term q (1 : Int32) (1 : Int32) (0 : Int32) (2 : Int32) (4 : Int32) (0 : Int32) = ((own_idx q (4 : Int32) (1 : Int32)) <<< ((4 : Int32) &&& 31)) := by
    rw [own_tm1 (by decide) (by decide), show (((1 : Int32) * (1 : Int32)) + (((0 : Int32) * (2 : Int32)) + (0 : Int32))) = (1 : Int32) from by decide, show ((8 : Int32) - ((4 : Int32) * ((0 : Int32) + (1 : Int32)))) = (4 : Int32) from by decide]
  have t1 : own_term q (1 : Int32) (1 : Int32) (0 : Int32) (2 : Int32) (4 : Int32) (1 : Int32) = (0 : Int32) := own_tm2 (by decide) (by decide)
  have t2 : own_term q (1 : Int32) (1 : Int32) (0 : Int32) (2 : Int32) (4 : Int32) (2 : Int32) = (0 : Int32) := own_tm0 (by decide)
  have t3 : own_term q (1 : Int32) (1 : Int32) (0 : Int32) (2 : Int32) (4 : Int32) (3 : Int32) = (0 : Int32) := own_tm0 (by decide)
  have t4 : own_term q (1 : Int32) (1 : Int32) (0 : Int32) (2 : Int32) (4 : Int32) (4 : Int32) = (0 : Int32) := own_tm0 (by decide)
  have t5 : own_term q (1 : Int32) (1 : Int32) (0 : Int32) (2 : Int32) (4 : Int32) (5 : Int32) = (0 : Int32) := own_tm0 (by decide)
  have t6 : own_term q (1 : Int32) (1 : Int32) (0 : Int32) (2 : Int32) (4 : Int32) (6 : Int32) = (0 : Int32) := own_tm0 (by decide)
  have t7 : own_term q (1 : Int32) (1 : Int32) (0 : Int32) (2 : Int32) (4 : Int32) (7 : Int32) = (0 : Int32) := own_tm0 (by decide)
  unfold own_pin
  rw [show ((1 : Int32) / ((((1 : Int32) * (4 : Int32)) + (7 : Int32)) / (8 : Int32))) = (1 : Int32) from by decide, show ((1 : Int32) % ((((1 : Int32) * (4 : Int32)) + (7 : Int32)) / (8 : Int32))) = (0 : Int32) from by decide, show ((8 : Int32) / (4 : Int32)) = (2 : Int32) from by decide, t0, t1, t2, t3, t4, t5, t6, t7]
theorem own_c4_2_0_0 (q : Int64) : own_pin q (2 : Int32) (4 : Int32) (0 : Int32) = ((((((((((own_idx q (4 : Int32) (0 : Int32)) <<< ((4 : Int32) &&& 31)) ||| ((own_idx q (4 : Int32) (1 : Int32)) <<< ((0 : Int32) &&& 31))) ||| (0 : Int32)) ||| (0 : Int32)) ||| (0 : Int32)) ||| (0 : Int32)) ||| (0 : Int32)) ||| (0 : Int32)).toInt8.toInt32) := by
  have t0 : own_term q (2 : Int32) (0 : Int32) (0 : Int32) (2 : Int32) (4 : Int32) (0 : Int32) = ((own_idx q (4 : Int32) (0 : Int32)) <<< ((4 : Int32) &&& 31)) := by
    rw [own_tm1 (by decide) (by decide), show (((0 : Int32) * (2 : Int32)) + (((0 : Int32) * (2 : Int32)) + (0 : Int32))) = (0 : Int32) from by decide, show ((8 : Int32) - ((4 : Int32) * ((0 : Int32) + (1 : Int32)))) = (4 : Int32) from by decide]
  have t1 : own_term q (2 : Int32) (0 : Int32) (0 : Int32) (2 : Int32) (4 : Int32) (1 : Int32) = ((own_idx q (4 : Int32) (1 : Int32)) <<< ((0 : Int32) &&& 31)) := by
    rw [own_tm1 (by decide) (by decide), show (((0 : Int32) * (2 : Int32)) + (((0 : Int32) * (2 : Int32)) + (1 : Int32))) = (1 : Int32) from by decide, show ((8 : Int32) - ((4 : Int32) * ((1 : Int32) + (1 : Int32)))) = (0 : Int32) from by decide]
  have t2 : own_term q (2 : Int32) (0 : Int32) (0 : Int32) (2 : Int32) (4 : Int32) (2 : Int32) = (0 : Int32) := own_tm0 (by decide)
  have t3 : own_term q (2 : Int32) (0 : Int32) (0 : Int32) (2 : Int32) (4 : Int32) (3 : Int32) = (0 : Int32) := own_tm0 (by decide)
  have t4 : own_term q (2 : Int32) (0 : Int32) (0 : Int32) (2 : Int32) (4 : Int32) (4 : Int32) = (0 : Int32) := own_tm0 (by decide)
  have t5 : own_term q (2 : Int32) (0 : Int32) (0 : Int32) (2 : Int32) (4 : Int32) (5 : Int32) = (0 : Int32) := own_tm0 (by decide)
  have t6 : own_term q (2 : Int32) (0 : Int32) (0 : Int32) (2 : Int32) (4 : Int32) (6 : Int32) = (0 : Int32) := own_tm0 (by decide)
  have t7 : own_term q (2 : Int32) (0 : Int32) (0 : Int32) (2 : Int32) (4 : Int32) (7 : Int32) = (0 : Int32) := own_tm0 (by decide)
  unfold own_pin
  rw [show ((0 : Int32) / ((((2 : Int32) * (4 : Int32)) + (7 : Int32)) / (8 : Int32))) = (0 : Int32) from by decide, show ((0 : Int32) % ((((2 : Int32) * (4 : Int32)) + (7 : Int32)) / (8 : Int32))) = (0 : Int32) from by decide, show ((8 : Int32) / (4 : Int32)) = (2 : Int32) from by decide, t0, t1, t2, t3, t4, t5, t6, t7]
theorem own_c4_2_1_0 (q : Int64) : own_pin q (2 : Int32) (4 : Int32) (1 : Int32) = ((((((((((own_idx q (4 : Int32) (2 : Int32)) <<< ((4 : Int32) &&& 31)) ||| ((own_idx q (4 : Int32) (3 : Int32)) <<< ((0 : Int32) &&& 31))) ||| (0 : Int32)) ||| (0 : Int32)) ||| (0 : Int32)) ||| (0 : Int32)) ||| (0 : Int32)) ||| (0 : Int32)).toInt8.toInt32) := by
  have t0 : own_term q (2 : Int32) (1 : Int32) (0 : Int32) (2 : Int32) (4 : Int32) (0 : Int32) = ((own_idx q (4 : Int32) (2 : Int32)) <<< ((4 : Int32) &&& 31)) := by
    rw [own_tm1 (by decide) (by decide), show (((1 : Int32) * (2 : Int32)) + (((0 : Int32) * (2 : Int32)) + (0 : Int32))) = (2 : Int32) from by decide, show ((8 : Int32) - ((4 : Int32) * ((0 : Int32) + (1 : Int32)))) = (4 : Int32) from by decide]
  have t1 : own_term q (2 : Int32) (1 : Int32) (0 : Int32) (2 : Int32) (4 : Int32) (1 : Int32) = ((own_idx q (4 : Int32) (3 : Int32)) <<< ((0 : Int32) &&& 31)) := by
    rw [own_tm1 (by decide) (by decide), show (((1 : Int32) * (2 : Int32)) + (((0 : Int32) * (2 : Int32)) + (1 : Int32))) = (3 : Int32) from by decide, show ((8 : Int32) - ((4 : Int32) * ((1 : Int32) + (1 : Int32)))) = (0 : Int32) from by decide]
  have t2 : own_term q (2 : Int32) (1 : Int32) (0 : Int32) (2 : Int32) (4 : Int32) (2 : Int32) = (0 : Int32) := own_tm0 (by decide)
  have t3 : own_term q (2 : Int32) (1 : Int32) (0 : Int32) (2 : Int32) (4 : Int32) (3 : Int32) = (0 : Int32) := own_tm0 (by decide)
  have t4 : own_term q (2 : Int32) (1 : Int32) (0 : Int32) (2 : Int32) (4 : Int32) (4 : Int32) = (0 : Int32) := own_tm0 (by decide)
  have t5 : own_term q (2 : Int32) (1 : Int32) (0 : Int32) (2 : Int32) (4 : Int32) (5 : Int32) = (0 : Int32) := own_tm0 (by decide)
  have t6 : own_term q (2 : Int32) (1 : Int32) (0 : Int32) (2 : Int32) (4 : Int32) (6 : Int32) = (0 : Int32) := own_tm0 (by decide)
  have t7 : own_term q (2 : Int32) (1 : Int32) (0 : Int32) (2 : Int32) (4 : Int32) (7 : Int32) = (0 : Int32) := own_tm0 (by decide)
  unfold own_pin
  rw [show ((1 : Int32) / ((((2 : Int32) * (4 : Int32)) + (7 : Int32)) / (8 : Int32))) = (1 : Int32) from by decide, show ((1 : Int32) % ((((2 : Int32) * (4 : Int32)) + (7 : Int32)) / (8 : Int32))) = (0 : Int32) from by decide, show ((8 : Int32) / (4 : Int32)) = (2 : Int32) from by decide, t0, t1, t2, t3, t4, t5, t6, t7]
theorem own_c4_3_0_0 (q : Int64) : own_pin q (3 : Int32) (4 : Int32) (0 : Int32) = ((((((((((own_idx q (4 : Int32) (0 : Int32)) <<< ((4 : Int32) &&& 31)) ||| ((own_idx q (4 : Int32) (1 : Int32)) <<< ((0 : Int32) &&& 31))) ||| (0 : Int32)) ||| (0 : Int32)) ||| (0 : Int32)) ||| (0 : Int32)) ||| (0 : Int32)) ||| (0 : Int32)).toInt8.toInt32) := by
  have t0 : own_term q (3 : Int32) (0 : Int32) (0 : Int32) (2 : Int32) (4 : Int32) (0 : Int32) = ((own_idx q (4 : Int32) (0 : Int32)) <<< ((4 : Int32) &&& 31)) := by
    rw [own_tm1 (by decide) (by decide), show (((0 : Int32) * (3 : Int32)) + (((0 : Int32) * (2 : Int32)) + (0 : Int32))) = (0 : Int32) from by decide, show ((8 : Int32) - ((4 : Int32) * ((0 : Int32) + (1 : Int32)))) = (4 : Int32) from by decide]
  have t1 : own_term q (3 : Int32) (0 : Int32) (0 : Int32) (2 : Int32) (4 : Int32) (1 : Int32) = ((own_idx q (4 : Int32) (1 : Int32)) <<< ((0 : Int32) &&& 31)) := by
    rw [own_tm1 (by decide) (by decide), show (((0 : Int32) * (3 : Int32)) + (((0 : Int32) * (2 : Int32)) + (1 : Int32))) = (1 : Int32) from by decide, show ((8 : Int32) - ((4 : Int32) * ((1 : Int32) + (1 : Int32)))) = (0 : Int32) from by decide]
  have t2 : own_term q (3 : Int32) (0 : Int32) (0 : Int32) (2 : Int32) (4 : Int32) (2 : Int32) = (0 : Int32) := own_tm0 (by decide)
  have t3 : own_term q (3 : Int32) (0 : Int32) (0 : Int32) (2 : Int32) (4 : Int32) (3 : Int32) = (0 : Int32) := own_tm0 (by decide)
  have t4 : own_term q (3 : Int32) (0 : Int32) (0 : Int32) (2 : Int32) (4 : Int32) (4 : Int32) = (0 : Int32) := own_tm0 (by decide)
  have t5 : own_term q (3 : Int32) (0 : Int32) (0 : Int32) (2 : Int32) (4 : Int32) (5 : Int32) = (0 : Int32) := own_tm0 (by decide)
  have t6 : own_term q (3 : Int32) (0 : Int32) (0 : Int32) (2 : Int32) (4 : Int32) (6 : Int32) = (0 : Int32) := own_tm0 (by decide)
  have t7 : own_term q (3 : Int32) (0 : Int32) (0 : Int32) (2 : Int32) (4 : Int32) (7 : Int32) = (0 : Int32) := own_tm0 (by decide)
  unfold own_pin
  rw [show ((0 : Int32) / ((((3 : Int32) * (4 : Int32)) + (7 : Int32)) / (8 : Int32))) = (0 : Int32) from by decide, show ((0 : Int32) % ((((3 : Int32) * (4 : Int32)) + (7 : Int32)) / (8 : Int32))) = (0 : Int32) from by decide, show ((8 : Int32) / (4 : Int32)) = (2 : Int32) from by decide, t0, t1, t2, t3, t4, t5, t6, t7]
theorem own_c4_3_0_1 (q : Int64) : own_pin q (3 : Int32) (4 : Int32) (1 : Int32) = ((((((((((own_idx q (4 : Int32) (2 : Int32)) <<< ((4 : Int32) &&& 31)) ||| (0 : Int32)) ||| (0 : Int32)) ||| (0 : Int32)) ||| (0 : Int32)) ||| (0 : Int32)) ||| (0 : Int32)) ||| (0 : Int32)).toInt8.toInt32) := by
  have t0 : own_term q (3 : Int32) (0 : Int32) (1 : Int32) (2 : Int32) (4 : Int32) (0 : Int32) = ((own_idx q (4 : Int32) (2 : Int32)) <<< ((4 : Int32) &&& 31)) := by
    rw [own_tm1 (by decide) (by decide), show (((0 : Int32) * (3 : Int32)) + (((1 : Int32) * (2 : Int32)) + (0 : Int32))) = (2 : Int32) from by decide, show ((8 : Int32) - ((4 : Int32) * ((0 : Int32) + (1 : Int32)))) = (4 : Int32) from by decide]
  have t1 : own_term q (3 : Int32) (0 : Int32) (1 : Int32) (2 : Int32) (4 : Int32) (1 : Int32) = (0 : Int32) := own_tm2 (by decide) (by decide)
  have t2 : own_term q (3 : Int32) (0 : Int32) (1 : Int32) (2 : Int32) (4 : Int32) (2 : Int32) = (0 : Int32) := own_tm0 (by decide)
  have t3 : own_term q (3 : Int32) (0 : Int32) (1 : Int32) (2 : Int32) (4 : Int32) (3 : Int32) = (0 : Int32) := own_tm0 (by decide)
  have t4 : own_term q (3 : Int32) (0 : Int32) (1 : Int32) (2 : Int32) (4 : Int32) (4 : Int32) = (0 : Int32) := own_tm0 (by decide)
  have t5 : own_term q (3 : Int32) (0 : Int32) (1 : Int32) (2 : Int32) (4 : Int32) (5 : Int32) = (0 : Int32) := own_tm0 (by decide)
  have t6 : own_term q (3 : Int32) (0 : Int32) (1 : Int32) (2 : Int32) (4 : Int32) (6 : Int32) = (0 : Int32) := own_tm0 (by decide)
  have t7 : own_term q (3 : Int32) (0 : Int32) (1 : Int32) (2 : Int32) (4 : Int32) (7 : Int32) = (0 : Int32) := own_tm0 (by decide)
  unfold own_pin
  rw [show ((1 : Int32) / ((((3 : Int32) * (4 : Int32)) + (7 : Int32)) / (8 : Int32))) = (0 : Int32) from by decide, show ((1 : Int32) % ((((3 : Int32) * (4 : Int32)) + (7 : Int32)) / (8 : Int32))) = (1 : Int32) from by decide, show ((8 : Int32) / (4 : Int32)) = (2 : Int32) from by decide, t0, t1, t2, t3, t4, t5, t6, t7]
theorem own_c4_3_1_0 (q : Int64) : own_pin q (3 : Int32) (4 : Int32) (2 : Int32) = ((((((((((own_idx q (4 : Int32) (3 : Int32)) <<< ((4 : Int32) &&& 31)) ||| ((own_idx q (4 : Int32) (4 : Int32)) <<< ((0 : Int32) &&& 31))) ||| (0 : Int32)) ||| (0 : Int32)) ||| (0 : Int32)) ||| (0 : Int32)) ||| (0 : Int32)) ||| (0 : Int32)).toInt8.toInt32) := by
  have t0 : own_term q (3 : Int32) (1 : Int32) (0 : Int32) (2 : Int32) (4 : Int32) (0 : Int32) = ((own_idx q (4 : Int32) (3 : Int32)) <<< ((4 : Int32) &&& 31)) := by
    rw [own_tm1 (by decide) (by decide), show (((1 : Int32) * (3 : Int32)) + (((0 : Int32) * (2 : Int32)) + (0 : Int32))) = (3 : Int32) from by decide, show ((8 : Int32) - ((4 : Int32) * ((0 : Int32) + (1 : Int32)))) = (4 : Int32) from by decide]
  have t1 : own_term q (3 : Int32) (1 : Int32) (0 : Int32) (2 : Int32) (4 : Int32) (1 : Int32) = ((own_idx q (4 : Int32) (4 : Int32)) <<< ((0 : Int32) &&& 31)) := by
    rw [own_tm1 (by decide) (by decide), show (((1 : Int32) * (3 : Int32)) + (((0 : Int32) * (2 : Int32)) + (1 : Int32))) = (4 : Int32) from by decide, show ((8 : Int32) - ((4 : Int32) * ((1 : Int32) + (1 : Int32)))) = (0 : Int32) from by decide]
  have t2 : own_term q (3 : Int32) (1 : Int32) (0 : Int32) (2 : Int32) (4 : Int32) (2 : Int32) = (0 : Int32) := own_tm0 (by decide)
  have t3 : own_term q (3 : Int32) (1 : Int32) (0 : Int32) (2 : Int32) (4 : Int32) (3 : Int32) = (0 : Int32) := own_tm0 (by decide)
  have t4 : own_term q (3 : Int32) (1 : Int32) (0 : Int32) (2 : Int32) (4 : Int32) (4 : Int32) = (0 : Int32) := own_tm0 (by decide)
  have t5 : own_term q (3 : Int32) (1 : Int32) (0 : Int32) (2 : Int32) (4 : Int32) (5 : Int32) = (0 : Int32) := own_tm0 (by decide)
  have t6 : own_term q (3 : Int32) (1 : Int32) (0 : Int32) (2 : Int32) (4 : Int32) (6 : Int32) = (0 : Int32) := own_tm0 (by decide)
  have t7 : own_term q (3 : Int32) (1 : Int32) (0 : Int32) (2 : Int32) (4 : Int32) (7 : Int32) = (0 : Int32) := own_tm0 (by decide)
  unfold own_pin
  rw [show ((2 : Int32) / ((((3 : Int32) * (4 : Int32)) + (7 : Int32)) / (8 : Int32))) = (1 : Int32) from by decide, show ((2 : Int32) % ((((3 : Int32) * (4 : Int32)) + (7 : Int32)) / (8 : Int32))) = (0 : Int32) from by decide, show ((8 : Int32) / (4 : Int32)) = (2 : Int32) from by decide, t0, t1, t2, t3, t4, t5, t6, t7]
theorem own_c4_3_1_1 (q : Int64) : own_pin q (3 : Int32) (4 : Int32) (3 : Int32) = ((((((((((own_idx q (4 : Int32) (5 : Int32)) <<< ((4 : Int32) &&& 31)) ||| (0 : Int32)) ||| (0 : Int32)) ||| (0 : Int32)) ||| (0 : Int32)) ||| (0 : Int32)) ||| (0 : Int32)) ||| (0 : Int32)).toInt8.toInt32) := by
  have t0 : own_term q (3 : Int32) (1 : Int32) (1 : Int32) (2 : Int32) (4 : Int32) (0 : Int32) = ((own_idx q (4 : Int32) (5 : Int32)) <<< ((4 : Int32) &&& 31)) := by
    rw [own_tm1 (by decide) (by decide), show (((1 : Int32) * (3 : Int32)) + (((1 : Int32) * (2 : Int32)) + (0 : Int32))) = (5 : Int32) from by decide, show ((8 : Int32) - ((4 : Int32) * ((0 : Int32) + (1 : Int32)))) = (4 : Int32) from by decide]
  have t1 : own_term q (3 : Int32) (1 : Int32) (1 : Int32) (2 : Int32) (4 : Int32) (1 : Int32) = (0 : Int32) := own_tm2 (by decide) (by decide)
  have t2 : own_term q (3 : Int32) (1 : Int32) (1 : Int32) (2 : Int32) (4 : Int32) (2 : Int32) = (0 : Int32) := own_tm0 (by decide)
  have t3 : own_term q (3 : Int32) (1 : Int32) (1 : Int32) (2 : Int32) (4 : Int32) (3 : Int32) = (0 : Int32) := own_tm0 (by decide)
  have t4 : own_term q (3 : Int32) (1 : Int32) (1 : Int32) (2 : Int32) (4 : Int32) (4 : Int32) = (0 : Int32) := own_tm0 (by decide)
  have t5 : own_term q (3 : Int32) (1 : Int32) (1 : Int32) (2 : Int32) (4 : Int32) (5 : Int32) = (0 : Int32) := own_tm0 (by decide)
  have t6 : own_term q (3 : Int32) (1 : Int32) (1 : Int32) (2 : Int32) (4 : Int32) (6 : Int32) = (0 : Int32) := own_tm0 (by decide)
  have t7 : own_term q (3 : Int32) (1 : Int32) (1 : Int32) (2 : Int32) (4 : Int32) (7 : Int32) = (0 : Int32) := own_tm0 (by decide)
  unfold own_pin
  rw [show ((3 : Int32) / ((((3 : Int32) * (4 : Int32)) + (7 : Int32)) / (8 : Int32))) = (1 : Int32) from by decide, show ((3 : Int32) % ((((3 : Int32) * (4 : Int32)) + (7 : Int32)) / (8 : Int32))) = (1 : Int32) from by decide, show ((8 : Int32) / (4 : Int32)) = (2 : Int32) from by decide, t0, t1, t2, t3, t4, t5, t6, t7]
theorem own_c4_4_0_0 (q : Int64) : own_pin q (4 : Int32) (4 : Int32) (0 : Int32) = ((((((((((own_idx q (4 : Int32) (0 : Int32)) <<< ((4 : Int32) &&& 31)) ||| ((own_idx q (4 : Int32) (1 : Int32)) <<< ((0 : Int32) &&& 31))) ||| (0 : Int32)) ||| (0 : Int32)) ||| (0 : Int32)) ||| (0 : Int32)) ||| (0 : Int32)) ||| (0 : Int32)).toInt8.toInt32) := by
  have t0 : own_term q (4 : Int32) (0 : Int32) (0 : Int32) (2 : Int32) (4 : Int32) (0 : Int32) = ((own_idx q (4 : Int32) (0 : Int32)) <<< ((4 : Int32) &&& 31)) := by
    rw [own_tm1 (by decide) (by decide), show (((0 : Int32) * (4 : Int32)) + (((0 : Int32) * (2 : Int32)) + (0 : Int32))) = (0 : Int32) from by decide, show ((8 : Int32) - ((4 : Int32) * ((0 : Int32) + (1 : Int32)))) = (4 : Int32) from by decide]
  have t1 : own_term q (4 : Int32) (0 : Int32) (0 : Int32) (2 : Int32) (4 : Int32) (1 : Int32) = ((own_idx q (4 : Int32) (1 : Int32)) <<< ((0 : Int32) &&& 31)) := by
    rw [own_tm1 (by decide) (by decide), show (((0 : Int32) * (4 : Int32)) + (((0 : Int32) * (2 : Int32)) + (1 : Int32))) = (1 : Int32) from by decide, show ((8 : Int32) - ((4 : Int32) * ((1 : Int32) + (1 : Int32)))) = (0 : Int32) from by decide]
  have t2 : own_term q (4 : Int32) (0 : Int32) (0 : Int32) (2 : Int32) (4 : Int32) (2 : Int32) = (0 : Int32) := own_tm0 (by decide)
  have t3 : own_term q (4 : Int32) (0 : Int32) (0 : Int32) (2 : Int32) (4 : Int32) (3 : Int32) = (0 : Int32) := own_tm0 (by decide)
  have t4 : own_term q (4 : Int32) (0 : Int32) (0 : Int32) (2 : Int32) (4 : Int32) (4 : Int32) = (0 : Int32) := own_tm0 (by decide)
  have t5 : own_term q (4 : Int32) (0 : Int32) (0 : Int32) (2 : Int32) (4 : Int32) (5 : Int32) = (0 : Int32) := own_tm0 (by decide)
  have t6 : own_term q (4 : Int32) (0 : Int32) (0 : Int32) (2 : Int32) (4 : Int32) (6 : Int32) = (0 : Int32) := own_tm0 (by decide)
  have t7 : own_term q (4 : Int32) (0 : Int32) (0 : Int32) (2 : Int32) (4 : Int32) (7 : Int32) = (0 : Int32) := own_tm0 (by decide)
  unfold own_pin
  rw [show ((0 : Int32) / ((((4 : Int32) * (4 : Int32)) + (7 : Int32)) / (8 : Int32))) = (0 : Int32) from by decide, show ((0 : Int32) % ((((4 : Int32) * (4 : Int32)) + (7 : Int32)) / (8 : Int32))) = (0 : Int32) from by decide, show ((8 : Int32) / (4 : Int32)) = (2 : Int32) from by decide, t0, t1, t2, t3, t4, t5, t6, t7]
theorem own_c4_4_0_1 (q : Int64) : own_pin q (4 : Int32) (4 : Int32) (1 : Int32) = ((((((((((own_idx q (4 : Int32) (2 : Int32)) <<< ((4 : Int32) &&& 31)) ||| ((own_idx q (4 : Int32) (3 : Int32)) <<< ((0 : Int32) &&& 31))) ||| (0 : Int32)) ||| (0 : Int32)) ||| (0 : Int32)) ||| (0 : Int32)) ||| (0 : Int32)) ||| (0 : Int32)).toInt8.toInt32) := by
  have t0 : own_term q (4 : Int32) (0 : Int32) (1 : Int32) (2 : Int32) (4 : Int32) (0 : Int32) = ((own_idx q (4 : Int32) (2 : Int32)) <<< ((4 : Int32) &&& 31)) := by
    rw [own_tm1 (by decide) (by decide), show (((0 : Int32) * (4 : Int32)) + (((1 : Int32) * (2 : Int32)) + (0 : Int32))) = (2 : Int32) from by decide, show ((8 : Int32) - ((4 : Int32) * ((0 : Int32) + (1 : Int32)))) = (4 : Int32) from by decide]
  have t1 : own_term q (4 : Int32) (0 : Int32) (1 : Int32) (2 : Int32) (4 : Int32) (1 : Int32) = ((own_idx q (4 : Int32) (3 : Int32)) <<< ((0 : Int32) &&& 31)) := by
    rw [own_tm1 (by decide) (by decide), show (((0 : Int32) * (4 : Int32)) + (((1 : Int32) * (2 : Int32)) + (1 : Int32))) = (3 : Int32) from by decide, show ((8 : Int32) - ((4 : Int32) * ((1 : Int32) + (1 : Int32)))) = (0 : Int32) from by decide]
  have t2 : own_term q (4 : Int32) (0 : Int32) (1 : Int32) (2 : Int32) (4 : Int32) (2 : Int32) = (0 : Int32) := own_tm0 (by decide)
  have t3 : own_term q (4 : Int32) (0 : Int32) (1 : Int32) (2 : Int32) (4 : Int32) (3 : Int32) = (0 : Int32) := own_tm0 (by decide)
  have t4 : own_term q (4 : Int32) (0 : Int32) (1 : Int32) (2 : Int32) (4 : Int32) (4 : Int32) = (0 : Int32) := own_tm0 (by decide)
  have t5 : own_term q (4 : Int32) (0 : Int32) (1 : Int32) (2 : Int32) (4 : Int32) (5 : Int32) = (0 : Int32) := own_tm0 (by decide)
  have t6 : own_term q (4 : Int32) (0 : Int32) (1 : Int32) (2 : Int32) (4 : Int32) (6 : Int32) = (0 : Int32) := own_tm0 (by decide)
  have t7 : own_term q (4 : Int32) (0 : Int32) (1 : Int32) (2 : Int32) (4 : Int32) (7 : Int32) = (0 : Int32) := own_tm0 (by decide)
  unfold own_pin
  rw [show ((1 : Int32) / ((((4 : Int32) * (4 : Int32)) + (7 : Int32)) / (8 : Int32))) = (0 : Int32) from by decide, show ((1 : Int32) % ((((4 : Int32) * (4 : Int32)) + (7 : Int32)) / (8 : Int32))) = (1 : Int32) from by decide, show ((8 : Int32) / (4 : Int32)) = (2 : Int32) from by decide, t0, t1, t2, t3, t4, t5, t6, t7]
theorem own_c4_4_1_0 (q : Int64) : own_pin q (4 : Int32) (4 : Int32) (2 : Int32) = ((((((((((own_idx q (4 : Int32) (4 : Int32)) <<< ((4 : Int32) &&& 31)) ||| ((own_idx q (4 : Int32) (5 : Int32)) <<< ((0 : Int32) &&& 31))) ||| (0 : Int32)) ||| (0 : Int32)) ||| (0 : Int32)) ||| (0 : Int32)) ||| (0 : Int32)) ||| (0 : Int32)).toInt8.toInt32) := by
  have t0 : own_term q (4 : Int32) (1 : Int32) (0 : Int32) (2 : Int32) (4 : Int32) (0 : Int32) = ((own_idx q (4 : Int32) (4 : Int32)) <<< ((4 : Int32) &&& 31)) := by
    rw [own_tm1 (by decide) (by decide), show (((1 : Int32) * (4 : Int32)) + (((0 : Int32) * (2 : Int32)) + (0 : Int32))) = (4 : Int32) from by decide, show ((8 : Int32) - ((4 : Int32) * ((0 : Int32) + (1 : Int32)))) = (4 : Int32) from by decide]
  have t1 : own_term q (4 : Int32) (1 : Int32) (0 : Int32) (2 : Int32) (4 : Int32) (1 : Int32) = ((own_idx q (4 : Int32) (5 : Int32)) <<< ((0 : Int32) &&& 31)) := by
    rw [own_tm1 (by decide) (by decide), show (((1 : Int32) * (4 : Int32)) + (((0 : Int32) * (2 : Int32)) + (1 : Int32))) = (5 : Int32) from by decide, show ((8 : Int32) - ((4 : Int32) * ((1 : Int32) + (1 : Int32)))) = (0 : Int32) from by decide]
  have t2 : own_term q (4 : Int32) (1 : Int32) (0 : Int32) (2 : Int32) (4 : Int32) (2 : Int32) = (0 : Int32) := own_tm0 (by decide)
  have t3 : own_term q (4 : Int32) (1 : Int32) (0 : Int32) (2 : Int32) (4 : Int32) (3 : Int32) = (0 : Int32) := own_tm0 (by decide)
  have t4 : own_term q (4 : Int32) (1 : Int32) (0 : Int32) (2 : Int32) (4 : Int32) (4 : Int32) = (0 : Int32) := own_tm0 (by decide)
  have t5 : own_term q (4 : Int32) (1 : Int32) (0 : Int32) (2 : Int32) (4 : Int32) (5 : Int32) = (0 : Int32) := own_tm0 (by decide)
  have t6 : own_term q (4 : Int32) (1 : Int32) (0 : Int32) (2 : Int32) (4 : Int32) (6 : Int32) = (0 : Int32) := own_tm0 (by decide)
  have t7 : own_term q (4 : Int32) (1 : Int32) (0 : Int32) (2 : Int32) (4 : Int32) (7 : Int32) = (0 : Int32) := own_tm0 (by decide)
  unfold own_pin
  rw [show ((2 : Int32) / ((((4 : Int32) * (4 : Int32)) + (7 : Int32)) / (8 : Int32))) = (1 : Int32) from by decide, show ((2 : Int32) % ((((4 : Int32) * (4 : Int32)) + (7 : Int32)) / (8 : Int32))) = (0 : Int32) from by decide, show ((8 : Int32) / (4 : Int32)) = (2 : Int32) from by decide, t0, t1, t2, t3, t4, t5, t6, t7]
theorem own_c4_4_1_1 (q : Int64) : own_pin q (4 : Int32) (4 : Int32) (3 : Int32) = ((((((((((own_idx q (4 : Int32) (6 : Int32)) <<< ((4 : Int32) &&& 31)) ||| ((own_idx q (4 : Int32) (7 : Int32)) <<< ((0 : Int32) &&& 31))) ||| (0 : Int32)) ||| (0 : Int32)) ||| (0 : Int32)) ||| (0 : Int32)) ||| (0 : Int32)) ||| (0 : Int32)).toInt8.toInt32) := by
  have t0 : own_term q (4 : Int32) (1 : Int32) (1 : Int32) (2 : Int32) (4 : Int32) (0 : Int32) = ((own_idx q (4 : Int32) (6 : Int32)) <<< ((4 : Int32) &&& 31)) := by
    rw [own_tm1 (by decide) (by decide), show (((1 : Int32) * (4 : Int32)) + (((1 : Int32) * (2 : Int32)) + (0 : Int32))) = (6 : Int32) from by decide, show ((8 : Int32) - ((4 : Int32) * ((0 : Int32) + (1 : Int32)))) = (4 : Int32) from by decide]
  have t1 : own_term q (4 : Int32) (1 : Int32) (1 : Int32) (2 : Int32) (4 : Int32) (1 : Int32) = ((own_idx q (4 : Int32) (7 : Int32)) <<< ((0 : Int32) &&& 31)) := by
    rw [own_tm1 (by decide) (by decide), show (((1 : Int32) * (4 : Int32)) + (((1 : Int32) * (2 : Int32)) + (1 : Int32))) = (7 : Int32) from by decide, show ((8 : Int32) - ((4 : Int32) * ((1 : Int32) + (1 : Int32)))) = (0 : Int32) from by decide]
  have t2 : own_term q (4 : Int32) (1 : Int32) (1 : Int32) (2 : Int32) (4 : Int32) (2 : Int32) = (0 : Int32) := own_tm0 (by decide)
  have t3 : own_term q (4 : Int32) (1 : Int32) (1 : Int32) (2 : Int32) (4 : Int32) (3 : Int32) = (0 : Int32) := own_tm0 (by decide)
  have t4 : own_term q (4 : Int32) (1 : Int32) (1 : Int32) (2 : Int32) (4 : Int32) (4 : Int32) = (0 : Int32) := own_tm0 (by decide)
  have t5 : own_term q (4 : Int32) (1 : Int32) (1 : Int32) (2 : Int32) (4 : Int32) (5 : Int32) = (0 : Int32) := own_tm0 (by decide)
  have t6 : own_term q (4 : Int32) (1 : Int32) (1 : Int32) (2 : Int32) (4 : Int32) (6 : Int32) = (0 : Int32) := own_tm0 (by decide)
  have t7 : own_term q (4 : Int32) (1 : Int32) (1 : Int32) (2 : Int32) (4 : Int32) (7 : Int32) = (0 : Int32) := own_tm0 (by decide)
  unfold own_pin
  rw [show ((3 : Int32) / ((((4 : Int32) * (4 : Int32)) + (7 : Int32)) / (8 : Int32))) = (1 : Int32) from by decide, show ((3 : Int32) % ((((4 : Int32) * (4 : Int32)) + (7 : Int32)) / (8 : Int32))) = (1 : Int32) from by decide, show ((8 : Int32) / (4 : Int32)) = (2 : Int32) from by decide, t0, t1, t2, t3, t4, t5, t6, t7]
theorem own_c4_5_0_0 (q : Int64) : own_pin q (5 : Int32) (4 : Int32) (0 : Int32) = ((((((((((own_idx q (4 : Int32) (0 : Int32)) <<< ((4 : Int32) &&& 31)) ||| ((own_idx q (4 : Int32) (1 : Int32)) <<< ((0 : Int32) &&& 31))) ||| (0 : Int32)) ||| (0 : Int32)) ||| (0 : Int32)) ||| (0 : Int32)) ||| (0 : Int32)) ||| (0 : Int32)).toInt8.toInt32) := by
  have t0 : own_term q (5 : Int32) (0 : Int32) (0 : Int32) (2 : Int32) (4 : Int32) (0 : Int32) = ((own_idx q (4 : Int32) (0 : Int32)) <<< ((4 : Int32) &&& 31)) := by
    rw [own_tm1 (by decide) (by decide), show (((0 : Int32) * (5 : Int32)) + (((0 : Int32) * (2 : Int32)) + (0 : Int32))) = (0 : Int32) from by decide, show ((8 : Int32) - ((4 : Int32) * ((0 : Int32) + (1 : Int32)))) = (4 : Int32) from by decide]
  have t1 : own_term q (5 : Int32) (0 : Int32) (0 : Int32) (2 : Int32) (4 : Int32) (1 : Int32) = ((own_idx q (4 : Int32) (1 : Int32)) <<< ((0 : Int32) &&& 31)) := by
    rw [own_tm1 (by decide) (by decide), show (((0 : Int32) * (5 : Int32)) + (((0 : Int32) * (2 : Int32)) + (1 : Int32))) = (1 : Int32) from by decide, show ((8 : Int32) - ((4 : Int32) * ((1 : Int32) + (1 : Int32)))) = (0 : Int32) from by decide]
  have t2 : own_term q (5 : Int32) (0 : Int32) (0 : Int32) (2 : Int32) (4 : Int32) (2 : Int32) = (0 : Int32) := own_tm0 (by decide)
  have t3 : own_term q (5 : Int32) (0 : Int32) (0 : Int32) (2 : Int32) (4 : Int32) (3 : Int32) = (0 : Int32) := own_tm0 (by decide)
  have t4 : own_term q (5 : Int32) (0 : Int32) (0 : Int32) (2 : Int32) (4 : Int32) (4 : Int32) = (0 : Int32) := own_tm0 (by decide)
  have t5 : own_term q (5 : Int32) (0 : Int32) (0 : Int32) (2 : Int32) (4 : Int32) (5 : Int32) = (0 : Int32) := own_tm0 (by decide)
  have t6 : own_term q (5 : Int32) (0 : Int32) (0 : Int32) (2 : Int32) (4 : Int32) (6 : Int32) = (0 : Int32) := own_tm0 (by decide)
  have t7 : own_term q (5 : Int32) (0 : Int32) (0 : Int32) (2 : Int32) (4 : Int32) (7 : Int32) = (0 : Int32) := own_tm0 (by decide)
  unfold own_pin
  rw [show ((0 : Int32) / ((((5 : Int32) * (4 : Int32)) + (7 : Int32)) / (8 : Int32))) = (0 : Int32) from by decide, show ((0 : Int32) % ((((5 : Int32) * (4 : Int32)) + (7 : Int32)) / (8 : Int32))) = (0 : Int32) from by decide, show ((8 : Int32) / (4 : Int32)) = (2 : Int32) from by decide, t0, t1, t2, t3, t4, t5, t6, t7]
theorem own_c4_5_0_1 (q : Int64) : own_pin q (5 : Int32) (4 : Int32) (1 : Int32) = ((((((((((own_idx q (4 : Int32) (2 : Int32)) <<< ((4 : Int32) &&& 31)) ||| ((own_idx q (4 : Int32) (3 : Int32)) <<< ((0 : Int32) &&& 31))) ||| (0 : Int32)) ||| (0 : Int32)) ||| (0 : Int32)) ||| (0 : Int32)) ||| (0 : Int32)) ||| (0 : Int32)).toInt8.toInt32) := by
  have t0 : own_term q (5 : Int32) (0 : Int32) (1 : Int32) (2 : Int32) (4 : Int32) (0 : Int32) = ((own_idx q (4 : Int32) (2 : Int32)) <<< ((4 : Int32) &&& 31)) := by
    rw [own_tm1 (by decide) (by decide), show (((0 : Int32) * (5 : Int32)) + (((1 : Int32) * (2 : Int32)) + (0 : Int32))) = (2 : Int32) from by decide, show ((8 : Int32) - ((4 : Int32) * ((0 : Int32) + (1 : Int32)))) = (4 : Int32) from by decide]
  have t1 : own_term q (5 : Int32) (0 : Int32) (1 : Int32) (2 : Int32) (4 : Int32) (1 : Int32) = ((own_idx q (4 : Int32) (3 : Int32)) <<< ((0 : Int32) &&& 31)) := by
    rw [own_tm1 (by decide) (by decide), show (((0 : Int32) * (5 : Int32)) + (((1 : Int32) * (2 : Int32)) + (1 : Int32))) = (3 : Int32) from by decide, show ((8 : Int32) - ((4 : Int32) * ((1 : Int32) + (1 : Int32)))) = (0 : Int32) from by decide]
  have t2 : own_term q (5 : Int32) (0 : Int32) (1 : Int32) (2 : Int32) (4 : Int32) (2 : Int32) = (0 : Int32) := own_tm0 (by decide)
  have t3 : own_term q (5 : Int32) (0 : Int32) (1 : Int32) (2 : Int32) (4 : Int32) (3 : Int32) = (0 : Int32) := own_tm0 (by decide)
  have t4 : own_term q (5 : Int32) (0 : Int32) (1 : Int32) (2 : Int32) (4 : Int32) (4 : Int32) = (0 : Int32) := own_tm0 (by decide)
  have t5 : own_term q (5 : Int32) (0 : Int32) (1 : Int32) (2 : Int32) (4 : Int32) (5 : Int32) = (0 : Int32) := own_tm0 (by decide)
  have t6 : own_term q (5 : Int32) (0 : Int32) (1 : Int32) (2 : Int32) (4 : Int32) (6 : Int32) = (0 : Int32) := own_tm0 (by decide)
  have t7 : own_term q (5 : Int32) (0 : Int32) (1 : Int32) (2 : Int32) (4 : Int32) (7 : Int32) = (0 : Int32) := own_tm0 (by decide)
  unfold own_pin
  rw [show ((1 : Int32) / ((((5 : Int32) * (4 : Int32)) + (7 : Int32)) / (8 : Int32))) = (0 : Int32) from by decide, show ((1 : Int32) % ((((5 : Int32) * (4 : Int32)) + (7 : Int32)) / (8 : Int32))) = (1 : Int32) from by decide, show ((8 : Int32) / (4 : Int32)) = (2 : Int32) from by decide, t0, t1, t2, t3, t4, t5, t6, t7]
theorem own_c4_5_0_2 (q : Int64) : own_pin q (5 : Int32) (4 : Int32) (2 : Int32) = ((((((((((own_idx q (4 : Int32) (4 : Int32)) <<< ((4 : Int32) &&& 31)) ||| (0 : Int32)) ||| (0 : Int32)) ||| (0 : Int32)) ||| (0 : Int32)) ||| (0 : Int32)) ||| (0 : Int32)) ||| (0 : Int32)).toInt8.toInt32) := by
  have t0 : own_term q (5 : Int32) (0 : Int32) (2 : Int32) (2 : Int32) (4 : Int32) (0 : Int32) = ((own_idx q (4 : Int32) (4 : Int32)) <<< ((4 : Int32) &&& 31)) := by
    rw [own_tm1 (by decide) (by decide), show (((0 : Int32) * (5 : Int32)) + (((2 : Int32) * (2 : Int32)) + (0 : Int32))) = (4 : Int32) from by decide, show ((8 : Int32) - ((4 : Int32) * ((0 : Int32) + (1 : Int32)))) = (4 : Int32) from by decide]
  have t1 : own_term q (5 : Int32) (0 : Int32) (2 : Int32) (2 : Int32) (4 : Int32) (1 : Int32) = (0 : Int32) := own_tm2 (by decide) (by decide)
  have t2 : own_term q (5 : Int32) (0 : Int32) (2 : Int32) (2 : Int32) (4 : Int32) (2 : Int32) = (0 : Int32) := own_tm0 (by decide)
  have t3 : own_term q (5 : Int32) (0 : Int32) (2 : Int32) (2 : Int32) (4 : Int32) (3 : Int32) = (0 : Int32) := own_tm0 (by decide)
  have t4 : own_term q (5 : Int32) (0 : Int32) (2 : Int32) (2 : Int32) (4 : Int32) (4 : Int32) = (0 : Int32) := own_tm0 (by decide)
  have t5 : own_term q (5 : Int32) (0 : Int32) (2 : Int32) (2 : Int32) (4 : Int32) (5 : Int32) = (0 : Int32) := own_tm0 (by decide)
  have t6 : own_term q (5 : Int32) (0 : Int32) (2 : Int32) (2 : Int32) (4 : Int32) (6 : Int32) = (0 : Int32) := own_tm0 (by decide)
  have t7 : own_term q (5 : Int32) (0 : Int32) (2 : Int32) (2 : Int32) (4 : Int32) (7 : Int32) = (0 : Int32) := own_tm0 (by decide)
  unfold own_pin
  rw [show ((2 : Int32) / ((((5 : Int32) * (4 : Int32)) + (7 : Int32)) / (8 : Int32))) = (0 : Int32) from by decide, show ((2 : Int32) % ((((5 : Int32) * (4 : Int32)) + (7 : Int32)) / (8 : Int32))) = (2 : Int32) from by decide, show ((8 : Int32) / (4 : Int32)) = (2 : Int32) from by decide, t0, t1, t2, t3, t4, t5, t6, t7]
theorem own_c4_5_1_0 (q : Int64) : own_pin q (5 : Int32) (4 : Int32) (3 : Int32) = ((((((((((own_idx q (4 : Int32) (5 : Int32)) <<< ((4 : Int32) &&& 31)) ||| ((own_idx q (4 : Int32) (6 : Int32)) <<< ((0 : Int32) &&& 31))) ||| (0 : Int32)) ||| (0 : Int32)) ||| (0 : Int32)) ||| (0 : Int32)) ||| (0 : Int32)) ||| (0 : Int32)).toInt8.toInt32) := by
  have t0 : own_term q (5 : Int32) (1 : Int32) (0 : Int32) (2 : Int32) (4 : Int32) (0 : Int32) = ((own_idx q (4 : Int32) (5 : Int32)) <<< ((4 : Int32) &&& 31)) := by
    rw [own_tm1 (by decide) (by decide), show (((1 : Int32) * (5 : Int32)) + (((0 : Int32) * (2 : Int32)) + (0 : Int32))) = (5 : Int32) from by decide, show ((8 : Int32) - ((4 : Int32) * ((0 : Int32) + (1 : Int32)))) = (4 : Int32) from by decide]
  have t1 : own_term q (5 : Int32) (1 : Int32) (0 : Int32) (2 : Int32) (4 : Int32) (1 : Int32) = ((own_idx q (4 : Int32) (6 : Int32)) <<< ((0 : Int32) &&& 31)) := by
    rw [own_tm1 (by decide) (by decide), show (((1 : Int32) * (5 : Int32)) + (((0 : Int32) * (2 : Int32)) + (1 : Int32))) = (6 : Int32) from by decide, show ((8 : Int32) - ((4 : Int32) * ((1 : Int32) + (1 : Int32)))) = (0 : Int32) from by decide]
  have t2 : own_term q (5 : Int32) (1 : Int32) (0 : Int32) (2 : Int32) (4 : Int32) (2 : Int32) = (0 : Int32) := own_tm0 (by decide)
  have t3 : own_term q (5 : Int32) (1 : Int32) (0 : Int32) (2 : Int32) (4 : Int32) (3 : Int32) = (0 : Int32) := own_tm0 (by decide)
  have t4 : own_term q (5 : Int32) (1 : Int32) (0 : Int32) (2 : Int32) (4 : Int32) (4 : Int32) = (0 : Int32) := own_tm0 (by decide)
  have t5 : own_term q (5 : Int32) (1 : Int32) (0 : Int32) (2 : Int32) (4 : Int32) (5 : Int32) = (0 : Int32) := own_tm0 (by decide)
  have t6 : own_term q (5 : Int32) (1 : Int32) (0 : Int32) (2 : Int32) (4 : Int32) (6 : Int32) = (0 : Int32) := own_tm0 (by decide)
  have t7 : own_term q (5 : Int32) (1 : Int32) (0 : Int32) (2 : Int32) (4 : Int32) (7 : Int32) = (0 : Int32) := own_tm0 (by decide)
  unfold own_pin
  rw [show ((3 : Int32) / ((((5 : Int32) * (4 : Int32)) + (7 : Int32)) / (8 : Int32))) = (1 : Int32) from by decide, show ((3 : Int32) % ((((5 : Int32) * (4 : Int32)) + (7 : Int32)) / (8 : Int32))) = (0 : Int32) from by decide, show ((8 : Int32) / (4 : Int32)) = (2 : Int32) from by decide, t0, t1, t2, t3, t4, t5, t6, t7]
theorem own_c4_5_1_1 (q : Int64) : own_pin q (5 : Int32) (4 : Int32) (4 : Int32) = ((((((((((own_idx q (4 : Int32) (7 : Int32)) <<< ((4 : Int32) &&& 31)) ||| ((own_idx q (4 : Int32) (8 : Int32)) <<< ((0 : Int32) &&& 31))) ||| (0 : Int32)) ||| (0 : Int32)) ||| (0 : Int32)) ||| (0 : Int32)) ||| (0 : Int32)) ||| (0 : Int32)).toInt8.toInt32) := by
  have t0 : own_term q (5 : Int32) (1 : Int32) (1 : Int32) (2 : Int32) (4 : Int32) (0 : Int32) = ((own_idx q (4 : Int32) (7 : Int32)) <<< ((4 : Int32) &&& 31)) := by
    rw [own_tm1 (by decide) (by decide), show (((1 : Int32) * (5 : Int32)) + (((1 : Int32) * (2 : Int32)) + (0 : Int32))) = (7 : Int32) from by decide, show ((8 : Int32) - ((4 : Int32) * ((0 : Int32) + (1 : Int32)))) = (4 : Int32) from by decide]
  have t1 : own_term q (5 : Int32) (1 : Int32) (1 : Int32) (2 : Int32) (4 : Int32) (1 : Int32) = ((own_idx q (4 : Int32) (8 : Int32)) <<< ((0 : Int32) &&& 31)) := by
    rw [own_tm1 (by decide) (by decide), show (((1 : Int32) * (5 : Int32)) + (((1 : Int32) * (2 : Int32)) + (1 : Int32))) = (8 : Int32) from by decide, show ((8 : Int32) - ((4 : Int32) * ((1 : Int32) + (1 : Int32)))) = (0 : Int32) from by decide]
  have t2 : own_term q (5 : Int32) (1 : Int32) (1 : Int32) (2 : Int32) (4 : Int32) (2 : Int32) = (0 : Int32) := own_tm0 (by decide)
  have t3 : own_term q (5 : Int32) (1 : Int32) (1 : Int32) (2 : Int32) (4 : Int32) (3 : Int32) = (0 : Int32) := own_tm0 (by decide)
  have t4 : own_term q (5 : Int32) (1 : Int32) (1 : Int32) (2 : Int32) (4 : Int32) (4 : Int32) = (0 : Int32) := own_tm0 (by decide)
  have t5 : own_term q (5 : Int32) (1 : Int32) (1 : Int32) (2 : Int32) (4 : Int32) (5 : Int32) = (0 : Int32) := own_tm0 (by decide)
  have t6 : own_term q (5 : Int32) (1 : Int32) (1 : Int32) (2 : Int32) (4 : Int32) (6 : Int32) = (0 : Int32) := own_tm0 (by decide)
  have t7 : own_term q (5 : Int32) (1 : Int32) (1 : Int32) (2 : Int32) (4 : Int32) (7 : Int32) = (0 : Int32) := own_tm0 (by decide)
  unfold own_pin
  rw [show ((4 : Int32) / ((((5 : Int32) * (4 : Int32)) + (7 : Int32)) / (8 : Int32))) = (1 : Int32) from by decide, show ((4 : Int32) % ((((5 : Int32) * (4 : Int32)) + (7 : Int32)) / (8 : Int32))) = (1 : Int32) from by decide, show ((8 : Int32) / (4 : Int32)) = (2 : Int32) from by decide, t0, t1, t2, t3, t4, t5, t6, t7]
theorem own_c4_5_1_2 (q : Int64) : own_pin q (5 : Int32) (4 : Int32) (5 : Int32) = ((((((((((own_idx q (4 : Int32) (9 : Int32)) <<< ((4 : Int32) &&& 31)) ||| (0 : Int32)) ||| (0 : Int32)) ||| (0 : Int32)) ||| (0 : Int32)) ||| (0 : Int32)) ||| (0 : Int32)) ||| (0 : Int32)).toInt8.toInt32) := by
  have t0 : own_term q (5 : Int32) (1 : Int32) (2 : Int32) (2 : Int32) (4 : Int32) (0 : Int32) = ((own_idx q (4 : Int32) (9 : Int32)) <<< ((4 : Int32) &&& 31)) := by
    rw [own_tm1 (by decide) (by decide), show (((1 : Int32) * (5 : Int32)) + (((2 : Int32) * (2 : Int32)) + (0 : Int32))) = (9 : Int32) from by decide, show ((8 : Int32) - ((4 : Int32) * ((0 : Int32) + (1 : Int32)))) = (4 : Int32) from by decide]
  have t1 : own_term q (5 : Int32) (1 : Int32) (2 : Int32) (2 : Int32) (4 : Int32) (1 : Int32) = (0 : Int32) := own_tm2 (by decide) (by decide)
  have t2 : own_term q (5 : Int32) (1 : Int32) (2 : Int32) (2 : Int32) (4 : Int32) (2 : Int32) = (0 : Int32) := own_tm0 (by decide)
  have t3 : own_term q (5 : Int32) (1 : Int32) (2 : Int32) (2 : Int32) (4 : Int32) (3 : Int32) = (0 : Int32) := own_tm0 (by decide)
  have t4 : own_term q (5 : Int32) (1 : Int32) (2 : Int32) (2 : Int32) (4 : Int32) (4 : Int32) = (0 : Int32) := own_tm0 (by decide)
  have t5 : own_term q (5 : Int32) (1 : Int32) (2 : Int32) (2 : Int32) (4 : Int32) (5 : Int32) = (0 : Int32) := own_tm0 (by decide)
  have t6 : own_term q (5 : Int32) (1 : Int32) (2 : Int32) (2 : Int32) (4 : Int32) (6 : Int32) = (0 : Int32) := own_tm0 (by decide)
  have t7 : own_term q (5 : Int32) (1 : Int32) (2 : Int32) (2 : Int32) (4 : Int32) (7 : Int32) = (0 : Int32) := own_tm0 (by decide)
  unfold own_pin
  rw [show ((5 : Int32) / ((((5 : Int32) * (4 : Int32)) + (7 : Int32)) / (8 : Int32))) = (1 : Int32) from by decide, show ((5 : Int32) % ((((5 : Int32) * (4 : Int32)) + (7 : Int32)) / (8 : Int32))) = (2 : Int32) from by decide, show ((8 : Int32) / (4 : Int32)) = (2 : Int32) from by decide, t0, t1, t2, t3, t4, t5, t6, t7]
theorem own_c4_6_0_0 (q : Int64) : own_pin q (6 : Int32) (4 : Int32) (0 : Int32) = ((((((((((own_idx q (4 : Int32) (0 : Int32)) <<< ((4 : Int32) &&& 31)) ||| ((own_idx q (4 : Int32) (1 : Int32)) <<< ((0 : Int32) &&& 31))) ||| (0 : Int32)) ||| (0 : Int32)) ||| (0 : Int32)) ||| (0 : Int32)) ||| (0 : Int32)) ||| (0 : Int32)).toInt8.toInt32) := by
  have t0 : own_term q (6 : Int32) (0 : Int32) (0 : Int32) (2 : Int32) (4 : Int32) (0 : Int32) = ((own_idx q (4 : Int32) (0 : Int32)) <<< ((4 : Int32) &&& 31)) := by
    rw [own_tm1 (by decide) (by decide), show (((0 : Int32) * (6 : Int32)) + (((0 : Int32) * (2 : Int32)) + (0 : Int32))) = (0 : Int32) from by decide, show ((8 : Int32) - ((4 : Int32) * ((0 : Int32) + (1 : Int32)))) = (4 : Int32) from by decide]
  have t1 : own_term q (6 : Int32) (0 : Int32) (0 : Int32) (2 : Int32) (4 : Int32) (1 : Int32) = ((own_idx q (4 : Int32) (1 : Int32)) <<< ((0 : Int32) &&& 31)) := by
    rw [own_tm1 (by decide) (by decide), show (((0 : Int32) * (6 : Int32)) + (((0 : Int32) * (2 : Int32)) + (1 : Int32))) = (1 : Int32) from by decide, show ((8 : Int32) - ((4 : Int32) * ((1 : Int32) + (1 : Int32)))) = (0 : Int32) from by decide]
  have t2 : own_term q (6 : Int32) (0 : Int32) (0 : Int32) (2 : Int32) (4 : Int32) (2 : Int32) = (0 : Int32) := own_tm0 (by decide)
  have t3 : own_term q (6 : Int32) (0 : Int32) (0 : Int32) (2 : Int32) (4 : Int32) (3 : Int32) = (0 : Int32) := own_tm0 (by decide)
  have t4 : own_term q (6 : Int32) (0 : Int32) (0 : Int32) (2 : Int32) (4 : Int32) (4 : Int32) = (0 : Int32) := own_tm0 (by decide)
  have t5 : own_term q (6 : Int32) (0 : Int32) (0 : Int32) (2 : Int32) (4 : Int32) (5 : Int32) = (0 : Int32) := own_tm0 (by decide)
  have t6 : own_term q (6 : Int32) (0 : Int32) (0 : Int32) (2 : Int32) (4 : Int32) (6 : Int32) = (0 : Int32) := own_tm0 (by decide)
  have t7 : own_term q (6 : Int32) (0 : Int32) (0 : Int32) (2 : Int32) (4 : Int32) (7 : Int32) = (0 : Int32) := own_tm0 (by decide)
  unfold own_pin
  rw [show ((0 : Int32) / ((((6 : Int32) * (4 : Int32)) + (7 : Int32)) / (8 : Int32))) = (0 : Int32) from by decide, show ((0 : Int32) % ((((6 : Int32) * (4 : Int32)) + (7 : Int32)) / (8 : Int32))) = (0 : Int32) from by decide, show ((8 : Int32) / (4 : Int32)) = (2 : Int32) from by decide, t0, t1, t2, t3, t4, t5, t6, t7]
theorem own_c4_6_0_1 (q : Int64) : own_pin q (6 : Int32) (4 : Int32) (1 : Int32) = ((((((((((own_idx q (4 : Int32) (2 : Int32)) <<< ((4 : Int32) &&& 31)) ||| ((own_idx q (4 : Int32) (3 : Int32)) <<< ((0 : Int32) &&& 31))) ||| (0 : Int32)) ||| (0 : Int32)) ||| (0 : Int32)) ||| (0 : Int32)) ||| (0 : Int32)) ||| (0 : Int32)).toInt8.toInt32) := by
  have t0 : own_term q (6 : Int32) (0 : Int32) (1 : Int32) (2 : Int32) (4 : Int32) (0 : Int32) = ((own_idx q (4 : Int32) (2 : Int32)) <<< ((4 : Int32) &&& 31)) := by
    rw [own_tm1 (by decide) (by decide), show (((0 : Int32) * (6 : Int32)) + (((1 : Int32) * (2 : Int32)) + (0 : Int32))) = (2 : Int32) from by decide, show ((8 : Int32) - ((4 : Int32) * ((0 : Int32) + (1 : Int32)))) = (4 : Int32) from by decide]
  have t1 : own_term q (6 : Int32) (0 : Int32) (1 : Int32) (2 : Int32) (4 : Int32) (1 : Int32) = ((own_idx q (4 : Int32) (3 : Int32)) <<< ((0 : Int32) &&& 31)) := by
    rw [own_tm1 (by decide) (by decide), show (((0 : Int32) * (6 : Int32)) + (((1 : Int32) * (2 : Int32)) + (1 : Int32))) = (3 : Int32) from by decide, show ((8 : Int32) - ((4 : Int32) * ((1 : Int32) + (1 : Int32)))) = (0 : Int32) from by decide]
  have t2 : own_term q (6 : Int32) (0 : Int32) (1 : Int32) (2 : Int32) (4 : Int32) (2 : Int32) = (0 : Int32) := own_tm0 (by decide)
  have t3 : own_term q (6 : Int32) (0 : Int32) (1 : Int32) (2 : Int32) (4 : Int32) (3 : Int32) = (0 : Int32) := own_tm0 (by decide)
  have t4 : own_term q (6 : Int32) (0 : Int32) (1 : Int32) (2 : Int32) (4 : Int32) (4 : Int32) = (0 : Int32) := own_tm0 (by decide)
  have t5 : own_term q (6 : Int32) (0 : Int32) (1 : Int32) (2 : Int32) (4 : Int32) (5 : Int32) = (0 : Int32) := own_tm0 (by decide)
  have t6 : own_term q (6 : Int32) (0 : Int32) (1 : Int32) (2 : Int32) (4 : Int32) (6 : Int32) = (0 : Int32) := own_tm0 (by decide)
  have t7 : own_term q (6 : Int32) (0 : Int32) (1 : Int32) (2 : Int32) (4 : Int32) (7 : Int32) = (0 : Int32) := own_tm0 (by decide)
  unfold own_pin
  rw [show ((1 : Int32) / ((((6 : Int32) * (4 : Int32)) + (7 : Int32)) / (8 : Int32))) = (0 : Int32) from by decide, show ((1 : Int32) % ((((6 : Int32) * (4 : Int32)) + (7 : Int32)) / (8 : Int32))) = (1 : Int32) from by decide, show ((8 : Int32) / (4 : Int32)) = (2 : Int32) from by decide, t0, t1, t2, t3, t4, t5, t6, t7]
theorem own_c4_6_0_2 (q : Int64) : own_pin q (6 : Int32) (4 : Int32) (2 : Int32) = ((((((((((own_idx q (4 : Int32) (4 : Int32)) <<< ((4 : Int32) &&& 31)) ||| ((own_idx q (4 : Int32) (5 : Int32)) <<< ((0 : Int32) &&& 31))) ||| (0 : Int32)) ||| (0 : Int32)) ||| (0 : Int32)) ||| (0 : Int32)) ||| (0 : Int32)) ||| (0 : Int32)).toInt8.toInt32) := by
  have t0 : own_term q (6 : Int32) (0 : Int32) (2 : Int32) (2 : Int32) (4 : Int32) (0 : Int32) = ((own_idx q (4 : Int32) (4 : Int32)) <<< ((4 : Int32) &&& 31)) := by
    rw [own_tm1 (by decide) (by decide), show (((0 : Int32) * (6 : Int32)) + (((2 : Int32) * (2 : Int32)) + (0 : Int32))) = (4 : Int32) from by decide, show ((8 : Int32) - ((4 : Int32) * ((0 : Int32) + (1 : Int32)))) = (4 : Int32) from by decide]
  have t1 : own_term q (6 : Int32) (0 : Int32) (2 : Int32) (2 : Int32) (4 : Int32) (1 : Int32) = ((own_idx q (4 : Int32) (5 : Int32)) <<< ((0 : Int32) &&& 31)) := by
    rw [own_tm1 (by decide) (by decide), show (((0 : Int32) * (6 : Int32)) + (((2 : Int32) * (2 : Int32)) + (1 : Int32))) = (5 : Int32) from by decide, show ((8 : Int32) - ((4 : Int32) * ((1 : Int32) + (1 : Int32)))) = (0 : Int32) from by decide]
  have t2 : own_term q (6 : Int32) (0 : Int32) (2 : Int32) (2 : Int32) (4 : Int32) (2 : Int32) = (0 : Int32) := own_tm0 (by decide)
  have t3 : own_term q (6 : Int32) (0 : Int32) (2 : Int32) (2 : Int32) (4 : Int32) (3 : Int32) = (0 : Int32) := own_tm0 (by decide)
  have t4 : own_term q (6 : Int32) (0 : Int32) (2 : Int32) (2 : Int32) (4 : Int32) (4 : Int32) = (0 : Int32) := own_tm0 (by decide)
  have t5 : own_term q (6 : Int32) (0 : Int32) (2 : Int32) (2 : Int32) (4 : Int32) (5 : Int32) = (0 : Int32) := own_tm0 (by decide)
  have t6 : own_term q (6 : Int32) (0 : Int32) (2 : Int32) (2 : Int32) (4 : Int32) (6 : Int32) = (0 : Int32) := own_tm0 (by decide)
  have t7 : own_term q (6 : Int32) (0 : Int32) (2 : Int32) (2 : Int32) (4 : Int32) (7 : Int32) = (0 : Int32) := own_tm0 (by decide)
  unfold own_pin
  rw [show ((2 : Int32) / ((((6 : Int32) * (4 : Int32)) + (7 : Int32)) / (8 : Int32))) = (0 : Int32) from by decide, show ((2 : Int32) % ((((6 : Int32) * (4 : Int32)) + (7 : Int32)) / (8 : Int32))) = (2 : Int32) from by decide, show ((8 : Int32) / (4 : Int32)) = (2 : Int32) from by decide, t0, t1, t2, t3, t4, t5, t6, t7]
theorem own_c4_6_1_0 (q : Int64) : own_pin q (6 : Int32) (4 : Int32) (3 : Int32) = ((((((((((own_idx q (4 : Int32) (6 : Int32)) <<< ((4 : Int32) &&& 31)) ||| ((own_idx q (4 : Int32) (7 : Int32)) <<< ((0 : Int32) &&& 31))) ||| (0 : Int32)) ||| (0 : Int32)) ||| (0 : Int32)) ||| (0 : Int32)) ||| (0 : Int32)) ||| (0 : Int32)).toInt8.toInt32) := by
  have t0 : own_term q (6 : Int32) (1 : Int32) (0 : Int32) (2 : Int32) (4 : Int32) (0 : Int32) = ((own_idx q (4 : Int32) (6 : Int32)) <<< ((4 : Int32) &&& 31)) := by
    rw [own_tm1 (by decide) (by decide), show (((1 : Int32) * (6 : Int32)) + (((0 : Int32) * (2 : Int32)) + (0 : Int32))) = (6 : Int32) from by decide, show ((8 : Int32) - ((4 : Int32) * ((0 : Int32) + (1 : Int32)))) = (4 : Int32) from by decide]
  have t1 : own_term q (6 : Int32) (1 : Int32) (0 : Int32) (2 : Int32) (4 : Int32) (1 : Int32) = ((own_idx q (4 : Int32) (7 : Int32)) <<< ((0 : Int32) &&& 31)) := by
    rw [own_tm1 (by decide) (by decide), show (((1 : Int32) * (6 : Int32)) + (((0 : Int32) * (2 : Int32)) + (1 : Int32))) = (7 : Int32) from by decide, show ((8 : Int32) - ((4 : Int32) * ((1 : Int32) + (1 : Int32)))) = (0 : Int32) from by decide]
  have t2 : own_term q (6 : Int32) (1 : Int32) (0 : Int32) (2 : Int32) (4 : Int32) (2 : Int32) = (0 : Int32) := own_tm0 (by decide)
  have t3 : own_term q (6 : Int32) (1 : Int32) (0 : Int32) (2 : Int32) (4 : Int32) (3 : Int32) = (0 : Int32) := own_tm0 (by decide)
  have t4 : own_term q (6 : Int32) (1 : Int32) (0 : Int32) (2 : Int32) (4 : Int32) (4 : Int32) = (0 : Int32) := own_tm0 (by decide)
  have t5 : own_term q (6 : Int32) (1 : Int32) (0 : Int32) (2 : Int32) (4 : Int32) (5 : Int32) = (0 : Int32) := own_tm0 (by decide)
  have t6 : own_term q (6 : Int32) (1 : Int32) (0 : Int32) (2 : Int32) (4 : Int32) (6 : Int32) = (0 : Int32) := own_tm0 (by decide)
  have t7 : own_term q (6 : Int32) (1 : Int32) (0 : Int32) (2 : Int32) (4 : Int32) (7 : Int32) = (0 : Int32) := own_tm0 (by decide)
  unfold own_pin
  rw [show ((3 : Int32) / ((((6 : Int32) * (4 : Int32)) + (7 : Int32)) / (8 : Int32))) = (1 : Int32) from by decide, show ((3 : Int32) % ((((6 : Int32) * (4 : Int32)) + (7 : Int32)) / (8 : Int32))) = (0 : Int32) from by decide, show ((8 : Int32) / (4 : Int32)) = (2 : Int32) from by decide, t0, t1, t2, t3, t4, t5, t6, t7]
theorem own_c4_6_1_1 (q : Int64) : own_pin q (6 : Int32) (4 : Int32) (4 : Int32) = ((((((((((own_idx q (4 : Int32) (8 : Int32)) <<< ((4 : Int32) &&& 31)) ||| ((own_idx q (4 : Int32) (9 : Int32)) <<< ((0 : Int32) &&& 31))) ||| (0 : Int32)) ||| (0 : Int32)) ||| (0 : Int32)) ||| (0 : Int32)) ||| (0 : Int32)) ||| (0 : Int32)).toInt8.toInt32) := by
  have t0 : own_term q (6 : Int32) (1 : Int32) (1 : Int32) (2 : Int32) (4 : Int32) (0 : Int32) = ((own_idx q (4 : Int32) (8 : Int32)) <<< ((4 : Int32) &&& 31)) := by
    rw [own_tm1 (by decide) (by decide), show (((1 : Int32) * (6 : Int32)) + (((1 : Int32) * (2 : Int32)) + (0 : Int32))) = (8 : Int32) from by decide, show ((8 : Int32) - ((4 : Int32) * ((0 : Int32) + (1 : Int32)))) = (4 : Int32) from by decide]
  have t1 : own_term q (6 : Int32) (1 : Int32) (1 : Int32) (2 : Int32) (4 : Int32) (1 : Int32) = ((own_idx q (4 : Int32) (9 : Int32)) <<< ((0 : Int32) &&& 31)) := by
    rw [own_tm1 (by decide) (by decide), show (((1 : Int32) * (6 : Int32)) + (((1 : Int32) * (2 : Int32)) + (1 : Int32))) = (9 : Int32) from by decide, show ((8 : Int32) - ((4 : Int32) * ((1 : Int32) + (1 : Int32)))) = (0 : Int32) from by decide]
  have t2 : own_term q (6 : Int32) (1 : Int32) (1 : Int32) (2 : Int32) (4 : Int32) (2 : Int32) = (0 : Int32) := own_tm0 (by decide)
  have t3 : own_term q (6 : Int32) (1 : Int32) (1 : Int32) (2 : Int32) (4 : Int32) (3 : Int32) = (0 : Int32) := own_tm0 (by decide)
  have t4 : own_term q (6 : Int32) (1 : Int32) (1 : Int32) (2 : Int32) (4 : Int32) (4 : Int32) = (0 : Int32) := own_tm0 (by decide)
  have t5 : own_term q (6 : Int32) (1 : Int32) (1 : Int32) (2 : Int32) (4 : Int32) (5 : Int32) = (0 : Int32) := own_tm0 (by decide)
  have t6 : own_term q (6 : Int32) (1 : Int32) (1 : Int32) (2 : Int32) (4 : Int32) (6 : Int32) = (0 : Int32) := own_tm0 (by decide)
  have t7 : own_term q (6 : Int32) (1 : Int32) (1 : Int32) (2 : Int32) (4 : Int32) (7 : Int32) = (0 : Int32) := own_tm0 (by decide)
  unfold own_pin
  rw [show ((4 : Int32) / ((((6 : Int32) * (4 : Int32)) + (7 : Int32)) / (8 : Int32))) = (1 : Int32) from by decide, show ((4 : Int32) % ((((6 : Int32) * (4 : Int32)) + (7 : Int32)) / (8 : Int32))) = (1 : Int32) from by decide, show ((8 : Int32) / (4 : Int32)) = (2 : Int32) from by decide, t0, t1, t2, t3, t4, t5, t6, t7]
theorem own_c4_6_1_2 (q : Int64) : own_pin q (6 : Int32) (4 : Int32) (5 : Int32) = ((((((((((own_idx q (4 : Int32) (10 : Int32)) <<< ((4 : Int32) &&& 31)) ||| ((own_idx q (4 : Int32) (11 : Int32)) <<< ((0 : Int32) &&& 31))) ||| (0 : Int32)) ||| (0 : Int32)) ||| (0 : Int32)) ||| (0 : Int32)) ||| (0 : Int32)) ||| (0 : Int32)).toInt8.toInt32) := by
  have t0 : own_term q (6 : Int32) (1 : Int32) (2 : Int32) (2 : Int32) (4 : Int32) (0 : Int32) = ((own_idx q (4 : Int32) (10 : Int32)) <<< ((4 : Int32) &&& 31)) := by
    rw [own_tm1 (by decide) (by decide), show (((1 : Int32) * (6 : Int32)) + (((2 : Int32) * (2 : Int32)) + (0 : Int32))) = (10 : Int32) from by decide, show ((8 : Int32) - ((4 : Int32) * ((0 : Int32) + (1 : Int32)))) = (4 : Int32) from by decide]
  have t1 : own_term q (6 : Int32) (1 : Int32) (2 : Int32) (2 : Int32) (4 : Int32) (1 : Int32) = ((own_idx q (4 : Int32) (11 : Int32)) <<< ((0 : Int32) &&& 31)) := by
    rw [own_tm1 (by decide) (by decide), show (((1 : Int32) * (6 : Int32)) + (((2 : Int32) * (2 : Int32)) + (1 : Int32))) = (11 : Int32) from by decide, show ((8 : Int32) - ((4 : Int32) * ((1 : Int32) + (1 : Int32)))) = (0 : Int32) from by decide]
  have t2 : own_term q (6 : Int32) (1 : Int32) (2 : Int32) (2 : Int32) (4 : Int32) (2 : Int32) = (0 : Int32) := own_tm0 (by decide)
  have t3 : own_term q (6 : Int32) (1 : Int32) (2 : Int32) (2 : Int32) (4 : Int32) (3 : Int32) = (0 : Int32) := own_tm0 (by decide)
  have t4 : own_term q (6 : Int32) (1 : Int32) (2 : Int32) (2 : Int32) (4 : Int32) (4 : Int32) = (0 : Int32) := own_tm0 (by decide)
  have t5 : own_term q (6 : Int32) (1 : Int32) (2 : Int32) (2 : Int32) (4 : Int32) (5 : Int32) = (0 : Int32) := own_tm0 (by decide)
  have t6 : own_term q (6 : Int32) (1 : Int32) (2 : Int32) (2 : Int32) (4 : Int32) (6 : Int32) = (0 : Int32) := own_tm0 (by decide)
  have t7 : own_term q (6 : Int32) (1 : Int32) (2 : Int32) (2 : Int32) (4 : Int32) (7 : Int32) = (0 : Int32) := own_tm0 (by decide)
  unfold own_pin
  rw [show ((5 : Int32) / ((((6 : Int32) * (4 : Int32)) + (7 : Int32)) / (8 : Int32))) = (1 : Int32) from by decide, show ((5 : Int32) % ((((6 : Int32) * (4 : Int32)) + (7 : Int32)) / (8 : Int32))) = (2 : Int32) from by decide, show ((8 : Int32) / (4 : Int32)) = (2 : Int32) from by decide, t0, t1, t2, t3, t4, t5, t6, t7]
theorem own_c4_7_0_0 (q : Int64) : own_pin q (7 : Int32) (4 : Int32) (0 : Int32) = ((((((((((own_idx q (4 : Int32) (0 : Int32)) <<< ((4 : Int32) &&& 31)) ||| ((own_idx q (4 : Int32) (1 : Int32)) <<< ((0 : Int32) &&& 31))) ||| (0 : Int32)) ||| (0 : Int32)) ||| (0 : Int32)) ||| (0 : Int32)) ||| (0 : Int32)) ||| (0 : Int32)).toInt8.toInt32) := by
  have t0 : own_term q (7 : Int32) (0 : Int32) (0 : Int32) (2 : Int32) (4 : Int32) (0 : Int32) = ((own_idx q (4 : Int32) (0 : Int32)) <<< ((4 : Int32) &&& 31)) := by
    rw [own_tm1 (by decide) (by decide), show (((0 : Int32) * (7 : Int32)) + (((0 : Int32) * (2 : Int32)) + (0 : Int32))) = (0 : Int32) from by decide, show ((8 : Int32) - ((4 : Int32) * ((0 : Int32) + (1 : Int32)))) = (4 : Int32) from by decide]
  have t1 : own_term q (7 : Int32) (0 : Int32) (0 : Int32) (2 : Int32) (4 : Int32) (1 : Int32) = ((own_idx q (4 : Int32) (1 : Int32)) <<< ((0 : Int32) &&& 31)) := by
    rw [own_tm1 (by decide) (by decide), show (((0 : Int32) * (7 : Int32)) + (((0 : Int32) * (2 : Int32)) + (1 : Int32))) = (1 : Int32) from by decide, show ((8 : Int32) - ((4 : Int32) * ((1 : Int32) + (1 : Int32)))) = (0 : Int32) from by decide]
  have t2 : own_term q (7 : Int32) (0 : Int32) (0 : Int32) (2 : Int32) (4 : Int32) (2 : Int32) = (0 : Int32) := own_tm0 (by decide)
  have t3 : own_term q (7 : Int32) (0 : Int32) (0 : Int32) (2 : Int32) (4 : Int32) (3 : Int32) = (0 : Int32) := own_tm0 (by decide)
  have t4 : own_term q (7 : Int32) (0 : Int32) (0 : Int32) (2 : Int32) (4 : Int32) (4 : Int32) = (0 : Int32) := own_tm0 (by decide)
  have t5 : own_term q (7 : Int32) (0 : Int32) (0 : Int32) (2 : Int32) (4 : Int32) (5 : Int32) = (0 : Int32) := own_tm0 (by decide)
  have t6 : own_term q (7 : Int32) (0 : Int32) (0 : Int32) (2 : Int32) (4 : Int32) (6 : Int32) = (0 : Int32) := own_tm0 (by decide)
  have t7 : own_term q (7 : Int32) (0 : Int32) (0 : Int32) (2 : Int32) (4 : Int32) (7 : Int32) = (0 : Int32) := own_tm0 (by decide)
  unfold own_pin
  rw [show ((0 : Int32) / ((((7 : Int32) * (4 : Int32)) + (7 : Int32)) / (8 : Int32))) = (0 : Int32) from by decide, show ((0 : Int32) % ((((7 : Int32) * (4 : Int32)) + (7 : Int32)) / (8 : Int32))) = (0 : Int32) from by decide, show ((8 : Int32) / (4 : Int32)) = (2 : Int32) from by decide, t0, t1, t2, t3, t4, t5, t6, t7]
theorem own_c4_7_0_1 (q : Int64) : own_pin q (7 : Int32) (4 : Int32) (1 : Int32) = ((((((((((own_idx q (4 : Int32) (2 : Int32)) <<< ((4 : Int32) &&& 31)) ||| ((own_idx q (4 : Int32) (3 : Int32)) <<< ((0 : Int32) &&& 31))) ||| (0 : Int32)) ||| (0 : Int32)) ||| (0 : Int32)) ||| (0 : Int32)) ||| (0 : Int32)) ||| (0 : Int32)).toInt8.toInt32) := by
  have t0 : own_term q (7 : Int32) (0 : Int32) (1 : Int32) (2 : Int32) (4 : Int32) (0 : Int32) = ((own_idx q (4 : Int32) (2 : Int32)) <<< ((4 : Int32) &&& 31)) := by
    rw [own_tm1 (by decide) (by decide), show (((0 : Int32) * (7 : Int32)) + (((1 : Int32) * (2 : Int32)) + (0 : Int32))) = (2 : Int32) from by decide, show ((8 : Int32) - ((4 : Int32) * ((0 : Int32) + (1 : Int32)))) = (4 : Int32) from by decide]
  have t1 : own_term q (7 : Int32) (0 : Int32) (1 : Int32) (2 : Int32) (4 : Int32) (1 : Int32) = ((own_idx q (4 : Int32) (3 : Int32)) <<< ((0 : Int32) &&& 31)) := by
    rw [own_tm1 (by decide) (by decide), show (((0 : Int32) * (7 : Int32)) + (((1 : Int32) * (2 : Int32)) + (1 : Int32))) = (3 : Int32) from by decide, show ((8 : Int32) - ((4 : Int32) * ((1 : Int32) + (1 : Int32)))) = (0 : Int32) from by decide]
  have t2 : own_term q (7 : Int32) (0 : Int32) (1 : Int32) (2 : Int32) (4 : Int32) (2 : Int32) = (0 : Int32) := own_tm0 (by decide)
  have t3 : own_term q (7 : Int32) (0 : Int32) (1 : Int32) (2 : Int32) (4 : Int32) (3 : Int32) = (0 : Int32) := own_tm0 (by decide)
  have t4 : own_term q (7 : Int32) (0 : Int32) (1 : Int32) (2 : Int32) (4 : Int32) (4 : Int32) = (0 : Int32) := own_tm0 (by decide)
  have t5 : own_term q (7 : Int32) (0 : Int32) (1 : Int32) (2 : Int32) (4 : Int32) (5 : Int32) = (0 : Int32) := own_tm0 (by decide)
  have t6 : own_term q (7 : Int32) (0 : Int32) (1 : Int32) (2 : Int32) (4 : Int32) (6 : Int32) = (0 : Int32) := own_tm0 (by decide)
  have t7 : own_term q (7 : Int32) (0 : Int32) (1 : Int32) (2 : Int32) (4 : Int32) (7 : Int32) = (0 : Int32) := own_tm0 (by decide)
  unfold own_pin
  rw [show ((1 : Int32) / ((((7 : Int32) * (4 : Int32)) + (7 : Int32)) / (8 : Int32))) = (0 : Int32) from by decide, show ((1 : Int32) % ((((7 : Int32) * (4 : Int32)) + (7 : Int32)) / (8 : Int32))) = (1 : Int32) from by decide, show ((8 : Int32) / (4 : Int32)) = (2 : Int32) from by decide, t0, t1, t2, t3, t4, t5, t6, t7]
theorem own_c4_7_0_2 (q : Int64) : own_pin q (7 : Int32) (4 : Int32) (2 : Int32) = ((((((((((own_idx q (4 : Int32) (4 : Int32)) <<< ((4 : Int32) &&& 31)) ||| ((own_idx q (4 : Int32) (5 : Int32)) <<< ((0 : Int32) &&& 31))) ||| (0 : Int32)) ||| (0 : Int32)) ||| (0 : Int32)) ||| (0 : Int32)) ||| (0 : Int32)) ||| (0 : Int32)).toInt8.toInt32) := by
  have t0 : own_term q (7 : Int32) (0 : Int32) (2 : Int32) (2 : Int32) (4 : Int32) (0 : Int32) = ((own_idx q (4 : Int32) (4 : Int32)) <<< ((4 : Int32) &&& 31)) := by
    rw [own_tm1 (by decide) (by decide), show (((0 : Int32) * (7 : Int32)) + (((2 : Int32) * (2 : Int32)) + (0 : Int32))) = (4 : Int32) from by decide, show ((8 : Int32) - ((4 : Int32) * ((0 : Int32) + (1 : Int32)))) = (4 : Int32) from by decide]
  have t1 : own_term q (7 : Int32) (0 : Int32) (2 : Int32) (2 : Int32) (4 : Int32) (1 : Int32) = ((own_idx q (4 : Int32) (5 : Int32)) <<< ((0 : Int32) &&& 31)) := by
    rw [own_tm1 (by decide) (by decide), show (((0 : Int32) * (7 : Int32)) + (((2 : Int32) * (2 : Int32)) + (1 : Int32))) = (5 : Int32) from by decide, show ((8 : Int32) - ((4 : Int32) * ((1 : Int32) + (1 : Int32)))) = (0 : Int32) from by decide]
  have t2 : own_term q (7 : Int32) (0 : Int32) (2 : Int32) (2 : Int32) (4 : Int32) (2 : Int32) = (0 : Int32) := own_tm0 (by decide)
  have t3 : own_term q (7 : Int32) (0 : Int32) (2 : Int32) (2 : Int32) (4 : Int32) (3 : Int32) = (0 : Int32) := own_tm0 (by decide)
  have t4 : own_term q (7 : Int32) (0 : Int32) (2 : Int32) (2 : Int32) (4 : Int32) (4 : Int32) = (0 : Int32) := own_tm0 (by decide)
  have t5 : own_term q (7 : Int32) (0 : Int32) (2 : Int32) (2 : Int32) (4 : Int32) (5 : Int32) = (0 : Int32) := own_tm0 (by decide)
  have t6 : own_term q (7 : Int32) (0 : Int32) (2 : Int32) (2 : Int32) (4 : Int32) (6 : Int32) = (0 : Int32) := own_tm0 (by decide)
  have t7 : own_term q (7 : Int32) (0 : Int32) (2 : Int32) (2 : Int32) (4 : Int32) (7 : Int32) = (0 : Int32) := own_tm0 (by decide)
  unfold own_pin
  rw [show ((2 : Int32) / ((((7 : Int32) * (4 : Int32)) + (7 : Int32)) / (8 : Int32))) = (0 : Int32) from by decide, show ((2 : Int32) % ((((7 : Int32) * (4 : Int32)) + (7 : Int32)) / (8 : Int32))) = (2 : Int32) from by decide, show ((8 : Int32) / (4 : Int32)) = (2 : Int32) from by decide, t0, t1, t2, t3, t4, t5, t6, t7]
theorem own_c4_7_0_3 (q : Int64) : own_pin q (7 : Int32) (4 : Int32) (3 : Int32) = ((((((((((own_idx q (4 : Int32) (6 : Int32)) <<< ((4 : Int32) &&& 31)) ||| (0 : Int32)) ||| (0 : Int32)) ||| (0 : Int32)) ||| (0 : Int32)) ||| (0 : Int32)) ||| (0 : Int32)) ||| (0 : Int32)).toInt8.toInt32) := by
  have t0 : own_term q (7 : Int32) (0 : Int32) (3 : Int32) (2 : Int32) (4 : Int32) (0 : Int32) = ((own_idx q (4 : Int32) (6 : Int32)) <<< ((4 : Int32) &&& 31)) := by
    rw [own_tm1 (by decide) (by decide), show (((0 : Int32) * (7 : Int32)) + (((3 : Int32) * (2 : Int32)) + (0 : Int32))) = (6 : Int32) from by decide, show ((8 : Int32) - ((4 : Int32) * ((0 : Int32) + (1 : Int32)))) = (4 : Int32) from by decide]
  have t1 : own_term q (7 : Int32) (0 : Int32) (3 : Int32) (2 : Int32) (4 : Int32) (1 : Int32) = (0 : Int32) := own_tm2 (by decide) (by decide)
  have t2 : own_term q (7 : Int32) (0 : Int32) (3 : Int32) (2 : Int32) (4 : Int32) (2 : Int32) = (0 : Int32) := own_tm0 (by decide)
  have t3 : own_term q (7 : Int32) (0 : Int32) (3 : Int32) (2 : Int32) (4 : Int32) (3 : Int32) = (0 : Int32) := own_tm0 (by decide)
  have t4 : own_term q (7 : Int32) (0 : Int32) (3 : Int32) (2 : Int32) (4 : Int32) (4 : Int32) = (0 : Int32) := own_tm0 (by decide)
  have t5 : own_term q (7 : Int32) (0 : Int32) (3 : Int32) (2 : Int32) (4 : Int32) (5 : Int32) = (0 : Int32) := own_tm0 (by decide)
  have t6 : own_term q (7 : Int32) (0 : Int32) (3 : Int32) (2 : Int32) (4 : Int32) (6 : Int32) = (0 : Int32) := own_tm0 (by decide)
  have t7 : own_term q (7 : Int32) (0 : Int32) (3 : Int32) (2 : Int32) (4 : Int32) (7 : Int32) = (0 : Int32) := own_tm0 (by decide)
  unfold own_pin
  rw [show ((3 : Int32) / ((((7 : Int32) * (4 : Int32)) + (7 : Int32)) / (8 : Int32))) = (0 : Int32) from by decide, show ((3 : Int32) % ((((7 : Int32) * (4 : Int32)) + (7 : Int32)) / (8 : Int32))) = (3 : Int32) from by decide, show ((8 : Int32) / (4 : Int32)) = (2 : Int32) from by decide, t0, t1, t2, t3, t4, t5, t6, t7]
theorem own_c4_7_1_0 (q : Int64) : own_pin q (7 : Int32) (4 : Int32) (4 : Int32) = ((((((((((own_idx q (4 : Int32) (7 : Int32)) <<< ((4 : Int32) &&& 31)) ||| ((own_idx q (4 : Int32) (8 : Int32)) <<< ((0 : Int32) &&& 31))) ||| (0 : Int32)) ||| (0 : Int32)) ||| (0 : Int32)) ||| (0 : Int32)) ||| (0 : Int32)) ||| (0 : Int32)).toInt8.toInt32) := by
  have t0 : own_term q (7 : Int32) (1 : Int32) (0 : Int32) (2 : Int32) (4 : Int32) (0 : Int32) = ((own_idx q (4 : Int32) (7 : Int32)) <<< ((4 : Int32) &&& 31)) := by
    rw [own_tm1 (by decide) (by decide), show (((1 : Int32) * (7 : Int32)) + (((0 : Int32) * (2 : Int32)) + (0 : Int32))) = (7 : Int32) from by decide, show ((8 : Int32) - ((4 : Int32) * ((0 : Int32) + (1 : Int32)))) = (4 : Int32) from by decide]
  have t1 : own_term q (7 : Int32) (1 : Int32) (0 : Int32) (2 : Int32) (4 : Int32) (1 : Int32) = ((own_idx q (4 : Int32) (8 : Int32)) <<< ((0 : Int32) &&& 31)) := by
    rw [own_tm1 (by decide) (by decide), show (((1 : Int32) * (7 : Int32)) + (((0 : Int32) * (2 : Int32)) + (1 : Int32))) = (8 : Int32) from by decide, show ((8 : Int32) - ((4 : Int32) * ((1 : Int32) + (1 : Int32)))) = (0 : Int32) from by decide]
  have t2 : own_term q (7 : Int32) (1 : Int32) (0 : Int32) (2 : Int32) (4 : Int32) (2 : Int32) = (0 : Int32) := own_tm0 (by decide)
  have t3 : own_term q (7 : Int32) (1 : Int32) (0 : Int32) (2 : Int32) (4 : Int32) (3 : Int32) = (0 : Int32) := own_tm0 (by decide)
  have t4 : own_term q (7 : Int32) (1 : Int32) (0 : Int32) (2 : Int32) (4 : Int32) (4 : Int32) = (0 : Int32) := own_tm0 (by decide)
  have t5 : own_term q (7 : Int32) (1 : Int32) (0 : Int32) (2 : Int32) (4 : Int32) (5 : Int32) = (0 : Int32) := own_tm0 (by decide)
  have t6 : own_term q (7 : Int32) (1 : Int32) (0 : Int32) (2 : Int32) (4 : Int32) (6 : Int32) = (0 : Int32) := own_tm0 (by decide)
  have t7 : own_term q (7 : Int32) (1 : Int32) (0 : Int32) (2 : Int32) (4 : Int32) (7 : Int32) = (0 : Int32) := own_tm0 (by decide)
  unfold own_pin
  rw [show ((4 : Int32) / ((((7 : Int32) * (4 : Int32)) + (7 : Int32)) / (8 : Int32))) = (1 : Int32) from by decide, show ((4 : Int32) % ((((7 : Int32) * (4 : Int32)) + (7 : Int32)) / (8 : Int32))) = (0 : Int32) from by decide, show ((8 : Int32) / (4 : Int32)) = (2 : Int32) from by decide, t0, t1, t2, t3, t4, t5, t6, t7]
theorem own_c4_7_1_1 (q : Int64) : own_pin q (7 : Int32) (4 : Int32) (5 : Int32) = ((((((((((own_idx q (4 : Int32) (9 : Int32)) <<< ((4 : Int32) &&& 31)) ||| ((own_idx q (4 : Int32) (10 : Int32)) <<< ((0 : Int32) &&& 31))) ||| (0 : Int32)) ||| (0 : Int32)) ||| (0 : Int32)) ||| (0 : Int32)) ||| (0 : Int32)) ||| (0 : Int32)).toInt8.toInt32) := by
  have t0 : own_term q (7 : Int32) (1 : Int32) (1 : Int32) (2 : Int32) (4 : Int32) (0 : Int32) = ((own_idx q (4 : Int32) (9 : Int32)) <<< ((4 : Int32) &&& 31)) := by
    rw [own_tm1 (by decide) (by decide), show (((1 : Int32) * (7 : Int32)) + (((1 : Int32) * (2 : Int32)) + (0 : Int32))) = (9 : Int32) from by decide, show ((8 : Int32) - ((4 : Int32) * ((0 : Int32) + (1 : Int32)))) = (4 : Int32) from by decide]
  have t1 : own_term q (7 : Int32) (1 : Int32) (1 : Int32) (2 : Int32) (4 : Int32) (1 : Int32) = ((own_idx q (4 : Int32) (10 : Int32)) <<< ((0 : Int32) &&& 31)) := by
    rw [own_tm1 (by decide) (by decide), show (((1 : Int32) * (7 : Int32)) + (((1 : Int32) * (2 : Int32)) + (1 : Int32))) = (10 : Int32) from by decide, show ((8 : Int32) - ((4 : Int32) * ((1 : Int32) + (1 : Int32)))) = (0 : Int32) from by decide]
  have t2 : own_term q (7 : Int32) (1 : Int32) (1 : Int32) (2 : Int32) (4 : Int32) (2 : Int32) = (0 : Int32) := own_tm0 (by decide)
  have t3 : own_term q (7 : Int32) (1 : Int32) (1 : Int32) (2 : Int32) (4 : Int32) (3 : Int32) = (0 : Int32) := own_tm0 (by decide)
  have t4 : own_term q (7 : Int32) (1 : Int32) (1 : Int32) (2 : Int32) (4 : Int32) (4 : Int32) = (0 : Int32) := own_tm0 (by decide)
  have t5 : own_term q (7 : Int32) (1 : Int32) (1 : Int32) (2 : Int32) (4 : Int32) (5 : Int32) = (0 : Int32) := own_tm0 (by decide)
  have t6 : own_term q (7 : Int32) (1 : Int32) (1 : Int32) (2 : Int32) (4 : Int32) (6 : Int32) = (0 : Int32) := own_tm0 (by decide)
  have t7 : own_term q (7 : Int32) (1 : Int32) (1 : Int32) (2 : Int32) (4 : Int32) (7 : Int32) = (0 : Int32) := own_tm0 (by decide)
  unfold own_pin
  rw [show ((5 : Int32) / ((((7 : Int32) * (4 : Int32)) + (7 : Int32)) / (8 : Int32))) = (1 : Int32) from by decide, show ((5 : Int32) % ((((7 : Int32) * (4 : Int32)) + (7 : Int32)) / (8 : Int32))) = (1 : Int32) from by decide, show ((8 : Int32) / (4 : Int32)) = (2 : Int32) from by decide, t0, t1, t2, t3, t4, t5, t6, t7]
theorem own_c4_7_1_2 (q : Int64) : own_pin q (7 : Int32) (4 : Int32) (6 : Int32) = ((((((((((own_idx q (4 : Int32) (11 : Int32)) <<< ((4 : Int32) &&& 31)) ||| ((own_idx q (4 : Int32) (12 : Int32)) <<< ((0 : Int32) &&& 31))) ||| (0 : Int32)) ||| (0 : Int32)) ||| (0 : Int32)) ||| (0 : Int32)) ||| (0 : Int32)) ||| (0 : Int32)).toInt8.toInt32) := by
  have t0 : own_term q (7 : Int32) (1 : Int32) (2 : Int32) (2 : Int32) (4 : Int32) (0 : Int32) = ((own_idx q (4 : Int32) (11 : Int32)) <<< ((4 : Int32) &&& 31)) := by
    rw [own_tm1 (by decide) (by decide), show (((1 : Int32) * (7 : Int32)) + (((2 : Int32) * (2 : Int32)) + (0 : Int32))) = (11 : Int32) from by decide, show ((8 : Int32) - ((4 : Int32) * ((0 : Int32) + (1 : Int32)))) = (4 : Int32) from by decide]
  have t1 : own_term q (7 : Int32) (1 : Int32) (2 : Int32) (2 : Int32) (4 : Int32) (1 : Int32) = ((own_idx q (4 : Int32) (12 : Int32)) <<< ((0 : Int32) &&& 31)) := by
    rw [own_tm1 (by decide) (by decide), show (((1 : Int32) * (7 : Int32)) + (((2 : Int32) * (2 : Int32)) + (1 : Int32))) = (12 : Int32) from by decide, show ((8 : Int32) - ((4 : Int32) * ((1 : Int32) + (1 : Int32)))) = (0 : Int32) from by decide]
  have t2 : own_term q (7 : Int32) (1 : Int32) (2 : Int32) (2 : Int32) (4 : Int32) (2 : Int32) = (0 : Int32) := own_tm0 (by decide)
  have t3 : own_term q (7 : Int32) (1 : Int32) (2 : Int32) (2 : Int32) (4 : Int32) (3 : Int32) = (0 : Int32) := own_tm0 (by decide)
  have t4 : own_term q (7 : Int32) (1 : Int32) (2 : Int32) (2 : Int32) (4 : Int32) (4 : Int32) = (0 : Int32) := own_tm0 (by decide)
  have t5 : own_term q (7 : Int32) (1 : Int32) (2 : Int32) (2 : Int32) (4 : Int32) (5 : Int32) = (0 : Int32) := own_tm0 (by decide)
  have t6 : own_term q (7 : Int32) (1 : Int32) (2 : Int32) (2 : Int32) (4 : Int32) (6 : Int32) = (0 : Int32) := own_tm0 (by decide)
  have t7 : own_term q (7 : Int32) (1 : Int32) (2 : Int32) (2 : Int32) (4 : Int32) (7 : Int32) = (0 : Int32) := own_tm0 (by decide)
  unfold own_pin
  rw [show ((6 : Int32) / ((((7 : Int32) * (4 : Int32)) + (7 : Int32)) / (8 : Int32))) = (1 : Int32) from by decide, show ((6 : Int32) % ((((7 : Int32) * (4 : Int32)) + (7 : Int32)) / (8 : Int32))) = (2 : Int32) from by decide, show ((8 : Int32) / (4 : Int32)) = (2 : Int32) from by decide, t0, t1, t2, t3, t4, t5, t6, t7]
theorem own_c4_7_1_3 (q : Int64) : own_pin q (7 : Int32) (4 : Int32) (7 : Int32) = ((((((((((own_idx q (4 : Int32) (13 : Int32)) <<< ((4 : Int32) &&& 31)) ||| (0 : Int32)) ||| (0 : Int32)) ||| (0 : Int32)) ||| (0 : Int32)) ||| (0 : Int32)) ||| (0 : Int32)) ||| (0 : Int32)).toInt8.toInt32) := by
  have t0 : own_term q (7 : Int32) (1 : Int32) (3 : Int32) (2 : Int32) (4 : Int32) (0 : Int32) = ((own_idx q (4 : Int32) (13 : Int32)) <<< ((4 : Int32) &&& 31)) := by
    rw [own_tm1 (by decide) (by decide), show (((1 : Int32) * (7 : Int32)) + (((3 : Int32) * (2 : Int32)) + (0 : Int32))) = (13 : Int32) from by decide, show ((8 : Int32) - ((4 : Int32) * ((0 : Int32) + (1 : Int32)))) = (4 : Int32) from by decide]
  have t1 : own_term q (7 : Int32) (1 : Int32) (3 : Int32) (2 : Int32) (4 : Int32) (1 : Int32) = (0 : Int32) := own_tm2 (by decide) (by decide)
  have t2 : own_term q (7 : Int32) (1 : Int32) (3 : Int32) (2 : Int32) (4 : Int32) (2 : Int32) = (0 : Int32) := own_tm0 (by decide)
  have t3 : own_term q (7 : Int32) (1 : Int32) (3 : Int32) (2 : Int32) (4 : Int32) (3 : Int32) = (0 : Int32) := own_tm0 (by decide)
  have t4 : own_term q (7 : Int32) (1 : Int32) (3 : Int32) (2 : Int32) (4 : Int32) (4 : Int32) = (0 : Int32) := own_tm0 (by decide)
  have t5 : own_term q (7 : Int32) (1 : Int32) (3 : Int32) (2 : Int32) (4 : Int32) (5 : Int32) = (0 : Int32) := own_tm0 (by decide)
  have t6 : own_term q (7 : Int32) (1 : Int32) (3 : Int32) (2 : Int32) (4 : Int32) (6 : Int32) = (0 : Int32) := own_tm0 (by decide)
  have t7 : own_term q (7 : Int32) (1 : Int32) (3 : Int32) (2 : Int32) (4 : Int32) (7 : Int32) = (0 : Int32) := own_tm0 (by decide)
  unfold own_pin
  rw [show ((7 : Int32) / ((((7 : Int32) * (4 : Int32)) + (7 : Int32)) / (8 : Int32))) = (1 : Int32) from by decide, show ((7 : Int32) % ((((7 : Int32) * (4 : Int32)) + (7 : Int32)) / (8 : Int32))) = (3 : Int32) from by decide, show ((8 : Int32) / (4 : Int32)) = (2 : Int32) from by decide, t0, t1, t2, t3, t4, t5, t6, t7]
theorem own_c4_8_0_0 (q : Int64) : own_pin q (8 : Int32) (4 : Int32) (0 : Int32) = ((((((((((own_idx q (4 : Int32) (0 : Int32)) <<< ((4 : Int32) &&& 31)) ||| ((own_idx q (4 : Int32) (1 : Int32)) <<< ((0 : Int32) &&& 31))) ||| (0 : Int32)) ||| (0 : Int32)) ||| (0 : Int32)) ||| (0 : Int32)) ||| (0 : Int32)) ||| (0 : Int32)).toInt8.toInt32) := by
  have t0 : own_term q (8 : Int32) (0 : Int32) (0 : Int32) (2 : Int32) (4 : Int32) (0 : Int32) = ((own_idx q (4 : Int32) (0 : Int32)) <<< ((4 : Int32) &&& 31)) := by
    rw [own_tm1 (by decide) (by decide), show (((0 : Int32) * (8 : Int32)) + (((0 : Int32) * (2 : Int32)) + (0 : Int32))) = (0 : Int32) from by decide, show ((8 : Int32) - ((4 : Int32) * ((0 : Int32) + (1 : Int32)))) = (4 : Int32) from by decide]
  have t1 : own_term q (8 : Int32) (0 : Int32) (0 : Int32) (2 : Int32) (4 : Int32) (1 : Int32) = ((own_idx q (4 : Int32) (1 : Int32)) <<< ((0 : Int32) &&& 31)) := by
    rw [own_tm1 (by decide) (by decide), show (((0 : Int32) * (8 : Int32)) + (((0 : Int32) * (2 : Int32)) + (1 : Int32))) = (1 : Int32) from by decide, show ((8 : Int32) - ((4 : Int32) * ((1 : Int32) + (1 : Int32)))) = (0 : Int32) from by decide]
  have t2 : own_term q (8 : Int32) (0 : Int32) (0 : Int32) (2 : Int32) (4 : Int32) (2 : Int32) = (0 : Int32) := own_tm0 (by decide)
  have t3 : own_term q (8 : Int32) (0 : Int32) (0 : Int32) (2 : Int32) (4 : Int32) (3 : Int32) = (0 : Int32) := own_tm0 (by decide)
  have t4 : own_term q (8 : Int32) (0 : Int32) (0 : Int32) (2 : Int32) (4 : Int32) (4 : Int32) = (0 : Int32) := own_tm0 (by decide)
  have t5 : own_term q (8 : Int32) (0 : Int32) (0 : Int32) (2 : Int32) (4 : Int32) (5 : Int32) = (0 : Int32) := own_tm0 (by decide)
  have t6 : own_term q (8 : Int32) (0 : Int32) (0 : Int32) (2 : Int32) (4 : Int32) (6 : Int32) = (0 : Int32) := own_tm0 (by decide)
  have t7 : own_term q (8 : Int32) (0 : Int32) (0 : Int32) (2 : Int32) (4 : Int32) (7 : Int32) = (0 : Int32) := own_tm0 (by decide)
  unfold own_pin
  rw [show ((0 : Int32) / ((((8 : Int32) * (4 : Int32)) + (7 : Int32)) / (8 : Int32))) = (0 : Int32) from by decide, show ((0 : Int32) % ((((8 : Int32) * (4 : Int32)) + (7 : Int32)) / (8 : Int32))) = (0 : Int32) from by decide, show ((8 : Int32) / (4 : Int32)) = (2 : Int32) from by decide, t0, t1, t2, t3, t4, t5, t6, t7]
theorem own_c4_8_0_1 (q : Int64) : own_pin q (8 : Int32) (4 : Int32) (1 : Int32) = ((((((((((own_idx q (4 : Int32) (2 : Int32)) <<< ((4 : Int32) &&& 31)) ||| ((own_idx q (4 : Int32) (3 : Int32)) <<< ((0 : Int32) &&& 31))) ||| (0 : Int32)) ||| (0 : Int32)) ||| (0 : Int32)) ||| (0 : Int32)) ||| (0 : Int32)) ||| (0 : Int32)).toInt8.toInt32) := by
  have t0 : own_term q (8 : Int32) (0 : Int32) (1 : Int32) (2 : Int32) (4 : Int32) (0 : Int32) = ((own_idx q (4 : Int32) (2 : Int32)) <<< ((4 : Int32) &&& 31)) := by
    rw [own_tm1 (by decide) (by decide), show (((0 : Int32) * (8 : Int32)) + (((1 : Int32) * (2 : Int32)) + (0 : Int32))) = (2 : Int32) from by decide, show ((8 : Int32) - ((4 : Int32) * ((0 : Int32) + (1 : Int32)))) = (4 : Int32) from by decide]
  have t1 : own_term q (8 : Int32) (0 : Int32) (1 : Int32) (2 : Int32) (4 : Int32) (1 : Int32) = ((own_idx q (4 : Int32) (3 : Int32)) <<< ((0 : Int32) &&& 31)) := by
    rw [own_tm1 (by decide) (by decide), show (((0 : Int32) * (8 : Int32)) + (((1 : Int32) * (2 : Int32)) + (1 : Int32))) = (3 : Int32) from by decide, show ((8 : Int32) - ((4 : Int32) * ((1 : Int32) + (1 : Int32)))) = (0 : Int32) from by decide]
  have t2 : own_term q (8 : Int32) (0 : Int32) (1 : Int32) (2 : Int32) (4 : Int32) (2 : Int32) = (0 : Int32) := own_tm0 (by decide)
  have t3 : own_term q (8 : Int32) (0 : Int32) (1 : Int32) (2 : Int32) (4 : Int32) (3 : Int32) = (0 : Int32) := own_tm0 (by decide)
  have t4 : own_term q (8 : Int32) (0 : Int32) (1 : Int32) (2 : Int32) (4 : Int32) (4 : Int32) = (0 : Int32) := own_tm0 (by decide)
  have t5 : own_term q (8 : Int32) (0 : Int32) (1 : Int32) (2 : Int32) (4 : Int32) (5 : Int32) = (0 : Int32) := own_tm0 (by decide)
  have t6 : own_term q (8 : Int32) (0 : Int32) (1 : Int32) (2 : Int32) (4 : Int32) (6 : Int32) = (0 : Int32) := own_tm0 (by decide)
  have t7 : own_term q (8 : Int32) (0 : Int32) (1 : Int32) (2 : Int32) (4 : Int32) (7 : Int32) = (0 : Int32) := own_tm0 (by decide)
  unfold own_pin
  rw [show ((1 : Int32) / ((((8 : Int32) * (4 : Int32)) + (7 : Int32)) / (8 : Int32))) = (0 : Int32) from by decide, show ((1 : Int32) % ((((8 : Int32) * (4 : Int32)) + (7 : Int32)) / (8 : Int32))) = (1 : Int32) from by decide, show ((8 : Int32) / (4 : Int32)) = (2 : Int32) from by decide, t0, t1, t2, t3, t4, t5, t6, t7]
theorem own_c4_8_0_2 (q : Int64) : own_pin q (8 : Int32) (4 : Int32) (2 : Int32) = ((((((((((own_idx q (4 : Int32) (4 : Int32)) <<< ((4 : Int32) &&& 31)) ||| ((own_idx q (4 : Int32) (5 : Int32)) <<< ((0 : Int32) &&& 31))) ||| (0 : Int32)) ||| (0 : Int32)) ||| (0 : Int32)) ||| (0 : Int32)) ||| (0 : Int32)) ||| (0 : Int32)).toInt8.toInt32) := by
  have t0 : own_term q (8 : Int32) (0 : Int32) (2 : Int32) (2 : Int32) (4 : Int32) (0 : Int32) = ((own_idx q (4 : Int32) (4 : Int32)) <<< ((4 : Int32) &&& 31)) := by
    rw [own_tm1 (by decide) (by decide), show (((0 : Int32) * (8 : Int32)) + (((2 : Int32) * (2 : Int32)) + (0 : Int32))) = (4 : Int32) from by decide, show ((8 : Int32) - ((4 : Int32) * ((0 : Int32) + (1 : Int32)))) = (4 : Int32) from by decide]
  have t1 : own_term q (8 : Int32) (0 : Int32) (2 : Int32) (2 : Int32) (4 : Int32) (1 : Int32) = ((own_idx q (4 : Int32) (5 : Int32)) <<< ((0 : Int32) &&& 31)) := by
    rw [own_tm1 (by decide) (by decide), show (((0 : Int32) * (8 : Int32)) + (((2 : Int32) * (2 : Int32)) + (1 : Int32))) = (5 : Int32) from by decide, show ((8 : Int32) - ((4 : Int32) * ((1 : Int32) + (1 : Int32)))) = (0 : Int32) from by decide]
  have t2 : own_term q (8 : Int32) (0 : Int32) (2 : Int32) (2 : Int32) (4 : Int32) (2 : Int32) = (0 : Int32) := own_tm0 (by decide)
  have t3 : own_term q (8 : Int32) (0 : Int32) (2 : Int32) (2 : Int32) (4 : Int32) (3 : Int32) = (0 : Int32) := own_tm0 (by decide)
  have t4 : own_term q (8 : Int32) (0 : Int32) (2 : Int32) (2 : Int32) (4 : Int32) (4 : Int32) = (0 : Int32) := own_tm0 (by decide)
  have t5 : own_term q (8 : Int32) (0 : Int32) (2 : Int32) (2 : Int32) (4 : Int32) (5 : Int32) = (0 : Int32) := own_tm0 (by decide)
  have t6 : own_term q (8 : Int32) (0 : Int32) (2 : Int32) (2 : Int32) (4 : Int32) (6 : Int32) = (0 : Int32) := own_tm0 (by decide)
  have t7 : own_term q (8 : Int32) (0 : Int32) (2 : Int32) (2 : Int32) (4 : Int32) (7 : Int32) = (0 : Int32) := own_tm0 (by decide)
  unfold own_pin
  rw [show ((2 : Int32) / ((((8 : Int32) * (4 : Int32)) + (7 : Int32)) / (8 : Int32))) = (0 : Int32) from by decide, show ((2 : Int32) % ((((8 : Int32) * (4 : Int32)) + (7 : Int32)) / (8 : Int32))) = (2 : Int32) from by decide, show ((8 : Int32) / (4 : Int32)) = (2 : Int32) from by decide, t0, t1, t2, t3, t4, t5, t6, t7]
theorem own_c4_8_0_3 (q : Int64) : own_pin q (8 : Int32) (4 : Int32) (3 : Int32) = ((((((((((own_idx q (4 : Int32) (6 : Int32)) <<< ((4 : Int32) &&& 31)) ||| ((own_idx q (4 : Int32) (7 : Int32)) <<< ((0 : Int32) &&& 31))) ||| (0 : Int32)) ||| (0 : Int32)) ||| (0 : Int32)) ||| (0 : Int32)) ||| (0 : Int32)) ||| (0 : Int32)).toInt8.toInt32) := by
  have t0 : own_term q (8 : Int32) (0 : Int32) (3 : Int32) (2 : Int32) (4 : Int32) (0 : Int32) = ((own_idx q (4 : Int32) (6 : Int32)) <<< ((4 : Int32) &&& 31)) := by
    rw [own_tm1 (by decide) (by decide), show (((0 : Int32) * (8 : Int32)) + (((3 : Int32) * (2 : Int32)) + (0 : Int32))) = (6 : Int32) from by decide, show ((8 : Int32) - ((4 : Int32) * ((0 : Int32) + (1 : Int32)))) = (4 : Int32) from by decide]
  have t1 : own_term q (8 : Int32) (0 : Int32) (3 : Int32) (2 : Int32) (4 : Int32) (1 : Int32) = ((own_idx q (4 : Int32) (7 : Int32)) <<< ((0 : Int32) &&& 31)) := by
    rw [own_tm1 (by decide) (by decide), show (((0 : Int32) * (8 : Int32)) + (((3 : Int32) * (2 : Int32)) + (1 : Int32))) = (7 : Int32) from by decide, show ((8 : Int32) - ((4 : Int32) * ((1 : Int32) + (1 : Int32)))) = (0 : Int32) from by decide]
  have t2 : own_term q (8 : Int32) (0 : Int32) (3 : Int32) (2 : Int32) (4 : Int32) (2 : Int32) = (0 : Int32) := own_tm0 (by decide)
  have t3 : own_term q (8 : Int32) (0 : Int32) (3 : Int32) (2 : Int32) (4 : Int32) (3 : Int32) = (0 : Int32) := own_tm0 (by decide)
  have t4 : own_term q (8 : Int32) (0 : Int32) (3 : Int32) (2 : Int32) (4 : Int32) (4 : Int32) = (0 : Int32) := own_tm0 (by decide)
  have t5 : own_term q (8 : Int32) (0 : Int32) (3 : Int32) (2 : Int32) (4 : Int32) (5 : Int32) = (0 : Int32) := own_tm0 (by decide)
  have t6 : own_term q (8 : Int32) (0 : Int32) (3 : Int32) (2 : Int32) (4 : Int32) (6 : Int32) = (0 : Int32) := own_tm0 (by decide)
  have t7 : own_term q (8 : Int32) (0 : Int32) (3 : Int32) (2 : Int32) (4 : Int32) (7 : Int32) = (0 : Int32) := own_tm0 (by decide)
  unfold own_pin
  rw [show ((3 : Int32) / ((((8 : Int32) * (4 : Int32)) + (7 : Int32)) / (8 : Int32))) = (0 : Int32) from by decide, show ((3 : Int32) % ((((8 : Int32) * (4 : Int32)) + (7 : Int32)) / (8 : Int32))) = (3 : Int32) from by decide, show ((8 : Int32) / (4 : Int32)) = (2 : Int32) from by decide, t0, t1, t2, t3, t4, t5, t6, t7]
theorem own_c4_8_1_0 (q : Int64) : own_pin q (8 : Int32) (4 : Int32) (4 : Int32) = ((((((((((own_idx q (4 : Int32) (8 : Int32)) <<< ((4 : Int32) &&& 31)) ||| ((own_idx q (4 : Int32) (9 : Int32)) <<< ((0 : Int32) &&& 31))) ||| (0 : Int32)) ||| (0 : Int32)) ||| (0 : Int32)) ||| (0 : Int32)) ||| (0 : Int32)) ||| (0 : Int32)).toInt8.toInt32) := by
  have t0 : own_term q (8 : Int32) (1 : Int32) (0 : Int32) (2 : Int32) (4 : Int32) (0 : Int32) = ((own_idx q (4 : Int32) (8 : Int32)) <<< ((4 : Int32) &&& 31)) := by
    rw [own_tm1 (by decide) (by decide), show (((1 : Int32) * (8 : Int32)) + (((0 : Int32) * (2 : Int32)) + (0 : Int32))) = (8 : Int32) from by decide, show ((8 : Int32) - ((4 : Int32) * ((0 : Int32) + (1 : Int32)))) = (4 : Int32) from by decide]
  have t1 : own_term q (8 : Int32) (1 : Int32) (0 : Int32) (2 : Int32) (4 : Int32) (1 : Int32) = ((own_idx q (4 : Int32) (9 : Int32)) <<< ((0 : Int32) &&& 31)) := by
    rw [own_tm1 (by decide) (by decide), show (((1 : Int32) * (8 : Int32)) + (((0 : Int32) * (2 : Int32)) + (1 : Int32))) = (9 : Int32) from by decide, show ((8 : Int32) - ((4 : Int32) * ((1 : Int32) + (1 : Int32)))) = (0 : Int32) from by decide]
  have t2 : own_term q (8 : Int32) (1 : Int32) (0 : Int32) (2 : Int32) (4 : Int32) (2 : Int32) = (0 : Int32) := own_tm0 (by decide)
  have t3 : own_term q (8 : Int32) (1 : Int32) (0 : Int32) (2 : Int32) (4 : Int32) (3 : Int32) = (0 : Int32) := own_tm0 (by decide)
  have t4 : own_term q (8 : Int32) (1 : Int32) (0 : Int32) (2 : Int32) (4 : Int32) (4 : Int32) = (0 : Int32) := own_tm0 (by decide)
  have t5 : own_term q (8 : Int32) (1 : Int32) (0 : Int32) (2 : Int32) (4 : Int32) (5 : Int32) = (0 : Int32) := own_tm0 (by decide)
  have t6 : own_term q (8 : Int32) (1 : Int32) (0 : Int32) (2 : Int32) (4 : Int32) (6 : Int32) = (0 : Int32) := own_tm0 (by decide)
  have t7 : own_term q (8 : Int32) (1 : Int32) (0 : Int32) (2 : Int32) (4 : Int32) (7 : Int32) = (0 : Int32) := own_tm0 (by decide)
  unfold own_pin
  rw [show ((4 : Int32) / ((((8 : Int32) * (4 : Int32)) + (7 : Int32)) / (8 : Int32))) = (1 : Int32) from by decide, show ((4 : Int32) % ((((8 : Int32) * (4 : Int32)) + (7 : Int32)) / (8 : Int32))) = (0 : Int32) from by decide, show ((8 : Int32) / (4 : Int32)) = (2 : Int32) from by decide, t0, t1, t2, t3, t4, t5, t6, t7]
theorem own_c4_8_1_1 (q : Int64) : own_pin q (8 : Int32) (4 : Int32) (5 : Int32) = ((((((((((own_idx q (4 : Int32) (10 : Int32)) <<< ((4 : Int32) &&& 31)) ||| ((own_idx q (4 : Int32) (11 : Int32)) <<< ((0 : Int32) &&& 31))) ||| (0 : Int32)) ||| (0 : Int32)) ||| (0 : Int32)) ||| (0 : Int32)) ||| (0 : Int32)) ||| (0 : Int32)).toInt8.toInt32) := by
  have t0 : own_term q (8 : Int32) (1 : Int32) (1 : Int32) (2 : Int32) (4 : Int32) (0 : Int32) = ((own_idx q (4 : Int32) (10 : Int32)) <<< ((4 : Int32) &&& 31)) := by
    rw [own_tm1 (by decide) (by decide), show (((1 : Int32) * (8 : Int32)) + (((1 : Int32) * (2 : Int32)) + (0 : Int32))) = (10 : Int32) from by decide, show ((8 : Int32) - ((4 : Int32) * ((0 : Int32) + (1 : Int32)))) = (4 : Int32) from by decide]
  have t1 : own_term q (8 : Int32) (1 : Int32) (1 : Int32) (2 : Int32) (4 : Int32) (1 : Int32) = ((own_idx q (4 : Int32) (11 : Int32)) <<< ((0 : Int32) &&& 31)) := by
    rw [own_tm1 (by decide) (by decide), show (((1 : Int32) * (8 : Int32)) + (((1 : Int32) * (2 : Int32)) + (1 : Int32))) = (11 : Int32) from by decide, show ((8 : Int32) - ((4 : Int32) * ((1 : Int32) + (1 : Int32)))) = (0 : Int32) from by decide]
  have t2 : own_term q (8 : Int32) (1 : Int32) (1 : Int32) (2 : Int32) (4 : Int32) (2 : Int32) = (0 : Int32) := own_tm0 (by decide)
  have t3 : own_term q (8 : Int32) (1 : Int32) (1 : Int32) (2 : Int32) (4 : Int32) (3 : Int32) = (0 : Int32) := own_tm0 (by decide)
  have t4 : own_term q (8 : Int32) (1 : Int32) (1 : Int32) (2 : Int32) (4 : Int32) (4 : Int32) = (0 : Int32) := own_tm0 (by decide)
  have t5 : own_term q (8 : Int32) (1 : Int32) (1 : Int32) (2 : Int32) (4 : Int32) (5 : Int32) = (0 : Int32) := own_tm0 (by decide)
  have t6 : own_term q (8 : Int32) (1 : Int32) (1 : Int32) (2 : Int32) (4 : Int32) (6 : Int32) = (0 : Int32) := own_tm0 (by decide)
  have t7 : own_term q (8 : Int32) (1 : Int32) (1 : Int32) (2 : Int32) (4 : Int32) (7 : Int32) = (0 : Int32) := own_tm0 (by decide)
  unfold own_pin
  rw [show ((5 : Int32) / ((((8 : Int32) * (4 : Int32)) + (7 : Int32)) / (8 : Int32))) = (1 : Int32) from by decide, show ((5 : Int32) % ((((8 : Int32) * (4 : Int32)) + (7 : Int32)) / (8 : Int32))) = (1 : Int32) from by decide, show ((8 : Int32) / (4 : Int32)) = (2 : Int32) from by decide, t0, t1, t2, t3, t4, t5, t6, t7]
theorem own_c4_8_1_2 (q : Int64) : own_pin q (8 : Int32) (4 : Int32) (6 : Int32) = ((((((((((own_idx q (4 : Int32) (12 : Int32)) <<< ((4 : Int32) &&& 31)) ||| ((own_idx q (4 : Int32) (13 : Int32)) <<< ((0 : Int32) &&& 31))) ||| (0 : Int32)) ||| (0 : Int32)) ||| (0 : Int32)) ||| (0 : Int32)) ||| (0 : Int32)) ||| (0 : Int32)).toInt8.toInt32) := by
  have t0 : own_term q (8 : Int32) (1 : Int32) (2 : Int32) (2 : Int32) (4 : Int32) (0 : Int32) = ((own_idx q (4 : Int32) (12 : Int32)) <<< ((4 : Int32) &&& 31)) := by
    rw [own_tm1 (by decide) (by decide), show (((1 : Int32) * (8 : Int32)) + (((2 : Int32) * (2 : Int32)) + (0 : Int32))) = (12 : Int32) from by decide, show ((8 : Int32) - ((4 : Int32) * ((0 : Int32) + (1 : Int32)))) = (4 : Int32) from by decide]
  have t1 : own_term q (8 : Int32) (1 : Int32) (2 : Int32) (2 : Int32) (4 : Int32) (1 : Int32) = ((own_idx q (4 : Int32) (13 : Int32)) <<< ((0 : Int32) &&& 31)) := by
    rw [own_tm1 (by decide) (by decide), show (((1 : Int32) * (8 : Int32)) + (((2 : Int32) * (2 : Int32)) + (1 : Int32))) = (13 : Int32) from by decide, show ((8 : Int32) - ((4 : Int32) * ((1 : Int32) + (1 : Int32)))) = (0 : Int32) from by decide]
  have t2 : own_term q (8 : Int32) (1 : Int32) (2 : Int32) (2 : Int32) (4 : Int32) (2 : Int32) = (0 : Int32) := own_tm0 (by decide)
  have t3 : own_term q (8 : Int32) (1 : Int32) (2 : Int32) (2 : Int32) (4 : Int32) (3 : Int32) = (0 : Int32) := own_tm0 (by decide)
  have t4 : own_term q (8 : Int32) (1 : Int32) (2 : Int32) (2 : Int32) (4 : Int32) (4 : Int32) = (0 : Int32) := own_tm0 (by decide)
  have t5 : own_term q (8 : Int32) (1 : Int32) (2 : Int32) (2 : Int32) (4 : Int32) (5 : Int32) = (0 : Int32) := own_tm0 (by decide)
  have t6 : own_term q (8 : Int32) (1 : Int32) (2 : Int32) (2 : Int32) (4 : Int32) (6 : Int32) = (0 : Int32) := own_tm0 (by decide)
  have t7 : own_term q (8 : Int32) (1 : Int32) (2 : Int32) (2 : Int32) (4 : Int32) (7 : Int32) = (0 : Int32) := own_tm0 (by decide)
  unfold own_pin
  rw [show ((6 : Int32) / ((((8 : Int32) * (4 : Int32)) + (7 : Int32)) / (8 : Int32))) = (1 : Int32) from by decide, show ((6 : Int32) % ((((8 : Int32) * (4 : Int32)) + (7 : Int32)) / (8 : Int32))) = (2 : Int32) from by decide, show ((8 : Int32) / (4 : Int32)) = (2 : Int32) from by decide, t0, t1, t2, t3, t4, t5, t6, t7]
theorem own_c4_8_1_3 (q : Int64) : own_pin q (8 : Int32) (4 : Int32) (7 : Int32) = ((((((((((own_idx q (4 : Int32) (14 : Int32)) <<< ((4 : Int32) &&& 31)) ||| ((own_idx q (4 : Int32) (15 : Int32)) <<< ((0 : Int32) &&& 31))) ||| (0 : Int32)) ||| (0 : Int32)) ||| (0 : Int32)) ||| (0 : Int32)) ||| (0 : Int32)) ||| (0 : Int32)).toInt8.toInt32) := by
  have t0 : own_term q (8 : Int32) (1 : Int32) (3 : Int32) (2 : Int32) (4 : Int32) (0 : Int32) = ((own_idx q (4 : Int32) (14 : Int32)) <<< ((4 : Int32) &&& 31)) := by
    rw [own_tm1 (by decide) (by decide), show (((1 : Int32) * (8 : Int32)) + (((3 : Int32) * (2 : Int32)) + (0 : Int32))) = (14 : Int32) from by decide, show ((8 : Int32) - ((4 : Int32) * ((0 : Int32) + (1 : Int32)))) = (4 : Int32) from by decide]
  have t1 : own_term q (8 : Int32) (1 : Int32) (3 : Int32) (2 : Int32) (4 : Int32) (1 : Int32) = ((own_idx q (4 : Int32) (15 : Int32)) <<< ((0 : Int32) &&& 31)) := by
    rw [own_tm1 (by decide) (by decide), show (((1 : Int32) * (8 : Int32)) + (((3 : Int32) * (2 : Int32)) + (1 : Int32))) = (15 : Int32) from by decide, show ((8 : Int32) - ((4 : Int32) * ((1 : Int32) + (1 : Int32)))) = (0 : Int32) from by decide]
  have t2 : own_term q (8 : Int32) (1 : Int32) (3 : Int32) (2 : Int32) (4 : Int32) (2 : Int32) = (0 : Int32) := own_tm0 (by decide)
  have t3 : own_term q (8 : Int32) (1 : Int32) (3 : Int32) (2 : Int32) (4 : Int32) (3 : Int32) = (0 : Int32) := own_tm0 (by decide)
  have t4 : own_term q (8 : Int32) (1 : Int32) (3 : Int32) (2 : Int32) (4 : Int32) (4 : Int32) = (0 : Int32) := own_tm0 (by decide)
  have t5 : own_term q (8 : Int32) (1 : Int32) (3 : Int32) (2 : Int32) (4 : Int32) (5 : Int32) = (0 : Int32) := own_tm0 (by decide)
  have t6 : own_term q (8 : Int32) (1 : Int32) (3 : Int32) (2 : Int32) (4 : Int32) (6 : Int32) = (0 : Int32) := own_tm0 (by decide)
  have t7 : own_term q (8 : Int32) (1 : Int32) (3 : Int32) (2 : Int32) (4 : Int32) (7 : Int32) = (0 : Int32) := own_tm0 (by decide)
  unfold own_pin
  rw [show ((7 : Int32) / ((((8 : Int32) * (4 : Int32)) + (7 : Int32)) / (8 : Int32))) = (1 : Int32) from by decide, show ((7 : Int32) % ((((8 : Int32) * (4 : Int32)) + (7 : Int32)) / (8 : Int32))) = (3 : Int32) from by decide, show ((8 : Int32) / (4 : Int32)) = (2 : Int32) from by decide, t0, t1, t2, t3, t4, t5, t6, t7]
theorem own_GF4_0 (q : Int64) {w : Int32} (hw : w = 0 ∨ w = 1 ∨ w = 2 ∨ w = 3 ∨ w = 4 ∨ w = 5 ∨ w = 6 ∨ w = 7 ∨ w = 8) : ∀ n : Nat, (n : Int) < w.toInt → ((n + 1) * 4) % 8 = 0 → own_pin q w (4 : Int32) ((0 + (n * 4) / 8 : Nat).toInt32) = ((own_cv 4 (4 : Int32) (fun i => (own_L q (4 : Int32)).getD (0 + i) 0) n).toInt8.toInt32).toInt8.toInt32 := by
  intro n h1 h2
  rcases hw with rfl | rfl | rfl | rfl | rfl | rfl | rfl | rfl | rfl
  · have hz : ((0 : Int32)).toInt = 0 := rfl
    omega
  · have hz : ((1 : Int32)).toInt = 1 := rfl
    omega
  · have hz : ((2 : Int32)).toInt = 2 := rfl
    have hn : n = 1 := by omega
    rcases hn with rfl
    · rw [show (0 + (1 * 4) / 8 : Nat).toInt32 = (0 : Int32) from by decide, own_c4_2_0_0, own_bb]
      have hs : own_cv 4 (4 : Int32) (fun i => (own_L q (4 : Int32)).getD (0 + i) 0) 1 = (((((0 : Int32) <<< ((4 : Int32) &&& 31)) ||| (((own_idx q (4 : Int32) (0 : Int32)).toInt8.toInt32).toInt8.toInt32)) <<< ((4 : Int32) &&& 31)) ||| (((own_idx q (4 : Int32) (1 : Int32)).toInt8.toInt32).toInt8.toInt32)) := by first | rfl | (simp [own_cu, own_cv, own_L])
      rw [hs]
      simp only [own_ib4]
      rw [own_f4_2]
  · have hz : ((3 : Int32)).toInt = 3 := rfl
    have hn : n = 1 := by omega
    rcases hn with rfl
    · rw [show (0 + (1 * 4) / 8 : Nat).toInt32 = (0 : Int32) from by decide, own_c4_3_0_0, own_bb]
      have hs : own_cv 4 (4 : Int32) (fun i => (own_L q (4 : Int32)).getD (0 + i) 0) 1 = (((((0 : Int32) <<< ((4 : Int32) &&& 31)) ||| (((own_idx q (4 : Int32) (0 : Int32)).toInt8.toInt32).toInt8.toInt32)) <<< ((4 : Int32) &&& 31)) ||| (((own_idx q (4 : Int32) (1 : Int32)).toInt8.toInt32).toInt8.toInt32)) := by first | rfl | (simp [own_cu, own_cv, own_L])
      rw [hs]
      simp only [own_ib4]
      rw [own_f4_2]
  · have hz : ((4 : Int32)).toInt = 4 := rfl
    have hn : n = 1 ∨ n = 3 := by omega
    rcases hn with rfl | rfl
    · rw [show (0 + (1 * 4) / 8 : Nat).toInt32 = (0 : Int32) from by decide, own_c4_4_0_0, own_bb]
      have hs : own_cv 4 (4 : Int32) (fun i => (own_L q (4 : Int32)).getD (0 + i) 0) 1 = (((((0 : Int32) <<< ((4 : Int32) &&& 31)) ||| (((own_idx q (4 : Int32) (0 : Int32)).toInt8.toInt32).toInt8.toInt32)) <<< ((4 : Int32) &&& 31)) ||| (((own_idx q (4 : Int32) (1 : Int32)).toInt8.toInt32).toInt8.toInt32)) := by first | rfl | (simp [own_cu, own_cv, own_L])
      rw [hs]
      simp only [own_ib4]
      rw [own_f4_2]
    · rw [show (0 + (3 * 4) / 8 : Nat).toInt32 = (1 : Int32) from by decide, own_c4_4_0_1, own_bb]
      have hs : own_cv 4 (4 : Int32) (fun i => (own_L q (4 : Int32)).getD (0 + i) 0) 3 = (((((0 : Int32) <<< ((4 : Int32) &&& 31)) ||| (((own_idx q (4 : Int32) (2 : Int32)).toInt8.toInt32).toInt8.toInt32)) <<< ((4 : Int32) &&& 31)) ||| (((own_idx q (4 : Int32) (3 : Int32)).toInt8.toInt32).toInt8.toInt32)) := by first | rfl | (simp [own_cu, own_cv, own_L])
      rw [hs]
      simp only [own_ib4]
      rw [own_f4_2]
  · have hz : ((5 : Int32)).toInt = 5 := rfl
    have hn : n = 1 ∨ n = 3 := by omega
    rcases hn with rfl | rfl
    · rw [show (0 + (1 * 4) / 8 : Nat).toInt32 = (0 : Int32) from by decide, own_c4_5_0_0, own_bb]
      have hs : own_cv 4 (4 : Int32) (fun i => (own_L q (4 : Int32)).getD (0 + i) 0) 1 = (((((0 : Int32) <<< ((4 : Int32) &&& 31)) ||| (((own_idx q (4 : Int32) (0 : Int32)).toInt8.toInt32).toInt8.toInt32)) <<< ((4 : Int32) &&& 31)) ||| (((own_idx q (4 : Int32) (1 : Int32)).toInt8.toInt32).toInt8.toInt32)) := by first | rfl | (simp [own_cu, own_cv, own_L])
      rw [hs]
      simp only [own_ib4]
      rw [own_f4_2]
    · rw [show (0 + (3 * 4) / 8 : Nat).toInt32 = (1 : Int32) from by decide, own_c4_5_0_1, own_bb]
      have hs : own_cv 4 (4 : Int32) (fun i => (own_L q (4 : Int32)).getD (0 + i) 0) 3 = (((((0 : Int32) <<< ((4 : Int32) &&& 31)) ||| (((own_idx q (4 : Int32) (2 : Int32)).toInt8.toInt32).toInt8.toInt32)) <<< ((4 : Int32) &&& 31)) ||| (((own_idx q (4 : Int32) (3 : Int32)).toInt8.toInt32).toInt8.toInt32)) := by first | rfl | (simp [own_cu, own_cv, own_L])
      rw [hs]
      simp only [own_ib4]
      rw [own_f4_2]
  · have hz : ((6 : Int32)).toInt = 6 := rfl
    have hn : n = 1 ∨ n = 3 ∨ n = 5 := by omega
    rcases hn with rfl | rfl | rfl
    · rw [show (0 + (1 * 4) / 8 : Nat).toInt32 = (0 : Int32) from by decide, own_c4_6_0_0, own_bb]
      have hs : own_cv 4 (4 : Int32) (fun i => (own_L q (4 : Int32)).getD (0 + i) 0) 1 = (((((0 : Int32) <<< ((4 : Int32) &&& 31)) ||| (((own_idx q (4 : Int32) (0 : Int32)).toInt8.toInt32).toInt8.toInt32)) <<< ((4 : Int32) &&& 31)) ||| (((own_idx q (4 : Int32) (1 : Int32)).toInt8.toInt32).toInt8.toInt32)) := by first | rfl | (simp [own_cu, own_cv, own_L])
      rw [hs]
      simp only [own_ib4]
      rw [own_f4_2]
    · rw [show (0 + (3 * 4) / 8 : Nat).toInt32 = (1 : Int32) from by decide, own_c4_6_0_1, own_bb]
      have hs : own_cv 4 (4 : Int32) (fun i => (own_L q (4 : Int32)).getD (0 + i) 0) 3 = (((((0 : Int32) <<< ((4 : Int32) &&& 31)) ||| (((own_idx q (4 : Int32) (2 : Int32)).toInt8.toInt32).toInt8.toInt32)) <<< ((4 : Int32) &&& 31)) ||| (((own_idx q (4 : Int32) (3 : Int32)).toInt8.toInt32).toInt8.toInt32)) := by first | rfl | (simp [own_cu, own_cv, own_L])
      rw [hs]
      simp only [own_ib4]
      rw [own_f4_2]
    · rw [show (0 + (5 * 4) / 8 : Nat).toInt32 = (2 : Int32) from by decide, own_c4_6_0_2, own_bb]
      have hs : own_cv 4 (4 : Int32) (fun i => (own_L q (4 : Int32)).getD (0 + i) 0) 5 = (((((0 : Int32) <<< ((4 : Int32) &&& 31)) ||| (((own_idx q (4 : Int32) (4 : Int32)).toInt8.toInt32).toInt8.toInt32)) <<< ((4 : Int32) &&& 31)) ||| (((own_idx q (4 : Int32) (5 : Int32)).toInt8.toInt32).toInt8.toInt32)) := by first | rfl | (simp [own_cu, own_cv, own_L])
      rw [hs]
      simp only [own_ib4]
      rw [own_f4_2]
  · have hz : ((7 : Int32)).toInt = 7 := rfl
    have hn : n = 1 ∨ n = 3 ∨ n = 5 := by omega
    rcases hn with rfl | rfl | rfl
    · rw [show (0 + (1 * 4) / 8 : Nat).toInt32 = (0 : Int32) from by decide, own_c4_7_0_0, own_bb]
      have hs : own_cv 4 (4 : Int32) (fun i => (own_L q (4 : Int32)).getD (0 + i) 0) 1 = (((((0 : Int32) <<< ((4 : Int32) &&& 31)) ||| (((own_idx q (4 : Int32) (0 : Int32)).toInt8.toInt32).toInt8.toInt32)) <<< ((4 : Int32) &&& 31)) ||| (((own_idx q (4 : Int32) (1 : Int32)).toInt8.toInt32).toInt8.toInt32)) := by first | rfl | (simp [own_cu, own_cv, own_L])
      rw [hs]
      simp only [own_ib4]
      rw [own_f4_2]
    · rw [show (0 + (3 * 4) / 8 : Nat).toInt32 = (1 : Int32) from by decide, own_c4_7_0_1, own_bb]
      have hs : own_cv 4 (4 : Int32) (fun i => (own_L q (4 : Int32)).getD (0 + i) 0) 3 = (((((0 : Int32) <<< ((4 : Int32) &&& 31)) ||| (((own_idx q (4 : Int32) (2 : Int32)).toInt8.toInt32).toInt8.toInt32)) <<< ((4 : Int32) &&& 31)) ||| (((own_idx q (4 : Int32) (3 : Int32)).toInt8.toInt32).toInt8.toInt32)) := by first | rfl | (simp [own_cu, own_cv, own_L])
      rw [hs]
      simp only [own_ib4]
      rw [own_f4_2]
    · rw [show (0 + (5 * 4) / 8 : Nat).toInt32 = (2 : Int32) from by decide, own_c4_7_0_2, own_bb]
      have hs : own_cv 4 (4 : Int32) (fun i => (own_L q (4 : Int32)).getD (0 + i) 0) 5 = (((((0 : Int32) <<< ((4 : Int32) &&& 31)) ||| (((own_idx q (4 : Int32) (4 : Int32)).toInt8.toInt32).toInt8.toInt32)) <<< ((4 : Int32) &&& 31)) ||| (((own_idx q (4 : Int32) (5 : Int32)).toInt8.toInt32).toInt8.toInt32)) := by first | rfl | (simp [own_cu, own_cv, own_L])
      rw [hs]
      simp only [own_ib4]
      rw [own_f4_2]
  · have hz : ((8 : Int32)).toInt = 8 := rfl
    have hn : n = 1 ∨ n = 3 ∨ n = 5 ∨ n = 7 := by omega
    rcases hn with rfl | rfl | rfl | rfl
    · rw [show (0 + (1 * 4) / 8 : Nat).toInt32 = (0 : Int32) from by decide, own_c4_8_0_0, own_bb]
      have hs : own_cv 4 (4 : Int32) (fun i => (own_L q (4 : Int32)).getD (0 + i) 0) 1 = (((((0 : Int32) <<< ((4 : Int32) &&& 31)) ||| (((own_idx q (4 : Int32) (0 : Int32)).toInt8.toInt32).toInt8.toInt32)) <<< ((4 : Int32) &&& 31)) ||| (((own_idx q (4 : Int32) (1 : Int32)).toInt8.toInt32).toInt8.toInt32)) := by first | rfl | (simp [own_cu, own_cv, own_L])
      rw [hs]
      simp only [own_ib4]
      rw [own_f4_2]
    · rw [show (0 + (3 * 4) / 8 : Nat).toInt32 = (1 : Int32) from by decide, own_c4_8_0_1, own_bb]
      have hs : own_cv 4 (4 : Int32) (fun i => (own_L q (4 : Int32)).getD (0 + i) 0) 3 = (((((0 : Int32) <<< ((4 : Int32) &&& 31)) ||| (((own_idx q (4 : Int32) (2 : Int32)).toInt8.toInt32).toInt8.toInt32)) <<< ((4 : Int32) &&& 31)) ||| (((own_idx q (4 : Int32) (3 : Int32)).toInt8.toInt32).toInt8.toInt32)) := by first | rfl | (simp [own_cu, own_cv, own_L])
      rw [hs]
      simp only [own_ib4]
      rw [own_f4_2]
    · rw [show (0 + (5 * 4) / 8 : Nat).toInt32 = (2 : Int32) from by decide, own_c4_8_0_2, own_bb]
      have hs : own_cv 4 (4 : Int32) (fun i => (own_L q (4 : Int32)).getD (0 + i) 0) 5 = (((((0 : Int32) <<< ((4 : Int32) &&& 31)) ||| (((own_idx q (4 : Int32) (4 : Int32)).toInt8.toInt32).toInt8.toInt32)) <<< ((4 : Int32) &&& 31)) ||| (((own_idx q (4 : Int32) (5 : Int32)).toInt8.toInt32).toInt8.toInt32)) := by first | rfl | (simp [own_cu, own_cv, own_L])
      rw [hs]
      simp only [own_ib4]
      rw [own_f4_2]
    · rw [show (0 + (7 * 4) / 8 : Nat).toInt32 = (3 : Int32) from by decide, own_c4_8_0_3, own_bb]
      have hs : own_cv 4 (4 : Int32) (fun i => (own_L q (4 : Int32)).getD (0 + i) 0) 7 = (((((0 : Int32) <<< ((4 : Int32) &&& 31)) ||| (((own_idx q (4 : Int32) (6 : Int32)).toInt8.toInt32).toInt8.toInt32)) <<< ((4 : Int32) &&& 31)) ||| (((own_idx q (4 : Int32) (7 : Int32)).toInt8.toInt32).toInt8.toInt32)) := by first | rfl | (simp [own_cu, own_cv, own_L])
      rw [hs]
      simp only [own_ib4]
      rw [own_f4_2]
theorem own_GP4_0 (q : Int64) {w : Int32} (hw : w = 0 ∨ w = 1 ∨ w = 2 ∨ w = 3 ∨ w = 4 ∨ w = 5 ∨ w = 6 ∨ w = 7 ∨ w = 8) : ∀ u : Int32, u.toInt = (w.toInt * 4) % 8 → 0 < u.toInt → own_pin q w (4 : Int32) ((0 + (w.toInt.toNat * 4) / 8 : Nat).toInt32) = ((((own_cu 4 (4 : Int32) (fun i => (own_L q (4 : Int32)).getD (0 + i) 0) w.toInt.toNat) <<< (((8 : Int32) - u) &&& 31)).toInt8.toInt32).toInt8.toInt32) := by
  intro u h1 h2
  rcases hw with rfl | rfl | rfl | rfl | rfl | rfl | rfl | rfl | rfl
  · have hz : ((0 : Int32)).toInt = 0 := rfl
    omega
  · have hz : ((1 : Int32)).toInt = 1 := rfl
    obtain rfl : u = (4 : Int32) := Int32.toInt_inj.mp (by have hq : ((4 : Int32)).toInt = 4 := rfl; omega)
    rw [show (0 + ((1 : Int32).toInt.toNat * 4) / 8 : Nat).toInt32 = (0 : Int32) from by decide, own_c4_1_0_0, own_bb]
    have hs : own_cu 4 (4 : Int32) (fun i => (own_L q (4 : Int32)).getD (0 + i) 0) ((1 : Int32).toInt.toNat) = (((0 : Int32) <<< ((4 : Int32) &&& 31)) ||| (((own_idx q (4 : Int32) (0 : Int32)).toInt8.toInt32).toInt8.toInt32)) := by first | rfl | (simp [own_cu, own_cv, own_L])
    rw [hs]
    rw [show ((8 : Int32) - (4 : Int32)) = (4 : Int32) from by decide]
    simp only [own_ib4]
    rw [own_f4_1]
  · have hz : ((2 : Int32)).toInt = 2 := rfl
    omega
  · have hz : ((3 : Int32)).toInt = 3 := rfl
    obtain rfl : u = (4 : Int32) := Int32.toInt_inj.mp (by have hq : ((4 : Int32)).toInt = 4 := rfl; omega)
    rw [show (0 + ((3 : Int32).toInt.toNat * 4) / 8 : Nat).toInt32 = (1 : Int32) from by decide, own_c4_3_0_1, own_bb]
    have hs : own_cu 4 (4 : Int32) (fun i => (own_L q (4 : Int32)).getD (0 + i) 0) ((3 : Int32).toInt.toNat) = (((0 : Int32) <<< ((4 : Int32) &&& 31)) ||| (((own_idx q (4 : Int32) (2 : Int32)).toInt8.toInt32).toInt8.toInt32)) := by first | rfl | (simp [own_cu, own_cv, own_L])
    rw [hs]
    rw [show ((8 : Int32) - (4 : Int32)) = (4 : Int32) from by decide]
    simp only [own_ib4]
    rw [own_f4_1]
  · have hz : ((4 : Int32)).toInt = 4 := rfl
    omega
  · have hz : ((5 : Int32)).toInt = 5 := rfl
    obtain rfl : u = (4 : Int32) := Int32.toInt_inj.mp (by have hq : ((4 : Int32)).toInt = 4 := rfl; omega)
    rw [show (0 + ((5 : Int32).toInt.toNat * 4) / 8 : Nat).toInt32 = (2 : Int32) from by decide, own_c4_5_0_2, own_bb]
    have hs : own_cu 4 (4 : Int32) (fun i => (own_L q (4 : Int32)).getD (0 + i) 0) ((5 : Int32).toInt.toNat) = (((0 : Int32) <<< ((4 : Int32) &&& 31)) ||| (((own_idx q (4 : Int32) (4 : Int32)).toInt8.toInt32).toInt8.toInt32)) := by first | rfl | (simp [own_cu, own_cv, own_L])
    rw [hs]
    rw [show ((8 : Int32) - (4 : Int32)) = (4 : Int32) from by decide]
    simp only [own_ib4]
    rw [own_f4_1]
  · have hz : ((6 : Int32)).toInt = 6 := rfl
    omega
  · have hz : ((7 : Int32)).toInt = 7 := rfl
    obtain rfl : u = (4 : Int32) := Int32.toInt_inj.mp (by have hq : ((4 : Int32)).toInt = 4 := rfl; omega)
    rw [show (0 + ((7 : Int32).toInt.toNat * 4) / 8 : Nat).toInt32 = (3 : Int32) from by decide, own_c4_7_0_3, own_bb]
    have hs : own_cu 4 (4 : Int32) (fun i => (own_L q (4 : Int32)).getD (0 + i) 0) ((7 : Int32).toInt.toNat) = (((0 : Int32) <<< ((4 : Int32) &&& 31)) ||| (((own_idx q (4 : Int32) (6 : Int32)).toInt8.toInt32).toInt8.toInt32)) := by first | rfl | (simp [own_cu, own_cv, own_L])
    rw [hs]
    rw [show ((8 : Int32) - (4 : Int32)) = (4 : Int32) from by decide]
    simp only [own_ib4]
    rw [own_f4_1]
  · have hz : ((8 : Int32)).toInt = 8 := rfl
    omega
theorem own_GF4_1 (q : Int64) {w : Int32} (hw : w = 0 ∨ w = 1 ∨ w = 2 ∨ w = 3 ∨ w = 4 ∨ w = 5 ∨ w = 6 ∨ w = 7 ∨ w = 8) : ∀ n : Nat, (n : Int) < w.toInt → ((n + 1) * 4) % 8 = 0 → own_pin q w (4 : Int32) ((((w.toInt.toNat * 4 + 7) / 8) + (n * 4) / 8 : Nat).toInt32) = ((own_cv 4 (4 : Int32) (fun i => (own_L q (4 : Int32)).getD (w.toInt.toNat + i) 0) n).toInt8.toInt32).toInt8.toInt32 := by
  intro n h1 h2
  rcases hw with rfl | rfl | rfl | rfl | rfl | rfl | rfl | rfl | rfl
  · have hz : ((0 : Int32)).toInt = 0 := rfl
    omega
  · have hz : ((1 : Int32)).toInt = 1 := rfl
    omega
  · have hz : ((2 : Int32)).toInt = 2 := rfl
    have hn : n = 1 := by omega
    rcases hn with rfl
    · rw [show ((((2 : Int32).toInt.toNat * 4 + 7) / 8) + (1 * 4) / 8 : Nat).toInt32 = (1 : Int32) from by decide, own_c4_2_1_0, own_bb]
      have hs : own_cv 4 (4 : Int32) (fun i => (own_L q (4 : Int32)).getD ((2 : Int32).toInt.toNat + i) 0) 1 = (((((0 : Int32) <<< ((4 : Int32) &&& 31)) ||| (((own_idx q (4 : Int32) (2 : Int32)).toInt8.toInt32).toInt8.toInt32)) <<< ((4 : Int32) &&& 31)) ||| (((own_idx q (4 : Int32) (3 : Int32)).toInt8.toInt32).toInt8.toInt32)) := by first | rfl | (simp [own_cu, own_cv, own_L])
      rw [hs]
      simp only [own_ib4]
      rw [own_f4_2]
  · have hz : ((3 : Int32)).toInt = 3 := rfl
    have hn : n = 1 := by omega
    rcases hn with rfl
    · rw [show ((((3 : Int32).toInt.toNat * 4 + 7) / 8) + (1 * 4) / 8 : Nat).toInt32 = (2 : Int32) from by decide, own_c4_3_1_0, own_bb]
      have hs : own_cv 4 (4 : Int32) (fun i => (own_L q (4 : Int32)).getD ((3 : Int32).toInt.toNat + i) 0) 1 = (((((0 : Int32) <<< ((4 : Int32) &&& 31)) ||| (((own_idx q (4 : Int32) (3 : Int32)).toInt8.toInt32).toInt8.toInt32)) <<< ((4 : Int32) &&& 31)) ||| (((own_idx q (4 : Int32) (4 : Int32)).toInt8.toInt32).toInt8.toInt32)) := by first | rfl | (simp [own_cu, own_cv, own_L])
      rw [hs]
      simp only [own_ib4]
      rw [own_f4_2]
  · have hz : ((4 : Int32)).toInt = 4 := rfl
    have hn : n = 1 ∨ n = 3 := by omega
    rcases hn with rfl | rfl
    · rw [show ((((4 : Int32).toInt.toNat * 4 + 7) / 8) + (1 * 4) / 8 : Nat).toInt32 = (2 : Int32) from by decide, own_c4_4_1_0, own_bb]
      have hs : own_cv 4 (4 : Int32) (fun i => (own_L q (4 : Int32)).getD ((4 : Int32).toInt.toNat + i) 0) 1 = (((((0 : Int32) <<< ((4 : Int32) &&& 31)) ||| (((own_idx q (4 : Int32) (4 : Int32)).toInt8.toInt32).toInt8.toInt32)) <<< ((4 : Int32) &&& 31)) ||| (((own_idx q (4 : Int32) (5 : Int32)).toInt8.toInt32).toInt8.toInt32)) := by first | rfl | (simp [own_cu, own_cv, own_L])
      rw [hs]
      simp only [own_ib4]
      rw [own_f4_2]
    · rw [show ((((4 : Int32).toInt.toNat * 4 + 7) / 8) + (3 * 4) / 8 : Nat).toInt32 = (3 : Int32) from by decide, own_c4_4_1_1, own_bb]
      have hs : own_cv 4 (4 : Int32) (fun i => (own_L q (4 : Int32)).getD ((4 : Int32).toInt.toNat + i) 0) 3 = (((((0 : Int32) <<< ((4 : Int32) &&& 31)) ||| (((own_idx q (4 : Int32) (6 : Int32)).toInt8.toInt32).toInt8.toInt32)) <<< ((4 : Int32) &&& 31)) ||| (((own_idx q (4 : Int32) (7 : Int32)).toInt8.toInt32).toInt8.toInt32)) := by first | rfl | (simp [own_cu, own_cv, own_L])
      rw [hs]
      simp only [own_ib4]
      rw [own_f4_2]
  · have hz : ((5 : Int32)).toInt = 5 := rfl
    have hn : n = 1 ∨ n = 3 := by omega
    rcases hn with rfl | rfl
    · rw [show ((((5 : Int32).toInt.toNat * 4 + 7) / 8) + (1 * 4) / 8 : Nat).toInt32 = (3 : Int32) from by decide, own_c4_5_1_0, own_bb]
      have hs : own_cv 4 (4 : Int32) (fun i => (own_L q (4 : Int32)).getD ((5 : Int32).toInt.toNat + i) 0) 1 = (((((0 : Int32) <<< ((4 : Int32) &&& 31)) ||| (((own_idx q (4 : Int32) (5 : Int32)).toInt8.toInt32).toInt8.toInt32)) <<< ((4 : Int32) &&& 31)) ||| (((own_idx q (4 : Int32) (6 : Int32)).toInt8.toInt32).toInt8.toInt32)) := by first | rfl | (simp [own_cu, own_cv, own_L])
      rw [hs]
      simp only [own_ib4]
      rw [own_f4_2]
    · rw [show ((((5 : Int32).toInt.toNat * 4 + 7) / 8) + (3 * 4) / 8 : Nat).toInt32 = (4 : Int32) from by decide, own_c4_5_1_1, own_bb]
      have hs : own_cv 4 (4 : Int32) (fun i => (own_L q (4 : Int32)).getD ((5 : Int32).toInt.toNat + i) 0) 3 = (((((0 : Int32) <<< ((4 : Int32) &&& 31)) ||| (((own_idx q (4 : Int32) (7 : Int32)).toInt8.toInt32).toInt8.toInt32)) <<< ((4 : Int32) &&& 31)) ||| (((own_idx q (4 : Int32) (8 : Int32)).toInt8.toInt32).toInt8.toInt32)) := by first | rfl | (simp [own_cu, own_cv, own_L])
      rw [hs]
      simp only [own_ib4]
      rw [own_f4_2]
  · have hz : ((6 : Int32)).toInt = 6 := rfl
    have hn : n = 1 ∨ n = 3 ∨ n = 5 := by omega
    rcases hn with rfl | rfl | rfl
    · rw [show ((((6 : Int32).toInt.toNat * 4 + 7) / 8) + (1 * 4) / 8 : Nat).toInt32 = (3 : Int32) from by decide, own_c4_6_1_0, own_bb]
      have hs : own_cv 4 (4 : Int32) (fun i => (own_L q (4 : Int32)).getD ((6 : Int32).toInt.toNat + i) 0) 1 = (((((0 : Int32) <<< ((4 : Int32) &&& 31)) ||| (((own_idx q (4 : Int32) (6 : Int32)).toInt8.toInt32).toInt8.toInt32)) <<< ((4 : Int32) &&& 31)) ||| (((own_idx q (4 : Int32) (7 : Int32)).toInt8.toInt32).toInt8.toInt32)) := by first | rfl | (simp [own_cu, own_cv, own_L])
      rw [hs]
      simp only [own_ib4]
      rw [own_f4_2]
    · rw [show ((((6 : Int32).toInt.toNat * 4 + 7) / 8) + (3 * 4) / 8 : Nat).toInt32 = (4 : Int32) from by decide, own_c4_6_1_1, own_bb]
      have hs : own_cv 4 (4 : Int32) (fun i => (own_L q (4 : Int32)).getD ((6 : Int32).toInt.toNat + i) 0) 3 = (((((0 : Int32) <<< ((4 : Int32) &&& 31)) ||| (((own_idx q (4 : Int32) (8 : Int32)).toInt8.toInt32).toInt8.toInt32)) <<< ((4 : Int32) &&& 31)) ||| (((own_idx q (4 : Int32) (9 : Int32)).toInt8.toInt32).toInt8.toInt32)) := by first | rfl | (simp [own_cu, own_cv, own_L])
      rw [hs]
      simp only [own_ib4]
      rw [own_f4_2]
    · rw [show ((((6 : Int32).toInt.toNat * 4 + 7) / 8) + (5 * 4) / 8 : Nat).toInt32 = (5 : Int32) from by decide, own_c4_6_1_2, own_bb]
      have hs : own_cv 4 (4 : Int32) (fun i => (own_L q (4 : Int32)).getD ((6 : Int32).toInt.toNat + i) 0) 5 = (((((0 : Int32) <<< ((4 : Int32) &&& 31)) ||| (((own_idx q (4 : Int32) (10 : Int32)).toInt8.toInt32).toInt8.toInt32)) <<< ((4 : Int32) &&& 31)) ||| (((own_idx q (4 : Int32) (11 : Int32)).toInt8.toInt32).toInt8.toInt32)) := by first | rfl | (simp [own_cu, own_cv, own_L])
      rw [hs]
      simp only [own_ib4]
      rw [own_f4_2]
  · have hz : ((7 : Int32)).toInt = 7 := rfl
    have hn : n = 1 ∨ n = 3 ∨ n = 5 := by omega
    rcases hn with rfl | rfl | rfl
    · rw [show ((((7 : Int32).toInt.toNat * 4 + 7) / 8) + (1 * 4) / 8 : Nat).toInt32 = (4 : Int32) from by decide, own_c4_7_1_0, own_bb]
      have hs : own_cv 4 (4 : Int32) (fun i => (own_L q (4 : Int32)).getD ((7 : Int32).toInt.toNat + i) 0) 1 = (((((0 : Int32) <<< ((4 : Int32) &&& 31)) ||| (((own_idx q (4 : Int32) (7 : Int32)).toInt8.toInt32).toInt8.toInt32)) <<< ((4 : Int32) &&& 31)) ||| (((own_idx q (4 : Int32) (8 : Int32)).toInt8.toInt32).toInt8.toInt32)) := by first | rfl | (simp [own_cu, own_cv, own_L])
      rw [hs]
      simp only [own_ib4]
      rw [own_f4_2]
    · rw [show ((((7 : Int32).toInt.toNat * 4 + 7) / 8) + (3 * 4) / 8 : Nat).toInt32 = (5 : Int32) from by decide, own_c4_7_1_1, own_bb]
      have hs : own_cv 4 (4 : Int32) (fun i => (own_L q (4 : Int32)).getD ((7 : Int32).toInt.toNat + i) 0) 3 = (((((0 : Int32) <<< ((4 : Int32) &&& 31)) ||| (((own_idx q (4 : Int32) (9 : Int32)).toInt8.toInt32).toInt8.toInt32)) <<< ((4 : Int32) &&& 31)) ||| (((own_idx q (4 : Int32) (10 : Int32)).toInt8.toInt32).toInt8.toInt32)) := by first | rfl | (simp [own_cu, own_cv, own_L])
      rw [hs]
      simp only [own_ib4]
      rw [own_f4_2]
    · rw [show ((((7 : Int32).toInt.toNat * 4 + 7) / 8) + (5 * 4) / 8 : Nat).toInt32 = (6 : Int32) from by decide, own_c4_7_1_2, own_bb]
      have hs : own_cv 4 (4 : Int32) (fun i => (own_L q (4 : Int32)).getD ((7 : Int32).toInt.toNat + i) 0) 5 = (((((0 : Int32) <<< ((4 : Int32) &&& 31)) ||| (((own_idx q (4 : Int32) (11 : Int32)).toInt8.toInt32).toInt8.toInt32)) <<< ((4 : Int32) &&& 31)) ||| (((own_idx q (4 : Int32) (12 : Int32)).toInt8.toInt32).toInt8.toInt32)) := by first | rfl | (simp [own_cu, own_cv, own_L])
      rw [hs]
      simp only [own_ib4]
      rw [own_f4_2]
  · have hz : ((8 : Int32)).toInt = 8 := rfl
    have hn : n = 1 ∨ n = 3 ∨ n = 5 ∨ n = 7 := by omega
    rcases hn with rfl | rfl | rfl | rfl
    · rw [show ((((8 : Int32).toInt.toNat * 4 + 7) / 8) + (1 * 4) / 8 : Nat).toInt32 = (4 : Int32) from by decide, own_c4_8_1_0, own_bb]
      have hs : own_cv 4 (4 : Int32) (fun i => (own_L q (4 : Int32)).getD ((8 : Int32).toInt.toNat + i) 0) 1 = (((((0 : Int32) <<< ((4 : Int32) &&& 31)) ||| (((own_idx q (4 : Int32) (8 : Int32)).toInt8.toInt32).toInt8.toInt32)) <<< ((4 : Int32) &&& 31)) ||| (((own_idx q (4 : Int32) (9 : Int32)).toInt8.toInt32).toInt8.toInt32)) := by first | rfl | (simp [own_cu, own_cv, own_L])
      rw [hs]
      simp only [own_ib4]
      rw [own_f4_2]
    · rw [show ((((8 : Int32).toInt.toNat * 4 + 7) / 8) + (3 * 4) / 8 : Nat).toInt32 = (5 : Int32) from by decide, own_c4_8_1_1, own_bb]
      have hs : own_cv 4 (4 : Int32) (fun i => (own_L q (4 : Int32)).getD ((8 : Int32).toInt.toNat + i) 0) 3 = (((((0 : Int32) <<< ((4 : Int32) &&& 31)) ||| (((own_idx q (4 : Int32) (10 : Int32)).toInt8.toInt32).toInt8.toInt32)) <<< ((4 : Int32) &&& 31)) ||| (((own_idx q (4 : Int32) (11 : Int32)).toInt8.toInt32).toInt8.toInt32)) := by first | rfl | (simp [own_cu, own_cv, own_L])
      rw [hs]
      simp only [own_ib4]
      rw [own_f4_2]
    · rw [show ((((8 : Int32).toInt.toNat * 4 + 7) / 8) + (5 * 4) / 8 : Nat).toInt32 = (6 : Int32) from by decide, own_c4_8_1_2, own_bb]
      have hs : own_cv 4 (4 : Int32) (fun i => (own_L q (4 : Int32)).getD ((8 : Int32).toInt.toNat + i) 0) 5 = (((((0 : Int32) <<< ((4 : Int32) &&& 31)) ||| (((own_idx q (4 : Int32) (12 : Int32)).toInt8.toInt32).toInt8.toInt32)) <<< ((4 : Int32) &&& 31)) ||| (((own_idx q (4 : Int32) (13 : Int32)).toInt8.toInt32).toInt8.toInt32)) := by first | rfl | (simp [own_cu, own_cv, own_L])
      rw [hs]
      simp only [own_ib4]
      rw [own_f4_2]
    · rw [show ((((8 : Int32).toInt.toNat * 4 + 7) / 8) + (7 * 4) / 8 : Nat).toInt32 = (7 : Int32) from by decide, own_c4_8_1_3, own_bb]
      have hs : own_cv 4 (4 : Int32) (fun i => (own_L q (4 : Int32)).getD ((8 : Int32).toInt.toNat + i) 0) 7 = (((((0 : Int32) <<< ((4 : Int32) &&& 31)) ||| (((own_idx q (4 : Int32) (14 : Int32)).toInt8.toInt32).toInt8.toInt32)) <<< ((4 : Int32) &&& 31)) ||| (((own_idx q (4 : Int32) (15 : Int32)).toInt8.toInt32).toInt8.toInt32)) := by first | rfl | (simp [own_cu, own_cv, own_L])
      rw [hs]
      simp only [own_ib4]
      rw [own_f4_2]
theorem own_GP4_1 (q : Int64) {w : Int32} (hw : w = 0 ∨ w = 1 ∨ w = 2 ∨ w = 3 ∨ w = 4 ∨ w = 5 ∨ w = 6 ∨ w = 7 ∨ w = 8) : ∀ u : Int32, u.toInt = (w.toInt * 4) % 8 → 0 < u.toInt → own_pin q w (4 : Int32) ((((w.toInt.toNat * 4 + 7) / 8) + (w.toInt.toNat * 4) / 8 : Nat).toInt32) = ((((own_cu 4 (4 : Int32) (fun i => (own_L q (4 : Int32)).getD (w.toInt.toNat + i) 0) w.toInt.toNat) <<< (((8 : Int32) - u) &&& 31)).toInt8.toInt32).toInt8.toInt32) := by
  intro u h1 h2
  rcases hw with rfl | rfl | rfl | rfl | rfl | rfl | rfl | rfl | rfl
  · have hz : ((0 : Int32)).toInt = 0 := rfl
    omega
  · have hz : ((1 : Int32)).toInt = 1 := rfl
    obtain rfl : u = (4 : Int32) := Int32.toInt_inj.mp (by have hq : ((4 : Int32)).toInt = 4 := rfl; omega)
    rw [show ((((1 : Int32).toInt.toNat * 4 + 7) / 8) + ((1 : Int32).toInt.toNat * 4) / 8 : Nat).toInt32 = (1 : Int32) from by decide, own_c4_1_1_0, own_bb]
    have hs : own_cu 4 (4 : Int32) (fun i => (own_L q (4 : Int32)).getD ((1 : Int32).toInt.toNat + i) 0) ((1 : Int32).toInt.toNat) = (((0 : Int32) <<< ((4 : Int32) &&& 31)) ||| (((own_idx q (4 : Int32) (1 : Int32)).toInt8.toInt32).toInt8.toInt32)) := by first | rfl | (simp [own_cu, own_cv, own_L])
    rw [hs]
    rw [show ((8 : Int32) - (4 : Int32)) = (4 : Int32) from by decide]
    simp only [own_ib4]
    rw [own_f4_1]
  · have hz : ((2 : Int32)).toInt = 2 := rfl
    omega
  · have hz : ((3 : Int32)).toInt = 3 := rfl
    obtain rfl : u = (4 : Int32) := Int32.toInt_inj.mp (by have hq : ((4 : Int32)).toInt = 4 := rfl; omega)
    rw [show ((((3 : Int32).toInt.toNat * 4 + 7) / 8) + ((3 : Int32).toInt.toNat * 4) / 8 : Nat).toInt32 = (3 : Int32) from by decide, own_c4_3_1_1, own_bb]
    have hs : own_cu 4 (4 : Int32) (fun i => (own_L q (4 : Int32)).getD ((3 : Int32).toInt.toNat + i) 0) ((3 : Int32).toInt.toNat) = (((0 : Int32) <<< ((4 : Int32) &&& 31)) ||| (((own_idx q (4 : Int32) (5 : Int32)).toInt8.toInt32).toInt8.toInt32)) := by first | rfl | (simp [own_cu, own_cv, own_L])
    rw [hs]
    rw [show ((8 : Int32) - (4 : Int32)) = (4 : Int32) from by decide]
    simp only [own_ib4]
    rw [own_f4_1]
  · have hz : ((4 : Int32)).toInt = 4 := rfl
    omega
  · have hz : ((5 : Int32)).toInt = 5 := rfl
    obtain rfl : u = (4 : Int32) := Int32.toInt_inj.mp (by have hq : ((4 : Int32)).toInt = 4 := rfl; omega)
    rw [show ((((5 : Int32).toInt.toNat * 4 + 7) / 8) + ((5 : Int32).toInt.toNat * 4) / 8 : Nat).toInt32 = (5 : Int32) from by decide, own_c4_5_1_2, own_bb]
    have hs : own_cu 4 (4 : Int32) (fun i => (own_L q (4 : Int32)).getD ((5 : Int32).toInt.toNat + i) 0) ((5 : Int32).toInt.toNat) = (((0 : Int32) <<< ((4 : Int32) &&& 31)) ||| (((own_idx q (4 : Int32) (9 : Int32)).toInt8.toInt32).toInt8.toInt32)) := by first | rfl | (simp [own_cu, own_cv, own_L])
    rw [hs]
    rw [show ((8 : Int32) - (4 : Int32)) = (4 : Int32) from by decide]
    simp only [own_ib4]
    rw [own_f4_1]
  · have hz : ((6 : Int32)).toInt = 6 := rfl
    omega
  · have hz : ((7 : Int32)).toInt = 7 := rfl
    obtain rfl : u = (4 : Int32) := Int32.toInt_inj.mp (by have hq : ((4 : Int32)).toInt = 4 := rfl; omega)
    rw [show ((((7 : Int32).toInt.toNat * 4 + 7) / 8) + ((7 : Int32).toInt.toNat * 4) / 8 : Nat).toInt32 = (7 : Int32) from by decide, own_c4_7_1_3, own_bb]
    have hs : own_cu 4 (4 : Int32) (fun i => (own_L q (4 : Int32)).getD ((7 : Int32).toInt.toNat + i) 0) ((7 : Int32).toInt.toNat) = (((0 : Int32) <<< ((4 : Int32) &&& 31)) ||| (((own_idx q (4 : Int32) (13 : Int32)).toInt8.toInt32).toInt8.toInt32)) := by first | rfl | (simp [own_cu, own_cv, own_L])
    rw [hs]
    rw [show ((8 : Int32) - (4 : Int32)) = (4 : Int32) from by decide]
    simp only [own_ib4]
    rw [own_f4_1]
  · have hz : ((8 : Int32)).toInt = 8 := rfl
    omega
theorem ef_3b4 (m : MethodId) (x0 : Addr) (x1 : Int32) (x2 : Int32) (x3 : Int32) (x4 : Addr) (x5 : Int32) : entryFrame m #[(.ref x0), (.int x1), (.int x2), (.int x3), (.ref x4), (.int x5)] 11 = mkF m 0 #[.val (.ref x0), .val (.int x1), .val (.int x2), .val (.int x3), .val (.ref x4), .val (.int x5), .unset, .unset, .unset, .unset, .unset] [] := by first | (simp [entryFrame, mkF, argsToLocals, Value.category]; done) | rfl
def Q3b4 (Z : State) (a1 : Addr) (a2 : Addr) (p1 : Int32) (p2 : Int32) (p5 : Int32) (xs : List Int32) (ys : List Int32) (G : Nat → Int32) (h0 : Heap) (n0 : Nat) (v : Option Value) (h : Heap) (L : List Loc) : Prop := ∃ (r : Int32) (w2 : List Value), v = some (.int r) ∧ Fr n0 L ∧ Keep h0 h [a2] ∧ own_A Z h a2 .byte w2 ∧ (r.toInt = p5.toInt + p2.toInt * ((p1.toInt * 4 + 7) / 8)) ∧ (own_Ow ys p5.toInt.toNat (r.toInt - p5.toInt).toNat G w2)
set_option maxHeartbeats 40000000 in
theorem rm3b4 (l : Launch) (Z : State) (a0 : Array Value) (hw : ∀ d ∈ tables_1, d.before a0 Z = true) (ws : List Jvm.Cond) (a1 : Addr) (a2 : Addr) (p1 : Int32) (p2 : Int32) (p5 : Int32) (xs : List Int32) (ys : List Int32) (G : Nat → Int32) (h0 : Heap) (n0 : Nat) (Z0 : n0 ≤ h0.size) (F0 : own_A Z h0 a1 .byte (xs.map Value.int)) (F1 : own_A Z h0 a2 .byte (ys.map Value.int)) (na : a1 ≠ a2) (ga : n0 ≤ a2) (hw1 : 0 ≤ p1.toInt ∧ p1.toInt ≤ 8) (hhe : 0 ≤ p2.toInt ∧ p2.toInt ≤ 2) (ho5 : 0 ≤ p5.toInt ∧ p5.toInt ≤ 7) (hlx : xs.length = 16) (hly : ys.length = 16) (hg0 : ∀ n : Nat, (n : Int) < p1.toInt → ((n + 1) * 4) % 8 = 0 → G (0 + (n * 4) / 8) = ((own_cv 4 (4 : Int32) (fun i => xs.getD (0 + i) 0) n).toInt8.toInt32).toInt8.toInt32) (hp0 : ∀ u : Int32, u.toInt = (p1.toInt * 4) % 8 → 0 < u.toInt → G (0 + (p1.toInt.toNat * 4) / 8) = ((((own_cu 4 (4 : Int32) (fun i => xs.getD (0 + i) 0) p1.toInt.toNat) <<< (((8 : Int32) - u) &&& 31)).toInt8.toInt32).toInt8.toInt32)) (hg1 : ∀ n : Nat, (n : Int) < p1.toInt → ((n + 1) * 4) % 8 = 0 → G (((p1.toInt.toNat * 4 + 7) / 8) + (n * 4) / 8) = ((own_cv 4 (4 : Int32) (fun i => xs.getD (p1.toInt.toNat + i) 0) n).toInt8.toInt32).toInt8.toInt32) (hp1 : ∀ u : Int32, u.toInt = (p1.toInt * 4) % 8 → 0 < u.toInt → G (((p1.toInt.toNat * 4 + 7) / 8) + (p1.toInt.toNat * 4) / 8) = ((((own_cu 4 (4 : Int32) (fun i => xs.getD (p1.toInt.toNat + i) 0) p1.toInt.toNat) <<< (((8 : Int32) - u) &&& 31)).toInt8.toInt32).toInt8.toInt32)) :
    MetFree l (⟨"com/example/relayframe/relayframe/Palette", "pack", "([BIII[BI)I"⟩ : MethodName) (head1 (Jvm.Cond.code (⟨"com/example/relayframe/relayframe/Palette", "pack", "([BIII[BI)I"⟩ : MethodName) prog_3_method_7_code 11 (some .int) :: ws) ({ frames := 0, cells := 0, slots := 0, locals := 0 } : Room)) (fun a U => a = #[(.ref a1), (.int p1), (.int p2), (.int (4 : Int32)), (.ref a2), (.int p5)] ∧ Z.Warmed39 U.vm ∧ U.heap = h0) (fun _ _ _ _ _ => True) (fun _ U o U' => ∃ v L, o = .returned v ∧ Q3b4 Z a1 a2 p1 p2 p5 xs ys G h0 n0 v U'.heap L ∧ FrameEnd U o U' L ({ frames := 0, cells := 0, slots := 0, locals := 0 } : Room).cells ({ frames := 0, cells := 0, slots := 0, locals := 0 } : Room).slots) := by
  refine MetFree.of_bodySF (plainFor_of_name own_pn2) hisR ?_
  intro p e s m args below meth c s₁ Bd hml0 hP hK
  obtain ⟨rfl, hZ, hh⟩ := hP
  have hx := Bd.exec
  have hby := Bd.bytes
  have hml : c.maxLocals = 11 := hml0
  have hlk : meth.locks = false := BodyLoose.notSynchronized Bd
  have hown : s.vm.findClass "com/example/relayframe/relayframe/Palette" = some m.cls := findClass_of_methodNamed Bd.named
  have hnm := (name_of_methodNamed Bd.named Bd.method).1
  have X0 : Stand p l e ({ frames := 0, cells := 0, slots := 0, locals := 0 } : Room) s m #[(.ref a1), (.int p1), (.int p2), (.int (4 : Int32)), (.ref a2), (.int p5)] below meth c s₁ [] 0 0 := Stand.of_body Bd
  have e0 : s₁.heap = h0 := by rw [← hh, Bd.state]; rfl
  have N0 := Fr.nil n0
  show own_Go p e below s (Q3b4 Z a1 a2 p1 p2 p5 xs ys G h0 n0) ({ frames := 0, cells := 0, slots := 0, locals := 0 } : Room).cells ({ frames := 0, cells := 0, slots := 0, locals := 0 } : Room).slots _
  refine own_st (B := s₁.setTop (mkF m 0 #[(rV a1), (iV p1), (iV p2), (iV (4 : Int32)), (rV a2), (iV p5), uV, uV, uV, uV, uV] [])) (fun t k => castTop (ef_3b4 m (a1) (p1) (p2) ((4 : Int32)) (a2) (p5)) k) ?_
  refine own_st (B := s₁.setTop (mkF m 2 #[(rV a1), (iV p1), (iV p2), (iV (4 : Int32)), (rV a2), (iV p5), uV, uV, uV, uV, uV] [(.int p5)])) (fun t k => XS.iload X0.here hx rfl (hb hby d3_0) rfl k) ?_
  refine own_st (B := s₁.setTop (mkF m 4 #[(rV a1), (iV p1), (iV p2), (iV (4 : Int32)), (rV a2), (iV p5), (iV p5), uV, uV, uV, uV] [])) (fun t k => XS.istore X0.here hx rfl (hb hby d3_2) rfl (l' := #[(rV a1), (iV p1), (iV p2), (iV (4 : Int32)), (rV a2), (iV p5), (iV p5), uV, uV, uV, uV]) rfl k) ?_
  refine own_st (B := s₁.setTop (mkF m 5 #[(rV a1), (iV p1), (iV p2), (iV (4 : Int32)), (rV a2), (iV p5), (iV p5), uV, uV, uV, uV] [(.int (0 : Int32))])) (fun t k => XS.iconst X0.here hx rfl (hb hby d3_4) k) ?_
  refine own_st (B := s₁.setTop (mkF m 7 #[(rV a1), (iV p1), (iV p2), (iV (4 : Int32)), (rV a2), (iV p5), (iV p5), (iV (0 : Int32)), uV, uV, uV] [])) (fun t k => XS.istore X0.here hx rfl (hb hby d3_5) rfl (l' := #[(rV a1), (iV p1), (iV p2), (iV (4 : Int32)), (rV a2), (iV p5), (iV p5), (iV (0 : Int32)), uV, uV, uV]) rfl k) ?_
  refine own_st (B := s₁.setTop (mkF m 9 #[(rV a1), (iV p1), (iV p2), (iV (4 : Int32)), (rV a2), (iV p5), (iV p5), (iV (0 : Int32)), uV, uV, uV] [(.int (0 : Int32))])) (fun t k => XS.iload X0.here hx rfl (hb hby d3_7) rfl k) ?_
  refine own_st (B := s₁.setTop (mkF m 10 #[(rV a1), (iV p1), (iV p2), (iV (4 : Int32)), (rV a2), (iV p5), (iV p5), (iV (0 : Int32)), uV, uV, uV] [(.int p2), (.int (0 : Int32))])) (fun t k => XS.iloadN X0.here hx rfl (hb hby d3_9) rfl k) ?_
  by_cases hc1 : (0 : Int32) < p2
  · refine own_st (B := s₁.setTop (mkF m 13 #[(rV a1), (iV p1), (iV p2), (iV (4 : Int32)), (rV a2), (iV p5), (iV p5), (iV (0 : Int32)), uV, uV, uV] [])) (fun t k => XS.icmpNo X0.here hx rfl (hb hby d3_10) rfl (XT.ii_ge_f hc1) k) ?_
    refine own_st (B := s₁.setTop (mkF m 14 #[(rV a1), (iV p1), (iV p2), (iV (4 : Int32)), (rV a2), (iV p5), (iV p5), (iV (0 : Int32)), uV, uV, uV] [(.int (0 : Int32))])) (fun t k => XS.iconst X0.here hx rfl (hb hby d3_13) k) ?_
    refine own_st (B := s₁.setTop (mkF m 16 #[(rV a1), (iV p1), (iV p2), (iV (4 : Int32)), (rV a2), (iV p5), (iV p5), (iV (0 : Int32)), (iV (0 : Int32)), uV, uV] [])) (fun t k => XS.istore X0.here hx rfl (hb hby d3_14) rfl (l' := #[(rV a1), (iV p1), (iV p2), (iV (4 : Int32)), (rV a2), (iV p5), (iV p5), (iV (0 : Int32)), (iV (0 : Int32)), uV, uV]) rfl k) ?_
    refine own_st (B := s₁.setTop (mkF m 17 #[(rV a1), (iV p1), (iV p2), (iV (4 : Int32)), (rV a2), (iV p5), (iV p5), (iV (0 : Int32)), (iV (0 : Int32)), uV, uV] [(.int (0 : Int32))])) (fun t k => XS.iconst X0.here hx rfl (hb hby d3_16) k) ?_
    refine own_st (B := s₁.setTop (mkF m 19 #[(rV a1), (iV p1), (iV p2), (iV (4 : Int32)), (rV a2), (iV p5), (iV p5), (iV (0 : Int32)), (iV (0 : Int32)), (iV (0 : Int32)), uV] [])) (fun t k => XS.istore X0.here hx rfl (hb hby d3_17) rfl (l' := #[(rV a1), (iV p1), (iV p2), (iV (4 : Int32)), (rV a2), (iV p5), (iV p5), (iV (0 : Int32)), (iV (0 : Int32)), (iV (0 : Int32)), uV]) rfl k) ?_
    refine own_st (B := s₁.setTop (mkF m 20 #[(rV a1), (iV p1), (iV p2), (iV (4 : Int32)), (rV a2), (iV p5), (iV p5), (iV (0 : Int32)), (iV (0 : Int32)), (iV (0 : Int32)), uV] [(.int (0 : Int32))])) (fun t k => XS.iconst X0.here hx rfl (hb hby d3_19) k) ?_
    refine own_st (B := s₁.setTop (mkF m 22 #[(rV a1), (iV p1), (iV p2), (iV (4 : Int32)), (rV a2), (iV p5), (iV p5), (iV (0 : Int32)), (iV (0 : Int32)), (iV (0 : Int32)), (iV (0 : Int32))] [])) (fun t k => XS.istore X0.here hx rfl (hb hby d3_20) rfl (l' := #[(rV a1), (iV p1), (iV p2), (iV (4 : Int32)), (rV a2), (iV p5), (iV p5), (iV (0 : Int32)), (iV (0 : Int32)), (iV (0 : Int32)), (iV (0 : Int32))]) rfl k) ?_
    refine own_cut (P := ∀ (mu2 : Nat) (T2 : State) (lo2 : List Loc) (h2 : Heap) (oo0 : Int32) (cu0 : Int32) (us0 : Int32) (cc0 : Int32) (vv0 : List Value), Stand p l e ({ frames := 0, cells := 0, slots := 0, locals := 0 } : Room) s m #[(.ref a1), (.int p1), (.int p2), (.int (4 : Int32)), (.ref a2), (.int p5)] below meth c T2 lo2 0 0 → T2.heap = h2 → Fr n0 lo2 → n0 ≤ h2.size → Keep h0 h2 [a2] → own_A Z h2 a1 .byte (xs.map Value.int) → own_A Z h2 a2 .byte vv0 → mu2 = (p1.toInt - cc0.toInt).toNat → (0 ≤ cc0.toInt ∧ cc0.toInt ≤ p1.toInt) → (us0.toInt = (cc0.toInt * 4) % 8) → (oo0.toInt = p5.toInt + 0 + (cc0.toInt * 4) / 8) → (cu0 = own_cu 4 (4 : Int32) (fun i => xs.getD (0 + i) 0) cc0.toInt.toNat) → (own_Ow ys p5.toInt.toNat (0 + (cc0.toInt.toNat * 4) / 8) G vv0) → own_Go p e below s (Q3b4 Z a1 a2 p1 p2 p5 xs ys G h0 n0) ({ frames := 0, cells := 0, slots := 0, locals := 0 } : Room).cells ({ frames := 0, cells := 0, slots := 0, locals := 0 } : Room).slots (T2.setTop (mkF m 22 #[(rV a1), (iV p1), (iV p2), (iV (4 : Int32)), (rV a2), (iV p5), (iV oo0), (iV (0 : Int32)), (iV cu0), (iV us0), (iV cc0)] []))) (fun J2 => ?_) ?_
    · exact J2 _ s₁ _ _ p5 (0 : Int32) (0 : Int32) (0 : Int32) (ys.map Value.int) X0 e0 N0 Z0 (Keep.refl h0 [a2]) F0 F1 rfl (show 0 ≤ (0 : Int32).toInt ∧ (0 : Int32).toInt ≤ p1.toInt by have z0 : (0 : Int32).toInt = 0 := rfl; omega) (show (0 : Int32).toInt = ((0 : Int32).toInt * 4) % 8 by have z0 : (0 : Int32).toInt = 0 := rfl; omega) (show p5.toInt = p5.toInt + 0 + ((0 : Int32).toInt * 4) / 8 by have z0 : (0 : Int32).toInt = 0 := rfl; omega) (show (0 : Int32) = own_cu 4 (4 : Int32) (fun i => xs.getD (0 + i) 0) (0 : Int32).toInt.toNat by rfl) (show own_Ow ys p5.toInt.toNat (0 + ((0 : Int32).toInt.toNat * 4) / 8) G (ys.map Value.int) by have z1 : ((0 : Int32).toInt.toNat * 4) / 8 = 0 := rfl; rw [z1]; exact own_Ow.start hly)
    intro mu2
    induction mu2 using Nat.strongRecOn with
    | ind mu2 ih2 =>
      intro T2 lo2 h2 oo0 cu0 us0 cc0 vv0 X2 e2 N2 z2 kp2 lf2_0 lf2_1 hmu2 hc0 hu0 hO0 hC0 hV0
      refine own_st (B := T2.setTop (mkF m 24 #[(rV a1), (iV p1), (iV p2), (iV (4 : Int32)), (rV a2), (iV p5), (iV oo0), (iV (0 : Int32)), (iV cu0), (iV us0), (iV cc0)] [(.int cc0)])) (fun t k => XS.iload X2.here hx rfl (hb hby d3_22) rfl k) ?_
      refine own_st (B := T2.setTop (mkF m 25 #[(rV a1), (iV p1), (iV p2), (iV (4 : Int32)), (rV a2), (iV p5), (iV oo0), (iV (0 : Int32)), (iV cu0), (iV us0), (iV cc0)] [(.int p1), (.int cc0)])) (fun t k => XS.iloadN X2.here hx rfl (hb hby d3_24) rfl k) ?_
      by_cases hc3 : cc0 < p1
      · refine own_st (B := T2.setTop (mkF m 28 #[(rV a1), (iV p1), (iV p2), (iV (4 : Int32)), (rV a2), (iV p5), (iV oo0), (iV (0 : Int32)), (iV cu0), (iV us0), (iV cc0)] [])) (fun t k => XS.icmpNo X2.here hx rfl (hb hby d3_25) rfl (XT.ii_ge_f hc3) k) ?_
        refine own_st (B := T2.setTop (mkF m 30 #[(rV a1), (iV p1), (iV p2), (iV (4 : Int32)), (rV a2), (iV p5), (iV oo0), (iV (0 : Int32)), (iV cu0), (iV us0), (iV cc0)] [(.int cu0)])) (fun t k => XS.iload X2.here hx rfl (hb hby d3_28) rfl k) ?_
        refine own_st (B := T2.setTop (mkF m 31 #[(rV a1), (iV p1), (iV p2), (iV (4 : Int32)), (rV a2), (iV p5), (iV oo0), (iV (0 : Int32)), (iV cu0), (iV us0), (iV cc0)] [(.int (4 : Int32)), (.int cu0)])) (fun t k => XS.iloadN X2.here hx rfl (hb hby d3_30) rfl k) ?_
        refine own_st (B := T2.setTop (mkF m 32 #[(rV a1), (iV p1), (iV p2), (iV (4 : Int32)), (rV a2), (iV p5), (iV oo0), (iV (0 : Int32)), (iV cu0), (iV us0), (iV cc0)] [(.int (cu0 <<< ((4 : Int32) &&& 31)))])) (fun t k => XS.ishl X2.here hx rfl (hb hby d3_31) rfl k) ?_
        refine own_st (B := T2.setTop (mkF m 33 #[(rV a1), (iV p1), (iV p2), (iV (4 : Int32)), (rV a2), (iV p5), (iV oo0), (iV (0 : Int32)), (iV cu0), (iV us0), (iV cc0)] [(.ref a1), (.int (cu0 <<< ((4 : Int32) &&& 31)))])) (fun t k => XS.aloadN X2.here hx rfl (hb hby d3_32) rfl rfl k) ?_
        refine own_st (B := T2.setTop (mkF m 35 #[(rV a1), (iV p1), (iV p2), (iV (4 : Int32)), (rV a2), (iV p5), (iV oo0), (iV (0 : Int32)), (iV cu0), (iV us0), (iV cc0)] [(.int (0 : Int32)), (.ref a1), (.int (cu0 <<< ((4 : Int32) &&& 31)))])) (fun t k => XS.iload X2.here hx rfl (hb hby d3_33) rfl k) ?_
        refine own_st (B := T2.setTop (mkF m 36 #[(rV a1), (iV p1), (iV p2), (iV (4 : Int32)), (rV a2), (iV p5), (iV oo0), (iV (0 : Int32)), (iV cu0), (iV us0), (iV cc0)] [(.int p1), (.int (0 : Int32)), (.ref a1), (.int (cu0 <<< ((4 : Int32) &&& 31)))])) (fun t k => XS.iloadN X2.here hx rfl (hb hby d3_35) rfl k) ?_
        refine own_st (B := T2.setTop (mkF m 37 #[(rV a1), (iV p1), (iV p2), (iV (4 : Int32)), (rV a2), (iV p5), (iV oo0), (iV (0 : Int32)), (iV cu0), (iV us0), (iV cc0)] [(.int ((0 : Int32) * p1)), (.ref a1), (.int (cu0 <<< ((4 : Int32) &&& 31)))])) (fun t k => XS.imul X2.here hx rfl (hb hby d3_36) rfl k) ?_
        refine own_st (B := T2.setTop (mkF m 39 #[(rV a1), (iV p1), (iV p2), (iV (4 : Int32)), (rV a2), (iV p5), (iV oo0), (iV (0 : Int32)), (iV cu0), (iV us0), (iV cc0)] [(.int cc0), (.int ((0 : Int32) * p1)), (.ref a1), (.int (cu0 <<< ((4 : Int32) &&& 31)))])) (fun t k => XS.iload X2.here hx rfl (hb hby d3_37) rfl k) ?_
        refine own_st (B := T2.setTop (mkF m 40 #[(rV a1), (iV p1), (iV p2), (iV (4 : Int32)), (rV a2), (iV p5), (iV oo0), (iV (0 : Int32)), (iV cu0), (iV us0), (iV cc0)] [(.int (((0 : Int32) * p1) + cc0)), (.ref a1), (.int (cu0 <<< ((4 : Int32) &&& 31)))])) (fun t k => XS.iadd X2.here hx rfl (hb hby d3_39) rfl k) ?_
        have hltA := Int32.lt_iff_toInt_lt.mp hc3
        refine own_st (B := T2.setTop (mkF m 41 #[(rV a1), (iV p1), (iV p2), (iV (4 : Int32)), (rV a2), (iV p5), (iV oo0), (iV (0 : Int32)), (iV cu0), (iV us0), (iV cc0)] [(.int (xs.getD (0 + cc0.toInt.toNat) 0)), (.int (cu0 <<< ((4 : Int32) &&& 31)))])) (fun t k => own_ldB X2 hx hZ e2 lf2_0 (g := (mkF m 40 #[(rV a1), (iV p1), (iV p2), (iV (4 : Int32)), (rV a2), (iV p5), (iV oo0), (iV (0 : Int32)), (iV cu0), (iV us0), (iV cc0)] [(.int (((0 : Int32) * p1) + cc0)), (.ref a1), (.int (cu0 <<< ((4 : Int32) &&& 31)))])) (i := (0 + cc0.toInt.toNat)) (own_r0 hw1 (by omega)) (own_getI (by omega)) rfl rfl (hb hby d3_40) k) ?_
        refine own_st (B := T2.setTop (mkF m 42 #[(rV a1), (iV p1), (iV p2), (iV (4 : Int32)), (rV a2), (iV p5), (iV oo0), (iV (0 : Int32)), (iV cu0), (iV us0), (iV cc0)] [(.int ((cu0 <<< ((4 : Int32) &&& 31)) ||| (xs.getD (0 + cc0.toInt.toNat) 0)))])) (fun t k => XS.ior X2.here hx rfl (hb hby d3_41) rfl k) ?_
        obtain ⟨v4, ev4⟩ : ∃ z : Int32, z = ((cu0 <<< ((4 : Int32) &&& 31)) ||| (xs.getD (0 + cc0.toInt.toNat) 0)) := ⟨_, rfl⟩
        rw [← ev4]
        refine own_st (B := T2.setTop (mkF m 44 #[(rV a1), (iV p1), (iV p2), (iV (4 : Int32)), (rV a2), (iV p5), (iV oo0), (iV (0 : Int32)), (iV v4), (iV us0), (iV cc0)] [])) (fun t k => XS.istore X2.here hx rfl (hb hby d3_42) rfl (l' := #[(rV a1), (iV p1), (iV p2), (iV (4 : Int32)), (rV a2), (iV p5), (iV oo0), (iV (0 : Int32)), (iV v4), (iV us0), (iV cc0)]) rfl k) ?_
        refine own_st (B := T2.setTop (mkF m 46 #[(rV a1), (iV p1), (iV p2), (iV (4 : Int32)), (rV a2), (iV p5), (iV oo0), (iV (0 : Int32)), (iV v4), (iV us0), (iV cc0)] [(.int us0)])) (fun t k => XS.iload X2.here hx rfl (hb hby d3_44) rfl k) ?_
        refine own_st (B := T2.setTop (mkF m 47 #[(rV a1), (iV p1), (iV p2), (iV (4 : Int32)), (rV a2), (iV p5), (iV oo0), (iV (0 : Int32)), (iV v4), (iV us0), (iV cc0)] [(.int (4 : Int32)), (.int us0)])) (fun t k => XS.iloadN X2.here hx rfl (hb hby d3_46) rfl k) ?_
        refine own_st (B := T2.setTop (mkF m 48 #[(rV a1), (iV p1), (iV p2), (iV (4 : Int32)), (rV a2), (iV p5), (iV oo0), (iV (0 : Int32)), (iV v4), (iV us0), (iV cc0)] [(.int (us0 + (4 : Int32)))])) (fun t k => XS.iadd X2.here hx rfl (hb hby d3_47) rfl k) ?_
        obtain ⟨v5, ev5⟩ : ∃ z : Int32, z = (us0 + (4 : Int32)) := ⟨_, rfl⟩
        rw [← ev5]
        refine own_st (B := T2.setTop (mkF m 50 #[(rV a1), (iV p1), (iV p2), (iV (4 : Int32)), (rV a2), (iV p5), (iV oo0), (iV (0 : Int32)), (iV v4), (iV v5), (iV cc0)] [])) (fun t k => XS.istore X2.here hx rfl (hb hby d3_48) rfl (l' := #[(rV a1), (iV p1), (iV p2), (iV (4 : Int32)), (rV a2), (iV p5), (iV oo0), (iV (0 : Int32)), (iV v4), (iV v5), (iV cc0)]) rfl k) ?_
        refine own_st (B := T2.setTop (mkF m 52 #[(rV a1), (iV p1), (iV p2), (iV (4 : Int32)), (rV a2), (iV p5), (iV oo0), (iV (0 : Int32)), (iV v4), (iV v5), (iV cc0)] [(.int v5)])) (fun t k => XS.iload X2.here hx rfl (hb hby d3_50) rfl k) ?_
        refine own_st (B := T2.setTop (mkF m 54 #[(rV a1), (iV p1), (iV p2), (iV (4 : Int32)), (rV a2), (iV p5), (iV oo0), (iV (0 : Int32)), (iV v4), (iV v5), (iV cc0)] [(.int (8 : Int32)), (.int v5)])) (fun t k => XS.bipush X2.here hx rfl (hb hby d3_52) k) ?_
        by_cases hc6 : v5 = (8 : Int32)
        · refine own_st (B := T2.setTop (mkF m 57 #[(rV a1), (iV p1), (iV p2), (iV (4 : Int32)), (rV a2), (iV p5), (iV oo0), (iV (0 : Int32)), (iV v4), (iV v5), (iV cc0)] [])) (fun t k => XS.icmpNo X2.here hx rfl (hb hby d3_54) rfl (XT.ii_ne_f hc6) k) ?_
          refine own_st (B := T2.setTop (mkF m 59 #[(rV a1), (iV p1), (iV p2), (iV (4 : Int32)), (rV a2), (iV p5), (iV oo0), (iV (0 : Int32)), (iV v4), (iV v5), (iV cc0)] [(.ref a2)])) (fun t k => XS.aload X2.here hx rfl (hb hby d3_57) rfl rfl k) ?_
          refine own_st (B := T2.setTop (mkF m 61 #[(rV a1), (iV p1), (iV p2), (iV (4 : Int32)), (rV a2), (iV p5), (iV oo0), (iV (0 : Int32)), (iV v4), (iV v5), (iV cc0)] [(.int oo0), (.ref a2)])) (fun t k => XS.iload X2.here hx rfl (hb hby d3_59) rfl k) ?_
          refine own_st (B := T2.setTop (mkF m 64 #[(rV a1), (iV p1), (iV p2), (iV (4 : Int32)), (rV a2), (iV p5), (iV (oo0 + (1 : Int32))), (iV (0 : Int32)), (iV v4), (iV v5), (iV cc0)] [(.int oo0), (.ref a2)])) (fun t k => XS.iinc X2.here hx rfl (hb hby d3_61) rfl (l' := #[(rV a1), (iV p1), (iV p2), (iV (4 : Int32)), (rV a2), (iV p5), (iV (oo0 + (1 : Int32))), (iV (0 : Int32)), (iV v4), (iV v5), (iV cc0)]) rfl k) ?_
          refine own_st (B := T2.setTop (mkF m 66 #[(rV a1), (iV p1), (iV p2), (iV (4 : Int32)), (rV a2), (iV p5), (iV (oo0 + (1 : Int32))), (iV (0 : Int32)), (iV v4), (iV v5), (iV cc0)] [(.int v4), (.int oo0), (.ref a2)])) (fun t k => XS.iload X2.here hx rfl (hb hby d3_64) rfl k) ?_
          refine own_st (B := T2.setTop (mkF m 67 #[(rV a1), (iV p1), (iV p2), (iV (4 : Int32)), (rV a2), (iV p5), (iV (oo0 + (1 : Int32))), (iV (0 : Int32)), (iV v4), (iV v5), (iV cc0)] [(.int (v4.toInt8.toInt32)), (.int oo0), (.ref a2)])) (fun t k => XS.i2b X2.here hx rfl (hb hby d3_66) rfl k) ?_
          have hltB := Int32.lt_iff_toInt_lt.mp hc3
          obtain ⟨T7, h7, X7, e7, W7, A7, st7⟩ := own_stB X2 hx hZ e2 lf2_1 (j := oo0) (x := (v4.toInt8.toInt32)) (i := (oo0.toInt.toNat)) (own_nat (by omega)) (by have h9 := hV0.1; omega) (g := (mkF m 67 #[(rV a1), (iV p1), (iV p2), (iV (4 : Int32)), (rV a2), (iV p5), (iV (oo0 + (1 : Int32))), (iV (0 : Int32)), (iV v4), (iV v5), (iV cc0)] [(.int (v4.toInt8.toInt32)), (.int oo0), (.ref a2)])) rfl rfl (hb hby d3_67)
          have f7_ : own_A Z h7 a2 .byte (vv0.set (oo0.toInt.toNat) (.int ((v4.toInt8.toInt32).toInt8.toInt32))) := A7
          have z8 : n0 ≤ h7.size := Nat.le_trans z2 (Keep.of_wr W7).1
          have kp8 : Keep h0 h7 [a2] := kp2.wr W7 (Or.inl (List.mem_of_getElem? (i := 0) rfl))
          have n9 := Fr.snoc X7 N2 ga
          refine own_st (B := T7.setTop (mkF m 68 #[(rV a1), (iV p1), (iV p2), (iV (4 : Int32)), (rV a2), (iV p5), (iV (oo0 + (1 : Int32))), (iV (0 : Int32)), (iV v4), (iV v5), (iV cc0)] [])) (fun t k => st7 t k) ?_
          refine own_st (B := T7.setTop (mkF m 69 #[(rV a1), (iV p1), (iV p2), (iV (4 : Int32)), (rV a2), (iV p5), (iV (oo0 + (1 : Int32))), (iV (0 : Int32)), (iV v4), (iV v5), (iV cc0)] [(.int (0 : Int32))])) (fun t k => XS.iconst X7.here hx rfl (hb hby d3_68) k) ?_
          refine own_st (B := T7.setTop (mkF m 71 #[(rV a1), (iV p1), (iV p2), (iV (4 : Int32)), (rV a2), (iV p5), (iV (oo0 + (1 : Int32))), (iV (0 : Int32)), (iV (0 : Int32)), (iV v5), (iV cc0)] [])) (fun t k => XS.istore X7.here hx rfl (hb hby d3_69) rfl (l' := #[(rV a1), (iV p1), (iV p2), (iV (4 : Int32)), (rV a2), (iV p5), (iV (oo0 + (1 : Int32))), (iV (0 : Int32)), (iV (0 : Int32)), (iV v5), (iV cc0)]) rfl k) ?_
          refine own_st (B := T7.setTop (mkF m 72 #[(rV a1), (iV p1), (iV p2), (iV (4 : Int32)), (rV a2), (iV p5), (iV (oo0 + (1 : Int32))), (iV (0 : Int32)), (iV (0 : Int32)), (iV v5), (iV cc0)] [(.int (0 : Int32))])) (fun t k => XS.iconst X7.here hx rfl (hb hby d3_71) k) ?_
          refine own_st (B := T7.setTop (mkF m 74 #[(rV a1), (iV p1), (iV p2), (iV (4 : Int32)), (rV a2), (iV p5), (iV (oo0 + (1 : Int32))), (iV (0 : Int32)), (iV (0 : Int32)), (iV (0 : Int32)), (iV cc0)] [])) (fun t k => XS.istore X7.here hx rfl (hb hby d3_72) rfl (l' := #[(rV a1), (iV p1), (iV p2), (iV (4 : Int32)), (rV a2), (iV p5), (iV (oo0 + (1 : Int32))), (iV (0 : Int32)), (iV (0 : Int32)), (iV (0 : Int32)), (iV cc0)]) rfl k) ?_
          refine own_st (B := T7.setTop (mkF m 77 #[(rV a1), (iV p1), (iV p2), (iV (4 : Int32)), (rV a2), (iV p5), (iV (oo0 + (1 : Int32))), (iV (0 : Int32)), (iV (0 : Int32)), (iV (0 : Int32)), (iV (cc0 + (1 : Int32)))] [])) (fun t k => XS.iinc X7.here hx rfl (hb hby d3_74) rfl (l' := #[(rV a1), (iV p1), (iV p2), (iV (4 : Int32)), (rV a2), (iV p5), (iV (oo0 + (1 : Int32))), (iV (0 : Int32)), (iV (0 : Int32)), (iV (0 : Int32)), (iV (cc0 + (1 : Int32)))]) rfl k) ?_
          refine own_st (B := T7.setTop (mkF m 22 #[(rV a1), (iV p1), (iV p2), (iV (4 : Int32)), (rV a2), (iV p5), (iV (oo0 + (1 : Int32))), (iV (0 : Int32)), (iV (0 : Int32)), (iV (0 : Int32)), (iV (cc0 + (1 : Int32)))] [])) (fun t k => XS.goto X7.here hx rfl (pc0 := 77) (pc' := 22) rfl (hb hby d3_77) (by decide) (by decide) k) ?_
          have hlt := Int32.lt_iff_toInt_lt.mp hc3
          have hcc := own_inc (x := cc0) (by omega)
          have hN : (cc0 + (1 : Int32)).toInt.toNat = cc0.toInt.toNat + 1 := by rw [hcc]; omega
          have hvu : v5.toInt = us0.toInt + 4 := by rw [ev5]; have g1 := c_iadd us0 (4 : Int32); have g2 := rng32 (us0 + (4 : Int32)); have g3 : ((4 : Int32)).toInt = 4 := rfl; omega
          have hv8 : v5.toInt = 8 := own_eq8.mp hc6
          have z0 : (0 : Int32).toInt = 0 := rfl
          have hoo := own_inc (x := oo0) (by omega)
          have hcv : own_cv 4 (4 : Int32) (fun i => xs.getD (0 + i) 0) cc0.toInt.toNat = v4 := by unfold own_cv; rw [← hC0]; exact ev4.symm
          have hn1 : 0 + ((cc0 + (1 : Int32)).toInt.toNat * 4) / 8 = (0 + (cc0.toInt.toNat * 4) / 8) + 1 := by rw [hN]; omega
          have f10 : own_A Z h7 a1 .byte (xs.map Value.int) := (lf2_0.other W7 na)
          exact ih2 _ (by rw [hcc]; omega) T7 _ _ ((oo0 + (1 : Int32))) (0 : Int32) (0 : Int32) ((cc0 + (1 : Int32))) ((vv0.set (oo0.toInt.toNat) (.int ((v4.toInt8.toInt32).toInt8.toInt32)))) X7 e7 n9 z8 kp8 f10 f7_ rfl (show 0 ≤ (cc0 + (1 : Int32)).toInt ∧ (cc0 + (1 : Int32)).toInt ≤ p1.toInt by rw [hcc]; omega) (show (0 : Int32).toInt = ((cc0 + (1 : Int32)).toInt * 4) % 8 by rw [hcc]; omega) (show (oo0 + (1 : Int32)).toInt = p5.toInt + 0 + ((cc0 + (1 : Int32)).toInt * 4) / 8 by rw [hoo, hcc]; omega) (show (0 : Int32) = own_cu 4 (4 : Int32) (fun i => xs.getD (0 + i) 0) (cc0 + (1 : Int32)).toInt.toNat by rw [hN, own_cu, if_pos (by omega)]) (show own_Ow ys p5.toInt.toNat (0 + ((cc0 + (1 : Int32)).toInt.toNat * 4) / 8) G (vv0.set (oo0.toInt.toNat) (.int ((v4.toInt8.toInt32).toInt8.toInt32))) by rw [hn1]; exact hV0.step (by omega) (by omega) (by rw [hg0 _ (by omega) (by omega), hcv]))
        · refine own_st (B := T2.setTop (mkF m 74 #[(rV a1), (iV p1), (iV p2), (iV (4 : Int32)), (rV a2), (iV p5), (iV oo0), (iV (0 : Int32)), (iV v4), (iV v5), (iV cc0)] [])) (fun t k => XS.icmpYes X2.here hx rfl (pc0 := 54) (pc' := 74) rfl (hb hby d3_54) rfl (XT.ii_ne_t hc6) (by decide) (by decide) k) ?_
          refine own_st (B := T2.setTop (mkF m 77 #[(rV a1), (iV p1), (iV p2), (iV (4 : Int32)), (rV a2), (iV p5), (iV oo0), (iV (0 : Int32)), (iV v4), (iV v5), (iV (cc0 + (1 : Int32)))] [])) (fun t k => XS.iinc X2.here hx rfl (hb hby d3_74) rfl (l' := #[(rV a1), (iV p1), (iV p2), (iV (4 : Int32)), (rV a2), (iV p5), (iV oo0), (iV (0 : Int32)), (iV v4), (iV v5), (iV (cc0 + (1 : Int32)))]) rfl k) ?_
          refine own_st (B := T2.setTop (mkF m 22 #[(rV a1), (iV p1), (iV p2), (iV (4 : Int32)), (rV a2), (iV p5), (iV oo0), (iV (0 : Int32)), (iV v4), (iV v5), (iV (cc0 + (1 : Int32)))] [])) (fun t k => XS.goto X2.here hx rfl (pc0 := 77) (pc' := 22) rfl (hb hby d3_77) (by decide) (by decide) k) ?_
          have hlt := Int32.lt_iff_toInt_lt.mp hc3
          have hcc := own_inc (x := cc0) (by omega)
          have hN : (cc0 + (1 : Int32)).toInt.toNat = cc0.toInt.toNat + 1 := by rw [hcc]; omega
          have hvu : v5.toInt = us0.toInt + 4 := by rw [ev5]; have g1 := c_iadd us0 (4 : Int32); have g2 := rng32 (us0 + (4 : Int32)); have g3 : ((4 : Int32)).toInt = 4 := rfl; omega
          have hv8 : ¬ (v5.toInt = 8) := fun q => hc6 (own_eq8.mpr q)
          have z0 : (0 : Int32).toInt = 0 := rfl
          have hn1 : 0 + ((cc0 + (1 : Int32)).toInt.toNat * 4) / 8 = 0 + (cc0.toInt.toNat * 4) / 8 := by rw [hN]; omega
          exact ih2 _ (by rw [hcc]; omega) T2 _ _ oo0 v4 v5 ((cc0 + (1 : Int32))) vv0 X2 e2 N2 z2 kp2 lf2_0 lf2_1 rfl (show 0 ≤ (cc0 + (1 : Int32)).toInt ∧ (cc0 + (1 : Int32)).toInt ≤ p1.toInt by rw [hcc]; omega) (show v5.toInt = ((cc0 + (1 : Int32)).toInt * 4) % 8 by rw [hcc]; omega) (show oo0.toInt = p5.toInt + 0 + ((cc0 + (1 : Int32)).toInt * 4) / 8 by rw [hcc]; omega) (show v4 = own_cu 4 (4 : Int32) (fun i => xs.getD (0 + i) 0) (cc0 + (1 : Int32)).toInt.toNat by rw [hN, own_cu, if_neg (by omega), ← hC0]; exact ev4) (show own_Ow ys p5.toInt.toNat (0 + ((cc0 + (1 : Int32)).toInt.toNat * 4) / 8) G vv0 by rw [hn1]; exact hV0)
      · refine own_st (B := T2.setTop (mkF m 80 #[(rV a1), (iV p1), (iV p2), (iV (4 : Int32)), (rV a2), (iV p5), (iV oo0), (iV (0 : Int32)), (iV cu0), (iV us0), (iV cc0)] [])) (fun t k => XS.icmpYes X2.here hx rfl (pc0 := 25) (pc' := 80) rfl (hb hby d3_25) rfl (XT.ii_ge_t hc3) (by decide) (by decide) k) ?_
        have hcw : cc0.toInt = p1.toInt := by have h9 : ¬ _ := fun q => hc3 (Int32.lt_iff_toInt_lt.mpr q); omega
        have hcn : cc0.toInt.toNat = p1.toInt.toNat := by rw [hcw]
        refine own_cut (P := ∀ (T11 : State) (lo11 : List Loc) (h11 : Heap) (om0 : Int32) (vm0 : List Value), Stand p l e ({ frames := 0, cells := 0, slots := 0, locals := 0 } : Room) s m #[(.ref a1), (.int p1), (.int p2), (.int (4 : Int32)), (.ref a2), (.int p5)] below meth c T11 lo11 0 0 → T11.heap = h11 → Fr n0 lo11 → n0 ≤ h11.size → Keep h0 h11 [a2] → own_A Z h11 a1 .byte (xs.map Value.int) → own_A Z h11 a2 .byte vm0 → (om0.toInt = p5.toInt + 0 + ((p1.toInt * 4 + 7) / 8)) → (own_Ow ys p5.toInt.toNat (0 + ((p1.toInt.toNat * 4 + 7) / 8)) G vm0) → own_Go p e below s (Q3b4 Z a1 a2 p1 p2 p5 xs ys G h0 n0) ({ frames := 0, cells := 0, slots := 0, locals := 0 } : Room).cells ({ frames := 0, cells := 0, slots := 0, locals := 0 } : Room).slots (T11.setTop (mkF m 102 #[(rV a1), (iV p1), (iV p2), (iV (4 : Int32)), (rV a2), (iV p5), (iV om0), (iV (0 : Int32)), (iV cu0), (iV us0), (iV cc0)] []))) (fun J11 => ?_) ?_
        · refine own_st (B := T2.setTop (mkF m 82 #[(rV a1), (iV p1), (iV p2), (iV (4 : Int32)), (rV a2), (iV p5), (iV oo0), (iV (0 : Int32)), (iV cu0), (iV us0), (iV cc0)] [(.int us0)])) (fun t k => XS.iload X2.here hx rfl (hb hby d3_80) rfl k) ?_
          by_cases hc12 : (0 : Int32) < us0
          · refine own_st (B := T2.setTop (mkF m 85 #[(rV a1), (iV p1), (iV p2), (iV (4 : Int32)), (rV a2), (iV p5), (iV oo0), (iV (0 : Int32)), (iV cu0), (iV us0), (iV cc0)] [])) (fun t k => XS.ifNo X2.here hx rfl (hb hby d3_82) rfl (XT.i0_le_f hc12) k) ?_
            refine own_st (B := T2.setTop (mkF m 87 #[(rV a1), (iV p1), (iV p2), (iV (4 : Int32)), (rV a2), (iV p5), (iV oo0), (iV (0 : Int32)), (iV cu0), (iV us0), (iV cc0)] [(.ref a2)])) (fun t k => XS.aload X2.here hx rfl (hb hby d3_85) rfl rfl k) ?_
            refine own_st (B := T2.setTop (mkF m 89 #[(rV a1), (iV p1), (iV p2), (iV (4 : Int32)), (rV a2), (iV p5), (iV oo0), (iV (0 : Int32)), (iV cu0), (iV us0), (iV cc0)] [(.int oo0), (.ref a2)])) (fun t k => XS.iload X2.here hx rfl (hb hby d3_87) rfl k) ?_
            refine own_st (B := T2.setTop (mkF m 92 #[(rV a1), (iV p1), (iV p2), (iV (4 : Int32)), (rV a2), (iV p5), (iV (oo0 + (1 : Int32))), (iV (0 : Int32)), (iV cu0), (iV us0), (iV cc0)] [(.int oo0), (.ref a2)])) (fun t k => XS.iinc X2.here hx rfl (hb hby d3_89) rfl (l' := #[(rV a1), (iV p1), (iV p2), (iV (4 : Int32)), (rV a2), (iV p5), (iV (oo0 + (1 : Int32))), (iV (0 : Int32)), (iV cu0), (iV us0), (iV cc0)]) rfl k) ?_
            refine own_st (B := T2.setTop (mkF m 94 #[(rV a1), (iV p1), (iV p2), (iV (4 : Int32)), (rV a2), (iV p5), (iV (oo0 + (1 : Int32))), (iV (0 : Int32)), (iV cu0), (iV us0), (iV cc0)] [(.int cu0), (.int oo0), (.ref a2)])) (fun t k => XS.iload X2.here hx rfl (hb hby d3_92) rfl k) ?_
            refine own_st (B := T2.setTop (mkF m 96 #[(rV a1), (iV p1), (iV p2), (iV (4 : Int32)), (rV a2), (iV p5), (iV (oo0 + (1 : Int32))), (iV (0 : Int32)), (iV cu0), (iV us0), (iV cc0)] [(.int (8 : Int32)), (.int cu0), (.int oo0), (.ref a2)])) (fun t k => XS.bipush X2.here hx rfl (hb hby d3_94) k) ?_
            refine own_st (B := T2.setTop (mkF m 98 #[(rV a1), (iV p1), (iV p2), (iV (4 : Int32)), (rV a2), (iV p5), (iV (oo0 + (1 : Int32))), (iV (0 : Int32)), (iV cu0), (iV us0), (iV cc0)] [(.int us0), (.int (8 : Int32)), (.int cu0), (.int oo0), (.ref a2)])) (fun t k => XS.iload X2.here hx rfl (hb hby d3_96) rfl k) ?_
            refine own_st (B := T2.setTop (mkF m 99 #[(rV a1), (iV p1), (iV p2), (iV (4 : Int32)), (rV a2), (iV p5), (iV (oo0 + (1 : Int32))), (iV (0 : Int32)), (iV cu0), (iV us0), (iV cc0)] [(.int ((8 : Int32) - us0)), (.int cu0), (.int oo0), (.ref a2)])) (fun t k => XS.isub X2.here hx rfl (hb hby d3_98) rfl k) ?_
            refine own_st (B := T2.setTop (mkF m 100 #[(rV a1), (iV p1), (iV p2), (iV (4 : Int32)), (rV a2), (iV p5), (iV (oo0 + (1 : Int32))), (iV (0 : Int32)), (iV cu0), (iV us0), (iV cc0)] [(.int (cu0 <<< (((8 : Int32) - us0) &&& 31))), (.int oo0), (.ref a2)])) (fun t k => XS.ishl X2.here hx rfl (hb hby d3_99) rfl k) ?_
            refine own_st (B := T2.setTop (mkF m 101 #[(rV a1), (iV p1), (iV p2), (iV (4 : Int32)), (rV a2), (iV p5), (iV (oo0 + (1 : Int32))), (iV (0 : Int32)), (iV cu0), (iV us0), (iV cc0)] [(.int ((cu0 <<< (((8 : Int32) - us0) &&& 31)).toInt8.toInt32)), (.int oo0), (.ref a2)])) (fun t k => XS.i2b X2.here hx rfl (hb hby d3_100) rfl k) ?_
            obtain ⟨T13, h13, X13, e13, W13, A13, st13⟩ := own_stB X2 hx hZ e2 lf2_1 (j := oo0) (x := ((cu0 <<< (((8 : Int32) - us0) &&& 31)).toInt8.toInt32)) (i := (oo0.toInt.toNat)) (own_nat (by omega)) (by have h9 := hV0.1; omega) (g := (mkF m 101 #[(rV a1), (iV p1), (iV p2), (iV (4 : Int32)), (rV a2), (iV p5), (iV (oo0 + (1 : Int32))), (iV (0 : Int32)), (iV cu0), (iV us0), (iV cc0)] [(.int ((cu0 <<< (((8 : Int32) - us0) &&& 31)).toInt8.toInt32)), (.int oo0), (.ref a2)])) rfl rfl (hb hby d3_101)
            have f13_ : own_A Z h13 a2 .byte (vv0.set (oo0.toInt.toNat) (.int (((cu0 <<< (((8 : Int32) - us0) &&& 31)).toInt8.toInt32).toInt8.toInt32))) := A13
            have z14 : n0 ≤ h13.size := Nat.le_trans z2 (Keep.of_wr W13).1
            have kp14 : Keep h0 h13 [a2] := kp2.wr W13 (Or.inl (List.mem_of_getElem? (i := 0) rfl))
            have n15 := Fr.snoc X13 N2 ga
            refine own_st (B := T13.setTop (mkF m 102 #[(rV a1), (iV p1), (iV p2), (iV (4 : Int32)), (rV a2), (iV p5), (iV (oo0 + (1 : Int32))), (iV (0 : Int32)), (iV cu0), (iV us0), (iV cc0)] [])) (fun t k => st13 t k) ?_
            have f16 : own_A Z h13 a1 .byte (xs.map Value.int) := (lf2_0.other W13 na)
            have z0 : (0 : Int32).toInt = 0 := rfl
            have hup := Int32.lt_iff_toInt_lt.mp hc12
            have hoo := own_inc (x := oo0) (by omega)
            have hn1 : 0 + ((p1.toInt.toNat * 4 + 7) / 8) = (0 + (cc0.toInt.toNat * 4) / 8) + 1 := by rw [hcn]; omega
            exact J11 T13 _ _ ((oo0 + (1 : Int32))) ((vv0.set (oo0.toInt.toNat) (.int (((cu0 <<< (((8 : Int32) - us0) &&& 31)).toInt8.toInt32).toInt8.toInt32)))) X13 e13 n15 z14 kp14 f16 f13_ (show (oo0 + (1 : Int32)).toInt = p5.toInt + 0 + ((p1.toInt * 4 + 7) / 8) by rw [hoo]; omega) (show own_Ow ys p5.toInt.toNat (0 + ((p1.toInt.toNat * 4 + 7) / 8)) G (vv0.set (oo0.toInt.toNat) (.int (((cu0 <<< (((8 : Int32) - us0) &&& 31)).toInt8.toInt32).toInt8.toInt32))) by rw [hn1]; exact hV0.step (by omega) (by omega) (by rw [hC0, hcn]; exact hp0 us0 (by rw [← hcw]; exact hu0) (by omega)))
          · refine own_st (B := T2.setTop (mkF m 102 #[(rV a1), (iV p1), (iV p2), (iV (4 : Int32)), (rV a2), (iV p5), (iV oo0), (iV (0 : Int32)), (iV cu0), (iV us0), (iV cc0)] [])) (fun t k => XS.ifYes X2.here hx rfl (pc0 := 82) (pc' := 102) rfl (hb hby d3_82) rfl (XT.i0_le_t hc12) (by decide) (by decide) k) ?_
            have z0 : (0 : Int32).toInt = 0 := rfl
            have hup : ¬ (0 < us0.toInt) := fun q => hc12 (Int32.lt_iff_toInt_lt.mpr (by rw [z0]; exact q))
            have hn1 : 0 + ((p1.toInt.toNat * 4 + 7) / 8) = 0 + (cc0.toInt.toNat * 4) / 8 := by rw [hcn]; omega
            exact J11 T2 _ _ oo0 vv0 X2 e2 N2 z2 kp2 lf2_0 lf2_1 (show oo0.toInt = p5.toInt + 0 + ((p1.toInt * 4 + 7) / 8) by omega) (show own_Ow ys p5.toInt.toNat (0 + ((p1.toInt.toNat * 4 + 7) / 8)) G vv0 by rw [hn1]; exact hV0)
        intro T11 lo11 h11 om0 vm0 X11 e11 N11 z11 kp11 lf11_0 lf11_1 hE0 hF0
        rw [Int.add_zero] at hE0
        rw [Nat.zero_add] at hF0
        refine own_st (B := T11.setTop (mkF m 105 #[(rV a1), (iV p1), (iV p2), (iV (4 : Int32)), (rV a2), (iV p5), (iV om0), (iV ((0 : Int32) + (1 : Int32))), (iV cu0), (iV us0), (iV cc0)] [])) (fun t k => XS.iinc X11.here hx rfl (hb hby d3_102) rfl (l' := #[(rV a1), (iV p1), (iV p2), (iV (4 : Int32)), (rV a2), (iV p5), (iV om0), (iV ((0 : Int32) + (1 : Int32))), (iV cu0), (iV us0), (iV cc0)]) rfl k) ?_
        refine own_st (B := T11.setTop (mkF m 7 #[(rV a1), (iV p1), (iV p2), (iV (4 : Int32)), (rV a2), (iV p5), (iV om0), (iV ((0 : Int32) + (1 : Int32))), (iV cu0), (iV us0), (iV cc0)] [])) (fun t k => XS.goto X11.here hx rfl (pc0 := 105) (pc' := 7) rfl (hb hby d3_105) (by decide) (by decide) k) ?_
        rw [show ((0 : Int32) + (1 : Int32)) = (1 : Int32) from by decide]
        refine own_st (B := T11.setTop (mkF m 9 #[(rV a1), (iV p1), (iV p2), (iV (4 : Int32)), (rV a2), (iV p5), (iV om0), (iV (1 : Int32)), (iV cu0), (iV us0), (iV cc0)] [(.int (1 : Int32))])) (fun t k => XS.iload X11.here hx rfl (hb hby d3_7) rfl k) ?_
        refine own_st (B := T11.setTop (mkF m 10 #[(rV a1), (iV p1), (iV p2), (iV (4 : Int32)), (rV a2), (iV p5), (iV om0), (iV (1 : Int32)), (iV cu0), (iV us0), (iV cc0)] [(.int p2), (.int (1 : Int32))])) (fun t k => XS.iloadN X11.here hx rfl (hb hby d3_9) rfl k) ?_
        by_cases hc17 : (1 : Int32) < p2
        · refine own_st (B := T11.setTop (mkF m 13 #[(rV a1), (iV p1), (iV p2), (iV (4 : Int32)), (rV a2), (iV p5), (iV om0), (iV (1 : Int32)), (iV cu0), (iV us0), (iV cc0)] [])) (fun t k => XS.icmpNo X11.here hx rfl (hb hby d3_10) rfl (XT.ii_ge_f hc17) k) ?_
          refine own_st (B := T11.setTop (mkF m 14 #[(rV a1), (iV p1), (iV p2), (iV (4 : Int32)), (rV a2), (iV p5), (iV om0), (iV (1 : Int32)), (iV cu0), (iV us0), (iV cc0)] [(.int (0 : Int32))])) (fun t k => XS.iconst X11.here hx rfl (hb hby d3_13) k) ?_
          refine own_st (B := T11.setTop (mkF m 16 #[(rV a1), (iV p1), (iV p2), (iV (4 : Int32)), (rV a2), (iV p5), (iV om0), (iV (1 : Int32)), (iV (0 : Int32)), (iV us0), (iV cc0)] [])) (fun t k => XS.istore X11.here hx rfl (hb hby d3_14) rfl (l' := #[(rV a1), (iV p1), (iV p2), (iV (4 : Int32)), (rV a2), (iV p5), (iV om0), (iV (1 : Int32)), (iV (0 : Int32)), (iV us0), (iV cc0)]) rfl k) ?_
          refine own_st (B := T11.setTop (mkF m 17 #[(rV a1), (iV p1), (iV p2), (iV (4 : Int32)), (rV a2), (iV p5), (iV om0), (iV (1 : Int32)), (iV (0 : Int32)), (iV us0), (iV cc0)] [(.int (0 : Int32))])) (fun t k => XS.iconst X11.here hx rfl (hb hby d3_16) k) ?_
          refine own_st (B := T11.setTop (mkF m 19 #[(rV a1), (iV p1), (iV p2), (iV (4 : Int32)), (rV a2), (iV p5), (iV om0), (iV (1 : Int32)), (iV (0 : Int32)), (iV (0 : Int32)), (iV cc0)] [])) (fun t k => XS.istore X11.here hx rfl (hb hby d3_17) rfl (l' := #[(rV a1), (iV p1), (iV p2), (iV (4 : Int32)), (rV a2), (iV p5), (iV om0), (iV (1 : Int32)), (iV (0 : Int32)), (iV (0 : Int32)), (iV cc0)]) rfl k) ?_
          refine own_st (B := T11.setTop (mkF m 20 #[(rV a1), (iV p1), (iV p2), (iV (4 : Int32)), (rV a2), (iV p5), (iV om0), (iV (1 : Int32)), (iV (0 : Int32)), (iV (0 : Int32)), (iV cc0)] [(.int (0 : Int32))])) (fun t k => XS.iconst X11.here hx rfl (hb hby d3_19) k) ?_
          refine own_st (B := T11.setTop (mkF m 22 #[(rV a1), (iV p1), (iV p2), (iV (4 : Int32)), (rV a2), (iV p5), (iV om0), (iV (1 : Int32)), (iV (0 : Int32)), (iV (0 : Int32)), (iV (0 : Int32))] [])) (fun t k => XS.istore X11.here hx rfl (hb hby d3_20) rfl (l' := #[(rV a1), (iV p1), (iV p2), (iV (4 : Int32)), (rV a2), (iV p5), (iV om0), (iV (1 : Int32)), (iV (0 : Int32)), (iV (0 : Int32)), (iV (0 : Int32))]) rfl k) ?_
          refine own_cut (P := ∀ (mu18 : Nat) (T18 : State) (lo18 : List Loc) (h18 : Heap) (oo1 : Int32) (cu1 : Int32) (us1 : Int32) (cc1 : Int32) (vv1 : List Value), Stand p l e ({ frames := 0, cells := 0, slots := 0, locals := 0 } : Room) s m #[(.ref a1), (.int p1), (.int p2), (.int (4 : Int32)), (.ref a2), (.int p5)] below meth c T18 lo18 0 0 → T18.heap = h18 → Fr n0 lo18 → n0 ≤ h18.size → Keep h0 h18 [a2] → own_A Z h18 a1 .byte (xs.map Value.int) → own_A Z h18 a2 .byte vv1 → mu18 = (p1.toInt - cc1.toInt).toNat → (0 ≤ cc1.toInt ∧ cc1.toInt ≤ p1.toInt) → (us1.toInt = (cc1.toInt * 4) % 8) → (oo1.toInt = p5.toInt + ((p1.toInt * 4 + 7) / 8) + (cc1.toInt * 4) / 8) → (cu1 = own_cu 4 (4 : Int32) (fun i => xs.getD (p1.toInt.toNat + i) 0) cc1.toInt.toNat) → (own_Ow ys p5.toInt.toNat (((p1.toInt.toNat * 4 + 7) / 8) + (cc1.toInt.toNat * 4) / 8) G vv1) → own_Go p e below s (Q3b4 Z a1 a2 p1 p2 p5 xs ys G h0 n0) ({ frames := 0, cells := 0, slots := 0, locals := 0 } : Room).cells ({ frames := 0, cells := 0, slots := 0, locals := 0 } : Room).slots (T18.setTop (mkF m 22 #[(rV a1), (iV p1), (iV p2), (iV (4 : Int32)), (rV a2), (iV p5), (iV oo1), (iV (1 : Int32)), (iV cu1), (iV us1), (iV cc1)] []))) (fun J18 => ?_) ?_
          · exact J18 _ T11 _ _ om0 (0 : Int32) (0 : Int32) (0 : Int32) vm0 X11 e11 N11 z11 kp11 lf11_0 lf11_1 rfl (show 0 ≤ (0 : Int32).toInt ∧ (0 : Int32).toInt ≤ p1.toInt by have z0 : (0 : Int32).toInt = 0 := rfl; omega) (show (0 : Int32).toInt = ((0 : Int32).toInt * 4) % 8 by have z0 : (0 : Int32).toInt = 0 := rfl; omega) (show om0.toInt = p5.toInt + ((p1.toInt * 4 + 7) / 8) + ((0 : Int32).toInt * 4) / 8 by have z0 : (0 : Int32).toInt = 0 := rfl; have z2 := hE0; omega) (show (0 : Int32) = own_cu 4 (4 : Int32) (fun i => xs.getD (p1.toInt.toNat + i) 0) (0 : Int32).toInt.toNat by rfl) (show own_Ow ys p5.toInt.toNat (((p1.toInt.toNat * 4 + 7) / 8) + ((0 : Int32).toInt.toNat * 4) / 8) G vm0 by have z1 : ((0 : Int32).toInt.toNat * 4) / 8 = 0 := rfl; rw [z1]; exact hF0)
          intro mu18
          induction mu18 using Nat.strongRecOn with
          | ind mu18 ih18 =>
            intro T18 lo18 h18 oo1 cu1 us1 cc1 vv1 X18 e18 N18 z18 kp18 lf18_0 lf18_1 hmu18 hc1 hu1 hO1 hC1 hV1
            refine own_st (B := T18.setTop (mkF m 24 #[(rV a1), (iV p1), (iV p2), (iV (4 : Int32)), (rV a2), (iV p5), (iV oo1), (iV (1 : Int32)), (iV cu1), (iV us1), (iV cc1)] [(.int cc1)])) (fun t k => XS.iload X18.here hx rfl (hb hby d3_22) rfl k) ?_
            refine own_st (B := T18.setTop (mkF m 25 #[(rV a1), (iV p1), (iV p2), (iV (4 : Int32)), (rV a2), (iV p5), (iV oo1), (iV (1 : Int32)), (iV cu1), (iV us1), (iV cc1)] [(.int p1), (.int cc1)])) (fun t k => XS.iloadN X18.here hx rfl (hb hby d3_24) rfl k) ?_
            by_cases hc19 : cc1 < p1
            · refine own_st (B := T18.setTop (mkF m 28 #[(rV a1), (iV p1), (iV p2), (iV (4 : Int32)), (rV a2), (iV p5), (iV oo1), (iV (1 : Int32)), (iV cu1), (iV us1), (iV cc1)] [])) (fun t k => XS.icmpNo X18.here hx rfl (hb hby d3_25) rfl (XT.ii_ge_f hc19) k) ?_
              refine own_st (B := T18.setTop (mkF m 30 #[(rV a1), (iV p1), (iV p2), (iV (4 : Int32)), (rV a2), (iV p5), (iV oo1), (iV (1 : Int32)), (iV cu1), (iV us1), (iV cc1)] [(.int cu1)])) (fun t k => XS.iload X18.here hx rfl (hb hby d3_28) rfl k) ?_
              refine own_st (B := T18.setTop (mkF m 31 #[(rV a1), (iV p1), (iV p2), (iV (4 : Int32)), (rV a2), (iV p5), (iV oo1), (iV (1 : Int32)), (iV cu1), (iV us1), (iV cc1)] [(.int (4 : Int32)), (.int cu1)])) (fun t k => XS.iloadN X18.here hx rfl (hb hby d3_30) rfl k) ?_
              refine own_st (B := T18.setTop (mkF m 32 #[(rV a1), (iV p1), (iV p2), (iV (4 : Int32)), (rV a2), (iV p5), (iV oo1), (iV (1 : Int32)), (iV cu1), (iV us1), (iV cc1)] [(.int (cu1 <<< ((4 : Int32) &&& 31)))])) (fun t k => XS.ishl X18.here hx rfl (hb hby d3_31) rfl k) ?_
              refine own_st (B := T18.setTop (mkF m 33 #[(rV a1), (iV p1), (iV p2), (iV (4 : Int32)), (rV a2), (iV p5), (iV oo1), (iV (1 : Int32)), (iV cu1), (iV us1), (iV cc1)] [(.ref a1), (.int (cu1 <<< ((4 : Int32) &&& 31)))])) (fun t k => XS.aloadN X18.here hx rfl (hb hby d3_32) rfl rfl k) ?_
              refine own_st (B := T18.setTop (mkF m 35 #[(rV a1), (iV p1), (iV p2), (iV (4 : Int32)), (rV a2), (iV p5), (iV oo1), (iV (1 : Int32)), (iV cu1), (iV us1), (iV cc1)] [(.int (1 : Int32)), (.ref a1), (.int (cu1 <<< ((4 : Int32) &&& 31)))])) (fun t k => XS.iload X18.here hx rfl (hb hby d3_33) rfl k) ?_
              refine own_st (B := T18.setTop (mkF m 36 #[(rV a1), (iV p1), (iV p2), (iV (4 : Int32)), (rV a2), (iV p5), (iV oo1), (iV (1 : Int32)), (iV cu1), (iV us1), (iV cc1)] [(.int p1), (.int (1 : Int32)), (.ref a1), (.int (cu1 <<< ((4 : Int32) &&& 31)))])) (fun t k => XS.iloadN X18.here hx rfl (hb hby d3_35) rfl k) ?_
              refine own_st (B := T18.setTop (mkF m 37 #[(rV a1), (iV p1), (iV p2), (iV (4 : Int32)), (rV a2), (iV p5), (iV oo1), (iV (1 : Int32)), (iV cu1), (iV us1), (iV cc1)] [(.int ((1 : Int32) * p1)), (.ref a1), (.int (cu1 <<< ((4 : Int32) &&& 31)))])) (fun t k => XS.imul X18.here hx rfl (hb hby d3_36) rfl k) ?_
              refine own_st (B := T18.setTop (mkF m 39 #[(rV a1), (iV p1), (iV p2), (iV (4 : Int32)), (rV a2), (iV p5), (iV oo1), (iV (1 : Int32)), (iV cu1), (iV us1), (iV cc1)] [(.int cc1), (.int ((1 : Int32) * p1)), (.ref a1), (.int (cu1 <<< ((4 : Int32) &&& 31)))])) (fun t k => XS.iload X18.here hx rfl (hb hby d3_37) rfl k) ?_
              refine own_st (B := T18.setTop (mkF m 40 #[(rV a1), (iV p1), (iV p2), (iV (4 : Int32)), (rV a2), (iV p5), (iV oo1), (iV (1 : Int32)), (iV cu1), (iV us1), (iV cc1)] [(.int (((1 : Int32) * p1) + cc1)), (.ref a1), (.int (cu1 <<< ((4 : Int32) &&& 31)))])) (fun t k => XS.iadd X18.here hx rfl (hb hby d3_39) rfl k) ?_
              have hltA := Int32.lt_iff_toInt_lt.mp hc19
              refine own_st (B := T18.setTop (mkF m 41 #[(rV a1), (iV p1), (iV p2), (iV (4 : Int32)), (rV a2), (iV p5), (iV oo1), (iV (1 : Int32)), (iV cu1), (iV us1), (iV cc1)] [(.int (xs.getD (p1.toInt.toNat + cc1.toInt.toNat) 0)), (.int (cu1 <<< ((4 : Int32) &&& 31)))])) (fun t k => own_ldB X18 hx hZ e18 lf18_0 (g := (mkF m 40 #[(rV a1), (iV p1), (iV p2), (iV (4 : Int32)), (rV a2), (iV p5), (iV oo1), (iV (1 : Int32)), (iV cu1), (iV us1), (iV cc1)] [(.int (((1 : Int32) * p1) + cc1)), (.ref a1), (.int (cu1 <<< ((4 : Int32) &&& 31)))])) (i := (p1.toInt.toNat + cc1.toInt.toNat)) (own_r1 hw1 (by omega)) (own_getI (by omega)) rfl rfl (hb hby d3_40) k) ?_
              refine own_st (B := T18.setTop (mkF m 42 #[(rV a1), (iV p1), (iV p2), (iV (4 : Int32)), (rV a2), (iV p5), (iV oo1), (iV (1 : Int32)), (iV cu1), (iV us1), (iV cc1)] [(.int ((cu1 <<< ((4 : Int32) &&& 31)) ||| (xs.getD (p1.toInt.toNat + cc1.toInt.toNat) 0)))])) (fun t k => XS.ior X18.here hx rfl (hb hby d3_41) rfl k) ?_
              obtain ⟨v20, ev20⟩ : ∃ z : Int32, z = ((cu1 <<< ((4 : Int32) &&& 31)) ||| (xs.getD (p1.toInt.toNat + cc1.toInt.toNat) 0)) := ⟨_, rfl⟩
              rw [← ev20]
              refine own_st (B := T18.setTop (mkF m 44 #[(rV a1), (iV p1), (iV p2), (iV (4 : Int32)), (rV a2), (iV p5), (iV oo1), (iV (1 : Int32)), (iV v20), (iV us1), (iV cc1)] [])) (fun t k => XS.istore X18.here hx rfl (hb hby d3_42) rfl (l' := #[(rV a1), (iV p1), (iV p2), (iV (4 : Int32)), (rV a2), (iV p5), (iV oo1), (iV (1 : Int32)), (iV v20), (iV us1), (iV cc1)]) rfl k) ?_
              refine own_st (B := T18.setTop (mkF m 46 #[(rV a1), (iV p1), (iV p2), (iV (4 : Int32)), (rV a2), (iV p5), (iV oo1), (iV (1 : Int32)), (iV v20), (iV us1), (iV cc1)] [(.int us1)])) (fun t k => XS.iload X18.here hx rfl (hb hby d3_44) rfl k) ?_
              refine own_st (B := T18.setTop (mkF m 47 #[(rV a1), (iV p1), (iV p2), (iV (4 : Int32)), (rV a2), (iV p5), (iV oo1), (iV (1 : Int32)), (iV v20), (iV us1), (iV cc1)] [(.int (4 : Int32)), (.int us1)])) (fun t k => XS.iloadN X18.here hx rfl (hb hby d3_46) rfl k) ?_
              refine own_st (B := T18.setTop (mkF m 48 #[(rV a1), (iV p1), (iV p2), (iV (4 : Int32)), (rV a2), (iV p5), (iV oo1), (iV (1 : Int32)), (iV v20), (iV us1), (iV cc1)] [(.int (us1 + (4 : Int32)))])) (fun t k => XS.iadd X18.here hx rfl (hb hby d3_47) rfl k) ?_
              obtain ⟨v21, ev21⟩ : ∃ z : Int32, z = (us1 + (4 : Int32)) := ⟨_, rfl⟩
              rw [← ev21]
              refine own_st (B := T18.setTop (mkF m 50 #[(rV a1), (iV p1), (iV p2), (iV (4 : Int32)), (rV a2), (iV p5), (iV oo1), (iV (1 : Int32)), (iV v20), (iV v21), (iV cc1)] [])) (fun t k => XS.istore X18.here hx rfl (hb hby d3_48) rfl (l' := #[(rV a1), (iV p1), (iV p2), (iV (4 : Int32)), (rV a2), (iV p5), (iV oo1), (iV (1 : Int32)), (iV v20), (iV v21), (iV cc1)]) rfl k) ?_
              refine own_st (B := T18.setTop (mkF m 52 #[(rV a1), (iV p1), (iV p2), (iV (4 : Int32)), (rV a2), (iV p5), (iV oo1), (iV (1 : Int32)), (iV v20), (iV v21), (iV cc1)] [(.int v21)])) (fun t k => XS.iload X18.here hx rfl (hb hby d3_50) rfl k) ?_
              refine own_st (B := T18.setTop (mkF m 54 #[(rV a1), (iV p1), (iV p2), (iV (4 : Int32)), (rV a2), (iV p5), (iV oo1), (iV (1 : Int32)), (iV v20), (iV v21), (iV cc1)] [(.int (8 : Int32)), (.int v21)])) (fun t k => XS.bipush X18.here hx rfl (hb hby d3_52) k) ?_
              by_cases hc22 : v21 = (8 : Int32)
              · refine own_st (B := T18.setTop (mkF m 57 #[(rV a1), (iV p1), (iV p2), (iV (4 : Int32)), (rV a2), (iV p5), (iV oo1), (iV (1 : Int32)), (iV v20), (iV v21), (iV cc1)] [])) (fun t k => XS.icmpNo X18.here hx rfl (hb hby d3_54) rfl (XT.ii_ne_f hc22) k) ?_
                refine own_st (B := T18.setTop (mkF m 59 #[(rV a1), (iV p1), (iV p2), (iV (4 : Int32)), (rV a2), (iV p5), (iV oo1), (iV (1 : Int32)), (iV v20), (iV v21), (iV cc1)] [(.ref a2)])) (fun t k => XS.aload X18.here hx rfl (hb hby d3_57) rfl rfl k) ?_
                refine own_st (B := T18.setTop (mkF m 61 #[(rV a1), (iV p1), (iV p2), (iV (4 : Int32)), (rV a2), (iV p5), (iV oo1), (iV (1 : Int32)), (iV v20), (iV v21), (iV cc1)] [(.int oo1), (.ref a2)])) (fun t k => XS.iload X18.here hx rfl (hb hby d3_59) rfl k) ?_
                refine own_st (B := T18.setTop (mkF m 64 #[(rV a1), (iV p1), (iV p2), (iV (4 : Int32)), (rV a2), (iV p5), (iV (oo1 + (1 : Int32))), (iV (1 : Int32)), (iV v20), (iV v21), (iV cc1)] [(.int oo1), (.ref a2)])) (fun t k => XS.iinc X18.here hx rfl (hb hby d3_61) rfl (l' := #[(rV a1), (iV p1), (iV p2), (iV (4 : Int32)), (rV a2), (iV p5), (iV (oo1 + (1 : Int32))), (iV (1 : Int32)), (iV v20), (iV v21), (iV cc1)]) rfl k) ?_
                refine own_st (B := T18.setTop (mkF m 66 #[(rV a1), (iV p1), (iV p2), (iV (4 : Int32)), (rV a2), (iV p5), (iV (oo1 + (1 : Int32))), (iV (1 : Int32)), (iV v20), (iV v21), (iV cc1)] [(.int v20), (.int oo1), (.ref a2)])) (fun t k => XS.iload X18.here hx rfl (hb hby d3_64) rfl k) ?_
                refine own_st (B := T18.setTop (mkF m 67 #[(rV a1), (iV p1), (iV p2), (iV (4 : Int32)), (rV a2), (iV p5), (iV (oo1 + (1 : Int32))), (iV (1 : Int32)), (iV v20), (iV v21), (iV cc1)] [(.int (v20.toInt8.toInt32)), (.int oo1), (.ref a2)])) (fun t k => XS.i2b X18.here hx rfl (hb hby d3_66) rfl k) ?_
                have hltB := Int32.lt_iff_toInt_lt.mp hc19
                obtain ⟨T23, h23, X23, e23, W23, A23, st23⟩ := own_stB X18 hx hZ e18 lf18_1 (j := oo1) (x := (v20.toInt8.toInt32)) (i := (oo1.toInt.toNat)) (own_nat (by omega)) (by have h9 := hV1.1; omega) (g := (mkF m 67 #[(rV a1), (iV p1), (iV p2), (iV (4 : Int32)), (rV a2), (iV p5), (iV (oo1 + (1 : Int32))), (iV (1 : Int32)), (iV v20), (iV v21), (iV cc1)] [(.int (v20.toInt8.toInt32)), (.int oo1), (.ref a2)])) rfl rfl (hb hby d3_67)
                have f23_ : own_A Z h23 a2 .byte (vv1.set (oo1.toInt.toNat) (.int ((v20.toInt8.toInt32).toInt8.toInt32))) := A23
                have z24 : n0 ≤ h23.size := Nat.le_trans z18 (Keep.of_wr W23).1
                have kp24 : Keep h0 h23 [a2] := kp18.wr W23 (Or.inl (List.mem_of_getElem? (i := 0) rfl))
                have n25 := Fr.snoc X23 N18 ga
                refine own_st (B := T23.setTop (mkF m 68 #[(rV a1), (iV p1), (iV p2), (iV (4 : Int32)), (rV a2), (iV p5), (iV (oo1 + (1 : Int32))), (iV (1 : Int32)), (iV v20), (iV v21), (iV cc1)] [])) (fun t k => st23 t k) ?_
                refine own_st (B := T23.setTop (mkF m 69 #[(rV a1), (iV p1), (iV p2), (iV (4 : Int32)), (rV a2), (iV p5), (iV (oo1 + (1 : Int32))), (iV (1 : Int32)), (iV v20), (iV v21), (iV cc1)] [(.int (0 : Int32))])) (fun t k => XS.iconst X23.here hx rfl (hb hby d3_68) k) ?_
                refine own_st (B := T23.setTop (mkF m 71 #[(rV a1), (iV p1), (iV p2), (iV (4 : Int32)), (rV a2), (iV p5), (iV (oo1 + (1 : Int32))), (iV (1 : Int32)), (iV (0 : Int32)), (iV v21), (iV cc1)] [])) (fun t k => XS.istore X23.here hx rfl (hb hby d3_69) rfl (l' := #[(rV a1), (iV p1), (iV p2), (iV (4 : Int32)), (rV a2), (iV p5), (iV (oo1 + (1 : Int32))), (iV (1 : Int32)), (iV (0 : Int32)), (iV v21), (iV cc1)]) rfl k) ?_
                refine own_st (B := T23.setTop (mkF m 72 #[(rV a1), (iV p1), (iV p2), (iV (4 : Int32)), (rV a2), (iV p5), (iV (oo1 + (1 : Int32))), (iV (1 : Int32)), (iV (0 : Int32)), (iV v21), (iV cc1)] [(.int (0 : Int32))])) (fun t k => XS.iconst X23.here hx rfl (hb hby d3_71) k) ?_
                refine own_st (B := T23.setTop (mkF m 74 #[(rV a1), (iV p1), (iV p2), (iV (4 : Int32)), (rV a2), (iV p5), (iV (oo1 + (1 : Int32))), (iV (1 : Int32)), (iV (0 : Int32)), (iV (0 : Int32)), (iV cc1)] [])) (fun t k => XS.istore X23.here hx rfl (hb hby d3_72) rfl (l' := #[(rV a1), (iV p1), (iV p2), (iV (4 : Int32)), (rV a2), (iV p5), (iV (oo1 + (1 : Int32))), (iV (1 : Int32)), (iV (0 : Int32)), (iV (0 : Int32)), (iV cc1)]) rfl k) ?_
                refine own_st (B := T23.setTop (mkF m 77 #[(rV a1), (iV p1), (iV p2), (iV (4 : Int32)), (rV a2), (iV p5), (iV (oo1 + (1 : Int32))), (iV (1 : Int32)), (iV (0 : Int32)), (iV (0 : Int32)), (iV (cc1 + (1 : Int32)))] [])) (fun t k => XS.iinc X23.here hx rfl (hb hby d3_74) rfl (l' := #[(rV a1), (iV p1), (iV p2), (iV (4 : Int32)), (rV a2), (iV p5), (iV (oo1 + (1 : Int32))), (iV (1 : Int32)), (iV (0 : Int32)), (iV (0 : Int32)), (iV (cc1 + (1 : Int32)))]) rfl k) ?_
                refine own_st (B := T23.setTop (mkF m 22 #[(rV a1), (iV p1), (iV p2), (iV (4 : Int32)), (rV a2), (iV p5), (iV (oo1 + (1 : Int32))), (iV (1 : Int32)), (iV (0 : Int32)), (iV (0 : Int32)), (iV (cc1 + (1 : Int32)))] [])) (fun t k => XS.goto X23.here hx rfl (pc0 := 77) (pc' := 22) rfl (hb hby d3_77) (by decide) (by decide) k) ?_
                have hlt := Int32.lt_iff_toInt_lt.mp hc19
                have hcc := own_inc (x := cc1) (by omega)
                have hN : (cc1 + (1 : Int32)).toInt.toNat = cc1.toInt.toNat + 1 := by rw [hcc]; omega
                have hvu : v21.toInt = us1.toInt + 4 := by rw [ev21]; have g1 := c_iadd us1 (4 : Int32); have g2 := rng32 (us1 + (4 : Int32)); have g3 : ((4 : Int32)).toInt = 4 := rfl; omega
                have hv8 : v21.toInt = 8 := own_eq8.mp hc22
                have z0 : (0 : Int32).toInt = 0 := rfl
                have hoo := own_inc (x := oo1) (by omega)
                have hcv : own_cv 4 (4 : Int32) (fun i => xs.getD (p1.toInt.toNat + i) 0) cc1.toInt.toNat = v20 := by unfold own_cv; rw [← hC1]; exact ev20.symm
                have hn1 : ((p1.toInt.toNat * 4 + 7) / 8) + ((cc1 + (1 : Int32)).toInt.toNat * 4) / 8 = (((p1.toInt.toNat * 4 + 7) / 8) + (cc1.toInt.toNat * 4) / 8) + 1 := by rw [hN]; omega
                have f26 : own_A Z h23 a1 .byte (xs.map Value.int) := (lf18_0.other W23 na)
                exact ih18 _ (by rw [hcc]; omega) T23 _ _ ((oo1 + (1 : Int32))) (0 : Int32) (0 : Int32) ((cc1 + (1 : Int32))) ((vv1.set (oo1.toInt.toNat) (.int ((v20.toInt8.toInt32).toInt8.toInt32)))) X23 e23 n25 z24 kp24 f26 f23_ rfl (show 0 ≤ (cc1 + (1 : Int32)).toInt ∧ (cc1 + (1 : Int32)).toInt ≤ p1.toInt by rw [hcc]; omega) (show (0 : Int32).toInt = ((cc1 + (1 : Int32)).toInt * 4) % 8 by rw [hcc]; omega) (show (oo1 + (1 : Int32)).toInt = p5.toInt + ((p1.toInt * 4 + 7) / 8) + ((cc1 + (1 : Int32)).toInt * 4) / 8 by rw [hoo, hcc]; omega) (show (0 : Int32) = own_cu 4 (4 : Int32) (fun i => xs.getD (p1.toInt.toNat + i) 0) (cc1 + (1 : Int32)).toInt.toNat by rw [hN, own_cu, if_pos (by omega)]) (show own_Ow ys p5.toInt.toNat (((p1.toInt.toNat * 4 + 7) / 8) + ((cc1 + (1 : Int32)).toInt.toNat * 4) / 8) G (vv1.set (oo1.toInt.toNat) (.int ((v20.toInt8.toInt32).toInt8.toInt32))) by rw [hn1]; exact hV1.step (by omega) (by omega) (by rw [hg1 _ (by omega) (by omega), hcv]))
              · refine own_st (B := T18.setTop (mkF m 74 #[(rV a1), (iV p1), (iV p2), (iV (4 : Int32)), (rV a2), (iV p5), (iV oo1), (iV (1 : Int32)), (iV v20), (iV v21), (iV cc1)] [])) (fun t k => XS.icmpYes X18.here hx rfl (pc0 := 54) (pc' := 74) rfl (hb hby d3_54) rfl (XT.ii_ne_t hc22) (by decide) (by decide) k) ?_
                refine own_st (B := T18.setTop (mkF m 77 #[(rV a1), (iV p1), (iV p2), (iV (4 : Int32)), (rV a2), (iV p5), (iV oo1), (iV (1 : Int32)), (iV v20), (iV v21), (iV (cc1 + (1 : Int32)))] [])) (fun t k => XS.iinc X18.here hx rfl (hb hby d3_74) rfl (l' := #[(rV a1), (iV p1), (iV p2), (iV (4 : Int32)), (rV a2), (iV p5), (iV oo1), (iV (1 : Int32)), (iV v20), (iV v21), (iV (cc1 + (1 : Int32)))]) rfl k) ?_
                refine own_st (B := T18.setTop (mkF m 22 #[(rV a1), (iV p1), (iV p2), (iV (4 : Int32)), (rV a2), (iV p5), (iV oo1), (iV (1 : Int32)), (iV v20), (iV v21), (iV (cc1 + (1 : Int32)))] [])) (fun t k => XS.goto X18.here hx rfl (pc0 := 77) (pc' := 22) rfl (hb hby d3_77) (by decide) (by decide) k) ?_
                have hlt := Int32.lt_iff_toInt_lt.mp hc19
                have hcc := own_inc (x := cc1) (by omega)
                have hN : (cc1 + (1 : Int32)).toInt.toNat = cc1.toInt.toNat + 1 := by rw [hcc]; omega
                have hvu : v21.toInt = us1.toInt + 4 := by rw [ev21]; have g1 := c_iadd us1 (4 : Int32); have g2 := rng32 (us1 + (4 : Int32)); have g3 : ((4 : Int32)).toInt = 4 := rfl; omega
                have hv8 : ¬ (v21.toInt = 8) := fun q => hc22 (own_eq8.mpr q)
                have z0 : (0 : Int32).toInt = 0 := rfl
                have hn1 : ((p1.toInt.toNat * 4 + 7) / 8) + ((cc1 + (1 : Int32)).toInt.toNat * 4) / 8 = ((p1.toInt.toNat * 4 + 7) / 8) + (cc1.toInt.toNat * 4) / 8 := by rw [hN]; omega
                exact ih18 _ (by rw [hcc]; omega) T18 _ _ oo1 v20 v21 ((cc1 + (1 : Int32))) vv1 X18 e18 N18 z18 kp18 lf18_0 lf18_1 rfl (show 0 ≤ (cc1 + (1 : Int32)).toInt ∧ (cc1 + (1 : Int32)).toInt ≤ p1.toInt by rw [hcc]; omega) (show v21.toInt = ((cc1 + (1 : Int32)).toInt * 4) % 8 by rw [hcc]; omega) (show oo1.toInt = p5.toInt + ((p1.toInt * 4 + 7) / 8) + ((cc1 + (1 : Int32)).toInt * 4) / 8 by rw [hcc]; omega) (show v20 = own_cu 4 (4 : Int32) (fun i => xs.getD (p1.toInt.toNat + i) 0) (cc1 + (1 : Int32)).toInt.toNat by rw [hN, own_cu, if_neg (by omega), ← hC1]; exact ev20) (show own_Ow ys p5.toInt.toNat (((p1.toInt.toNat * 4 + 7) / 8) + ((cc1 + (1 : Int32)).toInt.toNat * 4) / 8) G vv1 by rw [hn1]; exact hV1)
            · refine own_st (B := T18.setTop (mkF m 80 #[(rV a1), (iV p1), (iV p2), (iV (4 : Int32)), (rV a2), (iV p5), (iV oo1), (iV (1 : Int32)), (iV cu1), (iV us1), (iV cc1)] [])) (fun t k => XS.icmpYes X18.here hx rfl (pc0 := 25) (pc' := 80) rfl (hb hby d3_25) rfl (XT.ii_ge_t hc19) (by decide) (by decide) k) ?_
              have hcw : cc1.toInt = p1.toInt := by have h9 : ¬ _ := fun q => hc19 (Int32.lt_iff_toInt_lt.mpr q); omega
              have hcn : cc1.toInt.toNat = p1.toInt.toNat := by rw [hcw]
              refine own_cut (P := ∀ (T27 : State) (lo27 : List Loc) (h27 : Heap) (om1 : Int32) (vm1 : List Value), Stand p l e ({ frames := 0, cells := 0, slots := 0, locals := 0 } : Room) s m #[(.ref a1), (.int p1), (.int p2), (.int (4 : Int32)), (.ref a2), (.int p5)] below meth c T27 lo27 0 0 → T27.heap = h27 → Fr n0 lo27 → n0 ≤ h27.size → Keep h0 h27 [a2] → own_A Z h27 a1 .byte (xs.map Value.int) → own_A Z h27 a2 .byte vm1 → (om1.toInt = p5.toInt + ((p1.toInt * 4 + 7) / 8) + ((p1.toInt * 4 + 7) / 8)) → (own_Ow ys p5.toInt.toNat (((p1.toInt.toNat * 4 + 7) / 8) + ((p1.toInt.toNat * 4 + 7) / 8)) G vm1) → own_Go p e below s (Q3b4 Z a1 a2 p1 p2 p5 xs ys G h0 n0) ({ frames := 0, cells := 0, slots := 0, locals := 0 } : Room).cells ({ frames := 0, cells := 0, slots := 0, locals := 0 } : Room).slots (T27.setTop (mkF m 102 #[(rV a1), (iV p1), (iV p2), (iV (4 : Int32)), (rV a2), (iV p5), (iV om1), (iV (1 : Int32)), (iV cu1), (iV us1), (iV cc1)] []))) (fun J27 => ?_) ?_
              · refine own_st (B := T18.setTop (mkF m 82 #[(rV a1), (iV p1), (iV p2), (iV (4 : Int32)), (rV a2), (iV p5), (iV oo1), (iV (1 : Int32)), (iV cu1), (iV us1), (iV cc1)] [(.int us1)])) (fun t k => XS.iload X18.here hx rfl (hb hby d3_80) rfl k) ?_
                by_cases hc28 : (0 : Int32) < us1
                · refine own_st (B := T18.setTop (mkF m 85 #[(rV a1), (iV p1), (iV p2), (iV (4 : Int32)), (rV a2), (iV p5), (iV oo1), (iV (1 : Int32)), (iV cu1), (iV us1), (iV cc1)] [])) (fun t k => XS.ifNo X18.here hx rfl (hb hby d3_82) rfl (XT.i0_le_f hc28) k) ?_
                  refine own_st (B := T18.setTop (mkF m 87 #[(rV a1), (iV p1), (iV p2), (iV (4 : Int32)), (rV a2), (iV p5), (iV oo1), (iV (1 : Int32)), (iV cu1), (iV us1), (iV cc1)] [(.ref a2)])) (fun t k => XS.aload X18.here hx rfl (hb hby d3_85) rfl rfl k) ?_
                  refine own_st (B := T18.setTop (mkF m 89 #[(rV a1), (iV p1), (iV p2), (iV (4 : Int32)), (rV a2), (iV p5), (iV oo1), (iV (1 : Int32)), (iV cu1), (iV us1), (iV cc1)] [(.int oo1), (.ref a2)])) (fun t k => XS.iload X18.here hx rfl (hb hby d3_87) rfl k) ?_
                  refine own_st (B := T18.setTop (mkF m 92 #[(rV a1), (iV p1), (iV p2), (iV (4 : Int32)), (rV a2), (iV p5), (iV (oo1 + (1 : Int32))), (iV (1 : Int32)), (iV cu1), (iV us1), (iV cc1)] [(.int oo1), (.ref a2)])) (fun t k => XS.iinc X18.here hx rfl (hb hby d3_89) rfl (l' := #[(rV a1), (iV p1), (iV p2), (iV (4 : Int32)), (rV a2), (iV p5), (iV (oo1 + (1 : Int32))), (iV (1 : Int32)), (iV cu1), (iV us1), (iV cc1)]) rfl k) ?_
                  refine own_st (B := T18.setTop (mkF m 94 #[(rV a1), (iV p1), (iV p2), (iV (4 : Int32)), (rV a2), (iV p5), (iV (oo1 + (1 : Int32))), (iV (1 : Int32)), (iV cu1), (iV us1), (iV cc1)] [(.int cu1), (.int oo1), (.ref a2)])) (fun t k => XS.iload X18.here hx rfl (hb hby d3_92) rfl k) ?_
                  refine own_st (B := T18.setTop (mkF m 96 #[(rV a1), (iV p1), (iV p2), (iV (4 : Int32)), (rV a2), (iV p5), (iV (oo1 + (1 : Int32))), (iV (1 : Int32)), (iV cu1), (iV us1), (iV cc1)] [(.int (8 : Int32)), (.int cu1), (.int oo1), (.ref a2)])) (fun t k => XS.bipush X18.here hx rfl (hb hby d3_94) k) ?_
                  refine own_st (B := T18.setTop (mkF m 98 #[(rV a1), (iV p1), (iV p2), (iV (4 : Int32)), (rV a2), (iV p5), (iV (oo1 + (1 : Int32))), (iV (1 : Int32)), (iV cu1), (iV us1), (iV cc1)] [(.int us1), (.int (8 : Int32)), (.int cu1), (.int oo1), (.ref a2)])) (fun t k => XS.iload X18.here hx rfl (hb hby d3_96) rfl k) ?_
                  refine own_st (B := T18.setTop (mkF m 99 #[(rV a1), (iV p1), (iV p2), (iV (4 : Int32)), (rV a2), (iV p5), (iV (oo1 + (1 : Int32))), (iV (1 : Int32)), (iV cu1), (iV us1), (iV cc1)] [(.int ((8 : Int32) - us1)), (.int cu1), (.int oo1), (.ref a2)])) (fun t k => XS.isub X18.here hx rfl (hb hby d3_98) rfl k) ?_
                  refine own_st (B := T18.setTop (mkF m 100 #[(rV a1), (iV p1), (iV p2), (iV (4 : Int32)), (rV a2), (iV p5), (iV (oo1 + (1 : Int32))), (iV (1 : Int32)), (iV cu1), (iV us1), (iV cc1)] [(.int (cu1 <<< (((8 : Int32) - us1) &&& 31))), (.int oo1), (.ref a2)])) (fun t k => XS.ishl X18.here hx rfl (hb hby d3_99) rfl k) ?_
                  refine own_st (B := T18.setTop (mkF m 101 #[(rV a1), (iV p1), (iV p2), (iV (4 : Int32)), (rV a2), (iV p5), (iV (oo1 + (1 : Int32))), (iV (1 : Int32)), (iV cu1), (iV us1), (iV cc1)] [(.int ((cu1 <<< (((8 : Int32) - us1) &&& 31)).toInt8.toInt32)), (.int oo1), (.ref a2)])) (fun t k => XS.i2b X18.here hx rfl (hb hby d3_100) rfl k) ?_
                  obtain ⟨T29, h29, X29, e29, W29, A29, st29⟩ := own_stB X18 hx hZ e18 lf18_1 (j := oo1) (x := ((cu1 <<< (((8 : Int32) - us1) &&& 31)).toInt8.toInt32)) (i := (oo1.toInt.toNat)) (own_nat (by omega)) (by have h9 := hV1.1; omega) (g := (mkF m 101 #[(rV a1), (iV p1), (iV p2), (iV (4 : Int32)), (rV a2), (iV p5), (iV (oo1 + (1 : Int32))), (iV (1 : Int32)), (iV cu1), (iV us1), (iV cc1)] [(.int ((cu1 <<< (((8 : Int32) - us1) &&& 31)).toInt8.toInt32)), (.int oo1), (.ref a2)])) rfl rfl (hb hby d3_101)
                  have f29_ : own_A Z h29 a2 .byte (vv1.set (oo1.toInt.toNat) (.int (((cu1 <<< (((8 : Int32) - us1) &&& 31)).toInt8.toInt32).toInt8.toInt32))) := A29
                  have z30 : n0 ≤ h29.size := Nat.le_trans z18 (Keep.of_wr W29).1
                  have kp30 : Keep h0 h29 [a2] := kp18.wr W29 (Or.inl (List.mem_of_getElem? (i := 0) rfl))
                  have n31 := Fr.snoc X29 N18 ga
                  refine own_st (B := T29.setTop (mkF m 102 #[(rV a1), (iV p1), (iV p2), (iV (4 : Int32)), (rV a2), (iV p5), (iV (oo1 + (1 : Int32))), (iV (1 : Int32)), (iV cu1), (iV us1), (iV cc1)] [])) (fun t k => st29 t k) ?_
                  have f32 : own_A Z h29 a1 .byte (xs.map Value.int) := (lf18_0.other W29 na)
                  have z0 : (0 : Int32).toInt = 0 := rfl
                  have hup := Int32.lt_iff_toInt_lt.mp hc28
                  have hoo := own_inc (x := oo1) (by omega)
                  have hn1 : ((p1.toInt.toNat * 4 + 7) / 8) + ((p1.toInt.toNat * 4 + 7) / 8) = (((p1.toInt.toNat * 4 + 7) / 8) + (cc1.toInt.toNat * 4) / 8) + 1 := by rw [hcn]; omega
                  exact J27 T29 _ _ ((oo1 + (1 : Int32))) ((vv1.set (oo1.toInt.toNat) (.int (((cu1 <<< (((8 : Int32) - us1) &&& 31)).toInt8.toInt32).toInt8.toInt32)))) X29 e29 n31 z30 kp30 f32 f29_ (show (oo1 + (1 : Int32)).toInt = p5.toInt + ((p1.toInt * 4 + 7) / 8) + ((p1.toInt * 4 + 7) / 8) by rw [hoo]; omega) (show own_Ow ys p5.toInt.toNat (((p1.toInt.toNat * 4 + 7) / 8) + ((p1.toInt.toNat * 4 + 7) / 8)) G (vv1.set (oo1.toInt.toNat) (.int (((cu1 <<< (((8 : Int32) - us1) &&& 31)).toInt8.toInt32).toInt8.toInt32))) by rw [hn1]; exact hV1.step (by omega) (by omega) (by rw [hC1, hcn]; exact hp1 us1 (by rw [← hcw]; exact hu1) (by omega)))
                · refine own_st (B := T18.setTop (mkF m 102 #[(rV a1), (iV p1), (iV p2), (iV (4 : Int32)), (rV a2), (iV p5), (iV oo1), (iV (1 : Int32)), (iV cu1), (iV us1), (iV cc1)] [])) (fun t k => XS.ifYes X18.here hx rfl (pc0 := 82) (pc' := 102) rfl (hb hby d3_82) rfl (XT.i0_le_t hc28) (by decide) (by decide) k) ?_
                  have z0 : (0 : Int32).toInt = 0 := rfl
                  have hup : ¬ (0 < us1.toInt) := fun q => hc28 (Int32.lt_iff_toInt_lt.mpr (by rw [z0]; exact q))
                  have hn1 : ((p1.toInt.toNat * 4 + 7) / 8) + ((p1.toInt.toNat * 4 + 7) / 8) = ((p1.toInt.toNat * 4 + 7) / 8) + (cc1.toInt.toNat * 4) / 8 := by rw [hcn]; omega
                  exact J27 T18 _ _ oo1 vv1 X18 e18 N18 z18 kp18 lf18_0 lf18_1 (show oo1.toInt = p5.toInt + ((p1.toInt * 4 + 7) / 8) + ((p1.toInt * 4 + 7) / 8) by omega) (show own_Ow ys p5.toInt.toNat (((p1.toInt.toNat * 4 + 7) / 8) + ((p1.toInt.toNat * 4 + 7) / 8)) G vv1 by rw [hn1]; exact hV1)
              intro T27 lo27 h27 om1 vm1 X27 e27 N27 z27 kp27 lf27_0 lf27_1 hE1 hF1
              refine own_st (B := T27.setTop (mkF m 105 #[(rV a1), (iV p1), (iV p2), (iV (4 : Int32)), (rV a2), (iV p5), (iV om1), (iV ((1 : Int32) + (1 : Int32))), (iV cu1), (iV us1), (iV cc1)] [])) (fun t k => XS.iinc X27.here hx rfl (hb hby d3_102) rfl (l' := #[(rV a1), (iV p1), (iV p2), (iV (4 : Int32)), (rV a2), (iV p5), (iV om1), (iV ((1 : Int32) + (1 : Int32))), (iV cu1), (iV us1), (iV cc1)]) rfl k) ?_
              refine own_st (B := T27.setTop (mkF m 7 #[(rV a1), (iV p1), (iV p2), (iV (4 : Int32)), (rV a2), (iV p5), (iV om1), (iV ((1 : Int32) + (1 : Int32))), (iV cu1), (iV us1), (iV cc1)] [])) (fun t k => XS.goto X27.here hx rfl (pc0 := 105) (pc' := 7) rfl (hb hby d3_105) (by decide) (by decide) k) ?_
              rw [show ((1 : Int32) + (1 : Int32)) = (2 : Int32) from by decide]
              refine own_st (B := T27.setTop (mkF m 9 #[(rV a1), (iV p1), (iV p2), (iV (4 : Int32)), (rV a2), (iV p5), (iV om1), (iV (2 : Int32)), (iV cu1), (iV us1), (iV cc1)] [(.int (2 : Int32))])) (fun t k => XS.iload X27.here hx rfl (hb hby d3_7) rfl k) ?_
              refine own_st (B := T27.setTop (mkF m 10 #[(rV a1), (iV p1), (iV p2), (iV (4 : Int32)), (rV a2), (iV p5), (iV om1), (iV (2 : Int32)), (iV cu1), (iV us1), (iV cc1)] [(.int p2), (.int (2 : Int32))])) (fun t k => XS.iloadN X27.here hx rfl (hb hby d3_9) rfl k) ?_
              have hc33 : ¬ ((2 : Int32) < p2) := by
                intro q; have h9 := Int32.lt_iff_toInt_lt.mp q; have z2 : (2 : Int32).toInt = 2 := rfl; omega
              refine own_st (B := T27.setTop (mkF m 108 #[(rV a1), (iV p1), (iV p2), (iV (4 : Int32)), (rV a2), (iV p5), (iV om1), (iV (2 : Int32)), (iV cu1), (iV us1), (iV cc1)] [])) (fun t k => XS.icmpYes X27.here hx rfl (pc0 := 10) (pc' := 108) rfl (hb hby d3_10) rfl (XT.ii_ge_t hc33) (by decide) (by decide) k) ?_
              refine own_st (B := T27.setTop (mkF m 110 #[(rV a1), (iV p1), (iV p2), (iV (4 : Int32)), (rV a2), (iV p5), (iV om1), (iV (2 : Int32)), (iV cu1), (iV us1), (iV cc1)] [(.int om1)])) (fun t k => XS.iload X27.here hx rfl (hb hby d3_108) rfl k) ?_
              refine own_retI X27 hx hlk Bd.returns (hb hby d3_110) (by decide) (by decide) ?_
              show Q3b4 Z a1 a2 p1 p2 p5 xs ys G h0 n0 _ T27.heap _
              rw [e27]
              exact ⟨om1, vm1, rfl, N27, kp27, lf27_1, (by have z0 : (0 : Int32).toInt = 0 := rfl; have z1 : (1 : Int32).toInt = 1 := rfl; have h8 := Int32.lt_iff_toInt_lt.mp hc17; have hz : p2.toInt = 2 := (by omega); rw [hz]; have h7 := hE1; omega), (by rw [show (om1.toInt - p5.toInt).toNat = ((p1.toInt.toNat * 4 + 7) / 8) + ((p1.toInt.toNat * 4 + 7) / 8) from by have h7 := hE1; omega]; exact hF1)⟩
        · refine own_st (B := T11.setTop (mkF m 108 #[(rV a1), (iV p1), (iV p2), (iV (4 : Int32)), (rV a2), (iV p5), (iV om0), (iV (1 : Int32)), (iV cu0), (iV us0), (iV cc0)] [])) (fun t k => XS.icmpYes X11.here hx rfl (pc0 := 10) (pc' := 108) rfl (hb hby d3_10) rfl (XT.ii_ge_t hc17) (by decide) (by decide) k) ?_
          refine own_st (B := T11.setTop (mkF m 110 #[(rV a1), (iV p1), (iV p2), (iV (4 : Int32)), (rV a2), (iV p5), (iV om0), (iV (1 : Int32)), (iV cu0), (iV us0), (iV cc0)] [(.int om0)])) (fun t k => XS.iload X11.here hx rfl (hb hby d3_108) rfl k) ?_
          refine own_retI X11 hx hlk Bd.returns (hb hby d3_110) (by decide) (by decide) ?_
          show Q3b4 Z a1 a2 p1 p2 p5 xs ys G h0 n0 _ T11.heap _
          rw [e11]
          exact ⟨om0, vm0, rfl, N11, kp11, lf11_1, (by have z0 : (0 : Int32).toInt = 0 := rfl; have z1 : (1 : Int32).toInt = 1 := rfl; have h8 := Int32.lt_iff_toInt_lt.mp hc1; have h9 : ¬ _ := fun q => hc17 (Int32.lt_iff_toInt_lt.mpr q); have hz : p2.toInt = 1 := (by omega); rw [hz]; have h7 := hE0; omega), (by rw [show (om0.toInt - p5.toInt).toNat = ((p1.toInt.toNat * 4 + 7) / 8) from by have h7 := hE0; omega]; exact hF0)⟩
  · refine own_st (B := s₁.setTop (mkF m 108 #[(rV a1), (iV p1), (iV p2), (iV (4 : Int32)), (rV a2), (iV p5), (iV p5), (iV (0 : Int32)), uV, uV, uV] [])) (fun t k => XS.icmpYes X0.here hx rfl (pc0 := 10) (pc' := 108) rfl (hb hby d3_10) rfl (XT.ii_ge_t hc1) (by decide) (by decide) k) ?_
    refine own_st (B := s₁.setTop (mkF m 110 #[(rV a1), (iV p1), (iV p2), (iV (4 : Int32)), (rV a2), (iV p5), (iV p5), (iV (0 : Int32)), uV, uV, uV] [(.int p5)])) (fun t k => XS.iload X0.here hx rfl (hb hby d3_108) rfl k) ?_
    refine own_retI X0 hx hlk Bd.returns (hb hby d3_110) (by decide) (by decide) ?_
    show Q3b4 Z a1 a2 p1 p2 p5 xs ys G h0 n0 _ s₁.heap _
    rw [e0]
    exact ⟨p5, (ys.map Value.int), rfl, N0, (Keep.refl h0 [a2]), F1, (by have z0 : (0 : Int32).toInt = 0 := rfl; have z1 : (1 : Int32).toInt = 1 := rfl; have h9 : ¬ _ := fun q => hc1 (Int32.lt_iff_toInt_lt.mpr q); have hz : p2.toInt = 0 := (by omega); rw [hz]; omega), (by rw [show (p5.toInt - p5.toInt).toNat = 0 from by omega]; exact own_Ow.start hly)⟩
theorem own_rb4 {w : Int32} (hw : 0 ≤ w.toInt ∧ w.toInt ≤ 8) : (((w * (4 : Int32)) + (7 : Int32)) / (8 : Int32)).toInt = (w.toInt * (4 : Int32).toInt + 7) / 8 := by
  have h1 := c_imul w (4 : Int32)
  have z : ((4 : Int32)).toInt = 4 := rfl
  rw [z] at h1 ⊢
  have h2 := rng32 (w * (4 : Int32))
  have h3 := c_iadd (w * (4 : Int32)) 7
  have h4 := rng32 ((w * (4 : Int32)) + (7 : Int32))
  have z7 : (7 : Int32).toInt = 7 := rfl
  have h5 := (c_idiv ((w * (4 : Int32)) + (7 : Int32)) 8 8 rfl (by decide)).1 (by omega)
  rw [h5]
  omega
theorem own_rb {w B : Int32} (hB : B = 1 ∨ B = 2 ∨ B = 4) (hw : 0 ≤ w.toInt ∧ w.toInt ≤ 8) : (((w * B) + (7 : Int32)) / (8 : Int32)).toInt = (w.toInt * B.toInt + 7) / 8 ∧ 0 ≤ (w.toInt * B.toInt + 7) / 8 ∧ (w.toInt * B.toInt + 7) / 8 ≤ 4 := by
  have z1 : (1 : Int32).toInt = 1 := rfl
  have z2 : (2 : Int32).toInt = 2 := rfl
  have z4 : (4 : Int32).toInt = 4 := rfl
  rcases hB with rfl | rfl | rfl
  · exact ⟨own_rb1 hw, by rw [z1]; omega⟩
  · exact ⟨own_rb2 hw, by rw [z2]; omega⟩
  · exact ⟨own_rb4 hw, by rw [z4]; omega⟩
theorem own_en {w B h o e : Int32} (hB : B = 1 ∨ B = 2 ∨ B = 4) (hw : 0 ≤ w.toInt ∧ w.toInt ≤ 8) (hh : 0 ≤ h.toInt ∧ h.toInt ≤ 2) (ho : 0 ≤ o.toInt ∧ o.toInt ≤ 7) (he : e = (o + ((((w * B) + (7 : Int32)) / (8 : Int32)) * h))) : e.toInt = o.toInt + h.toInt * ((w.toInt * B.toInt + 7) / 8) := by
  obtain ⟨h1, h6, h7⟩ := own_rb hB hw
  have h2 := c_imul (((w * B) + (7 : Int32)) / (8 : Int32)) h
  have h3 := rng32 ((((w * B) + (7 : Int32)) / (8 : Int32)) * h)
  have h4 := c_iadd o ((((w * B) + (7 : Int32)) / (8 : Int32)) * h)
  have h5 := rng32 (o + ((((w * B) + (7 : Int32)) / (8 : Int32)) * h))
  rw [h1] at h2
  rw [← he] at h4 h5
  generalize (w.toInt * B.toInt + 7) / 8 = R at h2 h6 h7 ⊢
  have hc : h.toInt = 0 ∨ h.toInt = 1 ∨ h.toInt = 2 := by omega
  rcases hc with hc | hc | hc <;> rw [hc] at h2 ⊢ <;> omega
theorem own_en2 {w B h o r : Int32} (hB : B = 1 ∨ B = 2 ∨ B = 4) (hw : 0 ≤ w.toInt ∧ w.toInt ≤ 8) (hh : 0 ≤ h.toInt ∧ h.toInt ≤ 2) (hr : r.toInt = o.toInt + h.toInt * ((w.toInt * B.toInt + 7) / 8)) : r.toInt = o.toInt + (((r.toInt - o.toInt).toNat : Nat) : Int) := by
  obtain ⟨-, h6, h7⟩ := own_rb hB hw
  generalize (w.toInt * B.toInt + 7) / 8 = R at hr h6 h7
  have hc : h.toInt = 0 ∨ h.toInt = 1 ∨ h.toInt = 2 := by omega
  rcases hc with hc | hc | hc <;> rw [hc] at hr <;> omega
theorem own_nz {w B h o e k : Int32} (hB : B = 1 ∨ B = 2 ∨ B = 4) (hw : 0 ≤ w.toInt ∧ w.toInt ≤ 8) (he : e.toInt = o.toInt + h.toInt * ((w.toInt * B.toInt + 7) / 8)) : ¬ (k < o) → k < e → (((w * B) + (7 : Int32)) / (8 : Int32)) ≠ 0 := fun h1 h2 h3 => by
  have g1 := (own_rb hB hw).1
  rw [h3] at g1
  have z : (0 : Int32).toInt = 0 := rfl
  rw [← g1, z, Int.mul_zero] at he
  have g2 : ¬ _ := fun q => h1 (Int32.lt_iff_toInt_lt.mpr q)
  have g3 := Int32.lt_iff_toInt_lt.mp h2
  omega
theorem own_he {q : Int64} {w B o e f kk : Int32} {k N : Nat} {ys : List Int32} {vs : List Value} (hk : kk.toInt = (k : Int)) (hk16 : k < 16) (ho : 0 ≤ o.toInt ∧ o.toInt ≤ 7) (he : e.toInt = o.toInt + (N : Int)) (hO : own_Ow ys o.toInt.toNat N (fun j => own_pin q w B j.toInt32) vs) (hy : ys.getD k 0 = (((f + kk).toInt8.toInt32).toInt8.toInt32)) : vs[k]? = some (.int (own_eb q w B o e f kk)) := by
  rw [hO.2 k hk16]
  have ha := Int32.lt_iff_toInt_lt (x := kk) (y := o)
  have hb := Int32.lt_iff_toInt_lt (x := kk) (y := e)
  unfold own_eb
  by_cases c1 : kk < o
  · rw [if_pos c1, if_neg (by have := ha.mp c1; omega), hy, own_bb]
  · rw [if_neg c1]
    by_cases c2 : kk < e
    · rw [if_pos c2, if_pos (by have h1 := hb.mp c2; have h2 : ¬ _ := fun z => c1 (ha.mpr z); omega)]
      have h3 : (k - o.toInt.toNat).toInt32 = kk - o := Int32.toInt_inj.mp (by
        rw [len_toInt (by omega)]
        have h4 := c_isub kk o
        have h5 := rng32 (kk - o)
        have h2 : ¬ _ := fun z => c1 (ha.mpr z)
        omega)
      show some (Value.int (own_pin q w B (k - o.toInt.toNat).toInt32)) = _
      rw [h3]; rfl
    · rw [if_neg c2, if_neg (by have h2 : ¬ _ := fun z => c2 (hb.mpr z); omega), hy, own_bb]
def Q3 (Z : State) (a1 : Addr) (a2 : Addr) (p1 : Int32) (p2 : Int32) (p3 : Int32) (p5 : Int32) (xs : List Int32) (ys : List Int32) (G : Nat → Int32) (h0 : Heap) (n0 : Nat) (v : Option Value) (h : Heap) (L : List Loc) : Prop := ∃ (r : Int32) (w2 : List Value), v = some (.int r) ∧ Fr n0 L ∧ Keep h0 h [a2] ∧ own_A Z h a2 .byte w2 ∧ (r.toInt = p5.toInt + p2.toInt * ((p1.toInt * p3.toInt + 7) / 8)) ∧ (own_Ow ys p5.toInt.toNat (r.toInt - p5.toInt).toNat G w2)
theorem rm3 (l : Launch) (Z : State) (a0 : Array Value) (hw : ∀ d ∈ tables_1, d.before a0 Z = true) (ws : List Jvm.Cond) (a1 : Addr) (a2 : Addr) (p1 : Int32) (p2 : Int32) (p3 : Int32) (p5 : Int32) (xs : List Int32) (ys : List Int32) (G : Nat → Int32) (h0 : Heap) (n0 : Nat) (Z0 : n0 ≤ h0.size) (F0 : own_A Z h0 a1 .byte (xs.map Value.int)) (F1 : own_A Z h0 a2 .byte (ys.map Value.int)) (na : a1 ≠ a2) (ga : n0 ≤ a2) (hw1 : 0 ≤ p1.toInt ∧ p1.toInt ≤ 8) (hhe : 0 ≤ p2.toInt ∧ p2.toInt ≤ 2) (ho5 : 0 ≤ p5.toInt ∧ p5.toInt ≤ 7) (hlx : xs.length = 16) (hly : ys.length = 16) (hGG : (p3 = (1 : Int32) ∧ (∀ n : Nat, (n : Int) < p1.toInt → ((n + 1) * 1) % 8 = 0 → G (0 + (n * 1) / 8) = ((own_cv 1 (1 : Int32) (fun i => xs.getD (0 + i) 0) n).toInt8.toInt32).toInt8.toInt32) ∧ (∀ u : Int32, u.toInt = (p1.toInt * 1) % 8 → 0 < u.toInt → G (0 + (p1.toInt.toNat * 1) / 8) = ((((own_cu 1 (1 : Int32) (fun i => xs.getD (0 + i) 0) p1.toInt.toNat) <<< (((8 : Int32) - u) &&& 31)).toInt8.toInt32).toInt8.toInt32)) ∧ (∀ n : Nat, (n : Int) < p1.toInt → ((n + 1) * 1) % 8 = 0 → G (((p1.toInt.toNat * 1 + 7) / 8) + (n * 1) / 8) = ((own_cv 1 (1 : Int32) (fun i => xs.getD (p1.toInt.toNat + i) 0) n).toInt8.toInt32).toInt8.toInt32) ∧ (∀ u : Int32, u.toInt = (p1.toInt * 1) % 8 → 0 < u.toInt → G (((p1.toInt.toNat * 1 + 7) / 8) + (p1.toInt.toNat * 1) / 8) = ((((own_cu 1 (1 : Int32) (fun i => xs.getD (p1.toInt.toNat + i) 0) p1.toInt.toNat) <<< (((8 : Int32) - u) &&& 31)).toInt8.toInt32).toInt8.toInt32))) ∨ (p3 = (2 : Int32) ∧ (∀ n : Nat, (n : Int) < p1.toInt → ((n + 1) * 2) % 8 = 0 → G (0 + (n * 2) / 8) = ((own_cv 2 (2 : Int32) (fun i => xs.getD (0 + i) 0) n).toInt8.toInt32).toInt8.toInt32) ∧ (∀ u : Int32, u.toInt = (p1.toInt * 2) % 8 → 0 < u.toInt → G (0 + (p1.toInt.toNat * 2) / 8) = ((((own_cu 2 (2 : Int32) (fun i => xs.getD (0 + i) 0) p1.toInt.toNat) <<< (((8 : Int32) - u) &&& 31)).toInt8.toInt32).toInt8.toInt32)) ∧ (∀ n : Nat, (n : Int) < p1.toInt → ((n + 1) * 2) % 8 = 0 → G (((p1.toInt.toNat * 2 + 7) / 8) + (n * 2) / 8) = ((own_cv 2 (2 : Int32) (fun i => xs.getD (p1.toInt.toNat + i) 0) n).toInt8.toInt32).toInt8.toInt32) ∧ (∀ u : Int32, u.toInt = (p1.toInt * 2) % 8 → 0 < u.toInt → G (((p1.toInt.toNat * 2 + 7) / 8) + (p1.toInt.toNat * 2) / 8) = ((((own_cu 2 (2 : Int32) (fun i => xs.getD (p1.toInt.toNat + i) 0) p1.toInt.toNat) <<< (((8 : Int32) - u) &&& 31)).toInt8.toInt32).toInt8.toInt32))) ∨ (p3 = (4 : Int32) ∧ (∀ n : Nat, (n : Int) < p1.toInt → ((n + 1) * 4) % 8 = 0 → G (0 + (n * 4) / 8) = ((own_cv 4 (4 : Int32) (fun i => xs.getD (0 + i) 0) n).toInt8.toInt32).toInt8.toInt32) ∧ (∀ u : Int32, u.toInt = (p1.toInt * 4) % 8 → 0 < u.toInt → G (0 + (p1.toInt.toNat * 4) / 8) = ((((own_cu 4 (4 : Int32) (fun i => xs.getD (0 + i) 0) p1.toInt.toNat) <<< (((8 : Int32) - u) &&& 31)).toInt8.toInt32).toInt8.toInt32)) ∧ (∀ n : Nat, (n : Int) < p1.toInt → ((n + 1) * 4) % 8 = 0 → G (((p1.toInt.toNat * 4 + 7) / 8) + (n * 4) / 8) = ((own_cv 4 (4 : Int32) (fun i => xs.getD (p1.toInt.toNat + i) 0) n).toInt8.toInt32).toInt8.toInt32) ∧ (∀ u : Int32, u.toInt = (p1.toInt * 4) % 8 → 0 < u.toInt → G (((p1.toInt.toNat * 4 + 7) / 8) + (p1.toInt.toNat * 4) / 8) = ((((own_cu 4 (4 : Int32) (fun i => xs.getD (p1.toInt.toNat + i) 0) p1.toInt.toNat) <<< (((8 : Int32) - u) &&& 31)).toInt8.toInt32).toInt8.toInt32)))) :
    MetFree l (⟨"com/example/relayframe/relayframe/Palette", "pack", "([BIII[BI)I"⟩ : MethodName) (head1 (Jvm.Cond.code (⟨"com/example/relayframe/relayframe/Palette", "pack", "([BIII[BI)I"⟩ : MethodName) prog_3_method_7_code 11 (some .int) :: ws) ({ frames := 0, cells := 0, slots := 0, locals := 0 } : Room)) (fun a U => a = #[(.ref a1), (.int p1), (.int p2), (.int p3), (.ref a2), (.int p5)] ∧ Z.Warmed39 U.vm ∧ U.heap = h0) (fun _ _ _ _ _ => True) (fun _ U o U' => ∃ v L, o = .returned v ∧ Q3 Z a1 a2 p1 p2 p3 p5 xs ys G h0 n0 v U'.heap L ∧ FrameEnd U o U' L ({ frames := 0, cells := 0, slots := 0, locals := 0 } : Room).cells ({ frames := 0, cells := 0, slots := 0, locals := 0 } : Room).slots) := by
  rcases hGG with ⟨rfl, g0, g1, g2, g3⟩ | ⟨rfl, g0, g1, g2, g3⟩ | ⟨rfl, g0, g1, g2, g3⟩
  · exact rm3b1 l Z a0 hw ws a1 a2 p1 p2 p5 xs ys G h0 n0 Z0 F0 F1 na ga hw1 hhe ho5 hlx hly g0 g1 g2 g3
  · exact rm3b2 l Z a0 hw ws a1 a2 p1 p2 p5 xs ys G h0 n0 Z0 F0 F1 na ga hw1 hhe ho5 hlx hly g0 g1 g2 g3
  · exact rm3b4 l Z a0 hw ws a1 a2 p1 p2 p5 xs ys G h0 n0 Z0 F0 F1 na ga hw1 hhe ho5 hlx hly g0 g1 g2 g3
theorem own_w8 {x v : Int32} (e : v = own_min (x &&& 15) 8) : v = 0 ∨ v = 1 ∨ v = 2 ∨ v = 3 ∨ v = 4 ∨ v = 5 ∨ v = 6 ∨ v = 7 ∨ v = 8 := by
  have h1 := c_mask x 15 4 (by decide) (by decide)
  have hv : 0 ≤ v.toInt ∧ v.toInt ≤ 8 := by
    rw [e]
    unfold own_min
    have z : (8 : Int32).toInt = 8 := rfl
    split
    · rename_i h; first | omega | (rw [z]; omega) | (have g := Int32.lt_iff_toInt_lt.mp h; omega)
    · rename_i h; first | omega | (have g : ¬ _ := fun q => h (Int32.lt_iff_toInt_lt.mpr q); omega)
  have hc : v.toInt = 0 ∨ v.toInt = 1 ∨ v.toInt = 2 ∨ v.toInt = 3 ∨ v.toInt = 4 ∨ v.toInt = 5 ∨ v.toInt = 6 ∨ v.toInt = 7 ∨ v.toInt = 8 := by omega
  rcases hc with h | h | h | h | h | h | h | h | h
  · have hv : v = 0 := Int32.toInt_inj.mp (h.trans (show (0 : Int) = (0 : Int32).toInt from rfl))
    subst hv; decide
  · have hv : v = 1 := Int32.toInt_inj.mp (h.trans (show (1 : Int) = (1 : Int32).toInt from rfl))
    subst hv; decide
  · have hv : v = 2 := Int32.toInt_inj.mp (h.trans (show (2 : Int) = (2 : Int32).toInt from rfl))
    subst hv; decide
  · have hv : v = 3 := Int32.toInt_inj.mp (h.trans (show (3 : Int) = (3 : Int32).toInt from rfl))
    subst hv; decide
  · have hv : v = 4 := Int32.toInt_inj.mp (h.trans (show (4 : Int) = (4 : Int32).toInt from rfl))
    subst hv; decide
  · have hv : v = 5 := Int32.toInt_inj.mp (h.trans (show (5 : Int) = (5 : Int32).toInt from rfl))
    subst hv; decide
  · have hv : v = 6 := Int32.toInt_inj.mp (h.trans (show (6 : Int) = (6 : Int32).toInt from rfl))
    subst hv; decide
  · have hv : v = 7 := Int32.toInt_inj.mp (h.trans (show (7 : Int) = (7 : Int32).toInt from rfl))
    subst hv; decide
  · have hv : v = 8 := Int32.toInt_inj.mp (h.trans (show (8 : Int) = (8 : Int32).toInt from rfl))
    subst hv; decide
theorem own_w8r {v : Int32} (h : v = 0 ∨ v = 1 ∨ v = 2 ∨ v = 3 ∨ v = 4 ∨ v = 5 ∨ v = 6 ∨ v = 7 ∨ v = 8) : 0 ≤ v.toInt ∧ v.toInt ≤ 8 := by
  rcases h with rfl | rfl | rfl | rfl | rfl | rfl | rfl | rfl | rfl <;> decide
theorem own_h2 {x h v : Int32} (e0 : h = x &&& 3) (e : v = if h = 3 then 2 else h) : 0 ≤ v.toInt ∧ v.toInt ≤ 2 := by
  have h1 := c_mask x 3 2 (by decide) (by decide)
  rw [← e0] at h1
  rw [e]
  by_cases c : h = 3
  · rw [if_pos c]; decide
  · rw [if_neg c]
    have h2 : h.toInt ≠ 3 := fun q => c (Int32.toInt_inj.mp (q.trans (show (3 : Int) = (3 : Int32).toInt from rfl)))
    omega
theorem own_o7 {x v : Int32} (e : v = x &&& 7) : 0 ≤ v.toInt ∧ v.toInt ≤ 7 := by
  have h1 := c_mask x 7 3 (by decide) (by decide)
  rw [← e] at h1
  omega
theorem own_bits {s v : Int32} (e : v = if s = 0 then 1 else (if s = 1 then 2 else 4)) : v = 1 ∨ v = 2 ∨ v = 4 := by
  rw [e]
  by_cases h : s = 0
  · rw [if_pos h]; decide
  · rw [if_neg h]
    by_cases g : s = 1
    · rw [if_pos g]; decide
    · rw [if_neg g]; decide
theorem own_GG {q : Int64} {w B : Int32} (hB : B = 1 ∨ B = 2 ∨ B = 4) (hw : w = 0 ∨ w = 1 ∨ w = 2 ∨ w = 3 ∨ w = 4 ∨ w = 5 ∨ w = 6 ∨ w = 7 ∨ w = 8) : (B = (1 : Int32) ∧ (∀ n : Nat, (n : Int) < w.toInt → ((n + 1) * 1) % 8 = 0 → (fun j => own_pin q w B j.toInt32) (0 + (n * 1) / 8) = ((own_cv 1 (1 : Int32) (fun i => (own_L q B).getD (0 + i) 0) n).toInt8.toInt32).toInt8.toInt32) ∧ (∀ u : Int32, u.toInt = (w.toInt * 1) % 8 → 0 < u.toInt → (fun j => own_pin q w B j.toInt32) (0 + (w.toInt.toNat * 1) / 8) = ((((own_cu 1 (1 : Int32) (fun i => (own_L q B).getD (0 + i) 0) w.toInt.toNat) <<< (((8 : Int32) - u) &&& 31)).toInt8.toInt32).toInt8.toInt32)) ∧ (∀ n : Nat, (n : Int) < w.toInt → ((n + 1) * 1) % 8 = 0 → (fun j => own_pin q w B j.toInt32) (((w.toInt.toNat * 1 + 7) / 8) + (n * 1) / 8) = ((own_cv 1 (1 : Int32) (fun i => (own_L q B).getD (w.toInt.toNat + i) 0) n).toInt8.toInt32).toInt8.toInt32) ∧ (∀ u : Int32, u.toInt = (w.toInt * 1) % 8 → 0 < u.toInt → (fun j => own_pin q w B j.toInt32) (((w.toInt.toNat * 1 + 7) / 8) + (w.toInt.toNat * 1) / 8) = ((((own_cu 1 (1 : Int32) (fun i => (own_L q B).getD (w.toInt.toNat + i) 0) w.toInt.toNat) <<< (((8 : Int32) - u) &&& 31)).toInt8.toInt32).toInt8.toInt32))) ∨ (B = (2 : Int32) ∧ (∀ n : Nat, (n : Int) < w.toInt → ((n + 1) * 2) % 8 = 0 → (fun j => own_pin q w B j.toInt32) (0 + (n * 2) / 8) = ((own_cv 2 (2 : Int32) (fun i => (own_L q B).getD (0 + i) 0) n).toInt8.toInt32).toInt8.toInt32) ∧ (∀ u : Int32, u.toInt = (w.toInt * 2) % 8 → 0 < u.toInt → (fun j => own_pin q w B j.toInt32) (0 + (w.toInt.toNat * 2) / 8) = ((((own_cu 2 (2 : Int32) (fun i => (own_L q B).getD (0 + i) 0) w.toInt.toNat) <<< (((8 : Int32) - u) &&& 31)).toInt8.toInt32).toInt8.toInt32)) ∧ (∀ n : Nat, (n : Int) < w.toInt → ((n + 1) * 2) % 8 = 0 → (fun j => own_pin q w B j.toInt32) (((w.toInt.toNat * 2 + 7) / 8) + (n * 2) / 8) = ((own_cv 2 (2 : Int32) (fun i => (own_L q B).getD (w.toInt.toNat + i) 0) n).toInt8.toInt32).toInt8.toInt32) ∧ (∀ u : Int32, u.toInt = (w.toInt * 2) % 8 → 0 < u.toInt → (fun j => own_pin q w B j.toInt32) (((w.toInt.toNat * 2 + 7) / 8) + (w.toInt.toNat * 2) / 8) = ((((own_cu 2 (2 : Int32) (fun i => (own_L q B).getD (w.toInt.toNat + i) 0) w.toInt.toNat) <<< (((8 : Int32) - u) &&& 31)).toInt8.toInt32).toInt8.toInt32))) ∨ (B = (4 : Int32) ∧ (∀ n : Nat, (n : Int) < w.toInt → ((n + 1) * 4) % 8 = 0 → (fun j => own_pin q w B j.toInt32) (0 + (n * 4) / 8) = ((own_cv 4 (4 : Int32) (fun i => (own_L q B).getD (0 + i) 0) n).toInt8.toInt32).toInt8.toInt32) ∧ (∀ u : Int32, u.toInt = (w.toInt * 4) % 8 → 0 < u.toInt → (fun j => own_pin q w B j.toInt32) (0 + (w.toInt.toNat * 4) / 8) = ((((own_cu 4 (4 : Int32) (fun i => (own_L q B).getD (0 + i) 0) w.toInt.toNat) <<< (((8 : Int32) - u) &&& 31)).toInt8.toInt32).toInt8.toInt32)) ∧ (∀ n : Nat, (n : Int) < w.toInt → ((n + 1) * 4) % 8 = 0 → (fun j => own_pin q w B j.toInt32) (((w.toInt.toNat * 4 + 7) / 8) + (n * 4) / 8) = ((own_cv 4 (4 : Int32) (fun i => (own_L q B).getD (w.toInt.toNat + i) 0) n).toInt8.toInt32).toInt8.toInt32) ∧ (∀ u : Int32, u.toInt = (w.toInt * 4) % 8 → 0 < u.toInt → (fun j => own_pin q w B j.toInt32) (((w.toInt.toNat * 4 + 7) / 8) + (w.toInt.toNat * 4) / 8) = ((((own_cu 4 (4 : Int32) (fun i => (own_L q B).getD (w.toInt.toNat + i) 0) w.toInt.toNat) <<< (((8 : Int32) - u) &&& 31)).toInt8.toInt32).toInt8.toInt32))) := by
  rcases hB with rfl | rfl | rfl
  · exact Or.inl ⟨rfl, own_GF1_0 q hw, own_GP1_0 q hw, own_GF1_1 q hw, own_GP1_1 q hw⟩
  · exact Or.inr (Or.inl ⟨rfl, own_GF2_0 q hw, own_GP2_0 q hw, own_GF2_1 q hw, own_GP2_1 q hw⟩)
  · exact Or.inr (Or.inr ⟨rfl, own_GF4_0 q hw, own_GP4_0 q hw, own_GF4_1 q hw, own_GP4_1 q hw⟩)
theorem own_b0 {B : Int32} (hB : B = 1 ∨ B = 2 ∨ B = 4) : B ≠ 0 := by rcases hB with rfl | rfl | rfl <;> decide
theorem own_pd5 : parseMethodDescriptor "(II)I" = some ⟨[.int, .int], some .int⟩ := by decide +kernel
theorem own_pd6 : parseMethodDescriptor "([BIII[BI)I" = some ⟨[(.array .byte), .int, .int, .int, (.array .byte), .int], some .int⟩ := by decide +kernel
theorem own_pd7 : parseMethodDescriptor "([BIJIIIII)Z" = some ⟨[(.array .byte), .int, .long, .int, .int, .int, .int, .int], some .boolean⟩ := by decide +kernel
theorem ef_0 (m : MethodId) (x0 : Int64) (x1 : Int32) (x2 : Int32) : entryFrame m #[(.long x0), (.int x1), (.int x2)] maxLocals = mkF m 0 #[.val (.long x0), .second, .val (.int x1), .val (.int x2), .unset, .unset, .unset, .unset, .unset, .unset, .unset, .unset, .unset, .unset, .unset] [] := by first | (simp [entryFrame, mkF, argsToLocals, Value.category, maxLocals]; done) | rfl
def Q0 (Z : State) (arg0 : Int64) (arg1 : Int32) (arg2 : Int32) (h0 : Heap) (n0 : Nat) (v : Option Value) (h : Heap) (L : List Loc) : Prop := v = some (.int 1) ∧ Fr n0 L
set_option maxHeartbeats 40000000 in
theorem rm0 (l : Launch) (Z : State) (a0 : Array Value) (hw : ∀ d ∈ tables_1, d.before a0 Z = true) (ws : List Jvm.Cond) (arg0 : Int64) (arg1 : Int32) (arg2 : Int32) (h0 : Heap) (n0 : Nat) (Z0 : n0 ≤ h0.size) :
    MetFree l x (head1 (Jvm.Cond.code x code maxLocals ret :: ws) room_1) (fun a U => a = #[(.long arg0), (.int arg1), (.int arg2)] ∧ Z.Warmed39 U.vm ∧ U.heap = h0) (fun _ _ _ _ _ => True) (fun _ U o U' => ∃ v L, o = .returned v ∧ Q0 Z arg0 arg1 arg2 h0 n0 v U'.heap L ∧ FrameEnd U o U' L 16 128) := by
  refine MetFree.of_bodySF (plainFor_of_name own_pn1) hisR ?_
  intro p e s m args below meth c s₁ Bd hml0 hP hK
  obtain ⟨rfl, hZ, hh⟩ := hP
  have hx := Bd.exec
  have hby := Bd.bytes
  have hml : c.maxLocals = 15 := hml0
  have hlk : meth.locks = false := BodyLoose.notSynchronized Bd
  have hown : s.vm.findClass "com/example/relayframe/relayframe/PalettePackPinLaw" = some m.cls := findClass_of_methodNamed Bd.named
  have hnm := (name_of_methodNamed Bd.named Bd.method).1
  have X0 : Stand p l e room_1 s m #[(.long arg0), (.int arg1), (.int arg2)] below meth c s₁ [] 0 0 := Stand.of_body Bd
  have e0 : s₁.heap = h0 := by rw [← hh, Bd.state]; rfl
  have N0 := Fr.nil n0
  show own_Go p e below s (Q0 Z arg0 arg1 arg2 h0 n0) 16 128 _
  refine own_st (B := s₁.setTop (mkF m 0 #[(jV arg0), sV, (iV arg1), (iV arg2), uV, uV, uV, uV, uV, uV, uV, uV, uV, uV, uV] [])) (fun t k => castTop (ef_0 m (arg0) (arg1) (arg2)) k) ?_
  refine own_st (B := s₁.setTop (mkF m 1 #[(jV arg0), sV, (iV arg1), (iV arg2), uV, uV, uV, uV, uV, uV, uV, uV, uV, uV, uV] [(.int arg1)])) (fun t k => XS.iloadN X0.here hx rfl (hb hby at_0) rfl k) ?_
  refine own_st (B := s₁.setTop (mkF m 2 #[(jV arg0), sV, (iV arg1), (iV arg2), uV, uV, uV, uV, uV, uV, uV, uV, uV, uV, uV] [(.int (3 : Int32)), (.int arg1)])) (fun t k => XS.iconst X0.here hx rfl (hb hby at_1) k) ?_
  refine own_st (B := s₁.setTop (mkF m 3 #[(jV arg0), sV, (iV arg1), (iV arg2), uV, uV, uV, uV, uV, uV, uV, uV, uV, uV, uV] [(.int (arg1 &&& (3 : Int32)))])) (fun t k => XS.iand X0.here hx rfl (hb hby at_2) rfl k) ?_
  obtain ⟨v1, ev1⟩ : ∃ z : Int32, z = (arg1 &&& (3 : Int32)) := ⟨_, rfl⟩
  rw [← ev1]
  refine own_st (B := s₁.setTop (mkF m 5 #[(jV arg0), sV, (iV arg1), (iV arg2), (iV v1), uV, uV, uV, uV, uV, uV, uV, uV, uV, uV] [])) (fun t k => XS.istore X0.here hx rfl (hb hby at_3) rfl (l' := #[(jV arg0), sV, (iV arg1), (iV arg2), (iV v1), uV, uV, uV, uV, uV, uV, uV, uV, uV, uV]) rfl k) ?_
  refine own_st (B := s₁.setTop (mkF m 7 #[(jV arg0), sV, (iV arg1), (iV arg2), (iV v1), uV, uV, uV, uV, uV, uV, uV, uV, uV, uV] [(.int v1)])) (fun t k => XS.iload X0.here hx rfl (hb hby at_5) rfl k) ?_
  refine own_cut (P := ∀ (v4 : Int32), (v4 = (if v1 = (0 : Int32) then (1 : Int32) else (if v1 = (1 : Int32) then (2 : Int32) else (4 : Int32)))) → own_Go p e below s (Q0 Z arg0 arg1 arg2 h0 n0) 16 128 (s₁.setTop (mkF m 25 #[(jV arg0), sV, (iV arg1), (iV arg2), (iV v1), uV, uV, uV, uV, uV, uV, uV, uV, uV, uV] [(.int v4)]))) (fun J5 => ?_) ?_
  · by_cases hc2 : v1 = (0 : Int32)
    · refine own_st (B := s₁.setTop (mkF m 10 #[(jV arg0), sV, (iV arg1), (iV arg2), (iV v1), uV, uV, uV, uV, uV, uV, uV, uV, uV, uV] [])) (fun t k => XS.ifNo X0.here hx rfl (hb hby at_7) rfl (XT.i0_ne_f hc2) k) ?_
      refine own_st (B := s₁.setTop (mkF m 11 #[(jV arg0), sV, (iV arg1), (iV arg2), (iV v1), uV, uV, uV, uV, uV, uV, uV, uV, uV, uV] [(.int (1 : Int32))])) (fun t k => XS.iconst X0.here hx rfl (hb hby at_10) k) ?_
      refine own_st (B := s₁.setTop (mkF m 25 #[(jV arg0), sV, (iV arg1), (iV arg2), (iV v1), uV, uV, uV, uV, uV, uV, uV, uV, uV, uV] [(.int (1 : Int32))])) (fun t k => XS.goto X0.here hx rfl (pc0 := 11) (pc' := 25) rfl (hb hby at_11) (by decide) (by decide) k) ?_
      exact J5 (1 : Int32) (by rw [if_pos hc2])
    · refine own_st (B := s₁.setTop (mkF m 14 #[(jV arg0), sV, (iV arg1), (iV arg2), (iV v1), uV, uV, uV, uV, uV, uV, uV, uV, uV, uV] [])) (fun t k => XS.ifYes X0.here hx rfl (pc0 := 7) (pc' := 14) rfl (hb hby at_7) rfl (XT.i0_ne_t hc2) (by decide) (by decide) k) ?_
      refine own_st (B := s₁.setTop (mkF m 16 #[(jV arg0), sV, (iV arg1), (iV arg2), (iV v1), uV, uV, uV, uV, uV, uV, uV, uV, uV, uV] [(.int v1)])) (fun t k => XS.iload X0.here hx rfl (hb hby at_14) rfl k) ?_
      refine own_st (B := s₁.setTop (mkF m 17 #[(jV arg0), sV, (iV arg1), (iV arg2), (iV v1), uV, uV, uV, uV, uV, uV, uV, uV, uV, uV] [(.int (1 : Int32)), (.int v1)])) (fun t k => XS.iconst X0.here hx rfl (hb hby at_16) k) ?_
      by_cases hc3 : v1 = (1 : Int32)
      · refine own_st (B := s₁.setTop (mkF m 20 #[(jV arg0), sV, (iV arg1), (iV arg2), (iV v1), uV, uV, uV, uV, uV, uV, uV, uV, uV, uV] [])) (fun t k => XS.icmpNo X0.here hx rfl (hb hby at_17) rfl (XT.ii_ne_f hc3) k) ?_
        refine own_st (B := s₁.setTop (mkF m 21 #[(jV arg0), sV, (iV arg1), (iV arg2), (iV v1), uV, uV, uV, uV, uV, uV, uV, uV, uV, uV] [(.int (2 : Int32))])) (fun t k => XS.iconst X0.here hx rfl (hb hby at_20) k) ?_
        refine own_st (B := s₁.setTop (mkF m 25 #[(jV arg0), sV, (iV arg1), (iV arg2), (iV v1), uV, uV, uV, uV, uV, uV, uV, uV, uV, uV] [(.int (2 : Int32))])) (fun t k => XS.goto X0.here hx rfl (pc0 := 21) (pc' := 25) rfl (hb hby at_21) (by decide) (by decide) k) ?_
        exact J5 (2 : Int32) (by rw [if_neg hc2, if_pos hc3])
      · refine own_st (B := s₁.setTop (mkF m 24 #[(jV arg0), sV, (iV arg1), (iV arg2), (iV v1), uV, uV, uV, uV, uV, uV, uV, uV, uV, uV] [])) (fun t k => XS.icmpYes X0.here hx rfl (pc0 := 17) (pc' := 24) rfl (hb hby at_17) rfl (XT.ii_ne_t hc3) (by decide) (by decide) k) ?_
        refine own_st (B := s₁.setTop (mkF m 25 #[(jV arg0), sV, (iV arg1), (iV arg2), (iV v1), uV, uV, uV, uV, uV, uV, uV, uV, uV, uV] [(.int (4 : Int32))])) (fun t k => XS.iconst X0.here hx rfl (hb hby at_24) k) ?_
        exact J5 (4 : Int32) (by rw [if_neg hc2, if_neg hc3])
  intro v4 hv4
  refine own_st (B := s₁.setTop (mkF m 27 #[(jV arg0), sV, (iV arg1), (iV arg2), (iV v1), (iV v4), uV, uV, uV, uV, uV, uV, uV, uV, uV] [])) (fun t k => XS.istore X0.here hx rfl (hb hby at_25) rfl (l' := #[(jV arg0), sV, (iV arg1), (iV arg2), (iV v1), (iV v4), uV, uV, uV, uV, uV, uV, uV, uV, uV]) rfl k) ?_
  refine own_st (B := s₁.setTop (mkF m 28 #[(jV arg0), sV, (iV arg1), (iV arg2), (iV v1), (iV v4), uV, uV, uV, uV, uV, uV, uV, uV, uV] [(.int arg1)])) (fun t k => XS.iloadN X0.here hx rfl (hb hby at_27) rfl k) ?_
  refine own_st (B := s₁.setTop (mkF m 29 #[(jV arg0), sV, (iV arg1), (iV arg2), (iV v1), (iV v4), uV, uV, uV, uV, uV, uV, uV, uV, uV] [(.int (2 : Int32)), (.int arg1)])) (fun t k => XS.iconst X0.here hx rfl (hb hby at_28) k) ?_
  refine own_st (B := s₁.setTop (mkF m 30 #[(jV arg0), sV, (iV arg1), (iV arg2), (iV v1), (iV v4), uV, uV, uV, uV, uV, uV, uV, uV, uV] [(.int ((arg1.toUInt32 >>> ((2 : Int32) &&& 31).toUInt32).toInt32))])) (fun t k => XS.iushr X0.here hx rfl (hb hby at_29) rfl k) ?_
  refine own_st (B := s₁.setTop (mkF m 32 #[(jV arg0), sV, (iV arg1), (iV arg2), (iV v1), (iV v4), uV, uV, uV, uV, uV, uV, uV, uV, uV] [(.int (15 : Int32)), (.int ((arg1.toUInt32 >>> ((2 : Int32) &&& 31).toUInt32).toInt32))])) (fun t k => XS.bipush X0.here hx rfl (hb hby at_30) k) ?_
  refine own_st (B := s₁.setTop (mkF m 33 #[(jV arg0), sV, (iV arg1), (iV arg2), (iV v1), (iV v4), uV, uV, uV, uV, uV, uV, uV, uV, uV] [(.int (((arg1.toUInt32 >>> ((2 : Int32) &&& 31).toUInt32).toInt32) &&& (15 : Int32)))])) (fun t k => XS.iand X0.here hx rfl (hb hby at_32) rfl k) ?_
  refine own_st (B := s₁.setTop (mkF m 35 #[(jV arg0), sV, (iV arg1), (iV arg2), (iV v1), (iV v4), uV, uV, uV, uV, uV, uV, uV, uV, uV] [(.int (8 : Int32)), (.int (((arg1.toUInt32 >>> ((2 : Int32) &&& 31).toUInt32).toInt32) &&& (15 : Int32)))])) (fun t k => XS.bipush X0.here hx rfl (hb hby at_33) k) ?_
  obtain ⟨_, _, ⟨T6, L6, k6, j6⟩, -, X6, ⟨Lc6, hQ6, l6, y6_, z6_⟩, st6⟩ := Jvm.LawKit.callS X0 hx (y := (⟨"java/lang/Math", "min", "(II)I"⟩ : MethodName)) hown (mvT hZ (w_0 hw)) (mvT hZ (w_1 hw)) (mvT hZ (w_2 hw)) (mvT hZ (w_3 hw)) (by decide) (backOf (W := 0) (rm1 l Z a0 hw [] (((arg1.toUInt32 >>> ((2 : Int32) &&& 31).toUInt32).toInt32) &&& (15 : Int32)) (8 : Int32) h0 n0 Z0 ) hZ (w_3 hw) (w_2 hw) (by decide) (by decide)) (g := (mkF m 35 #[(jV arg0), sV, (iV arg1), (iV arg2), (iV v1), (iV v4), uV, uV, uV, uV, uV, uV, uV, uV, uV] [(.int (8 : Int32)), (.int (((arg1.toUInt32 >>> ((2 : Int32) &&& 31).toUInt32).toInt32) &&& (15 : Int32)))])) rfl (by rw [hml]; rfl) (argsL := [(.int (((arg1.toUInt32 >>> ((2 : Int32) &&& 31).toUInt32).toInt32) &&& (15 : Int32))), (.int (8 : Int32))]) (rest := []) (lenOf own_pd5 rfl) rfl (by show 2 * 0 + _ ≤ _; exact Nat.le_of_eq rfl) (hb hby at_35) (fun _ _ => ⟨rfl, e0, (by decide : 0 + 0 ≤ _), (by decide : 0 + 0 ≤ _)⟩)
  dsimp only [Pt.U, Pt.locs, Pt.cells, Pt.slots] at X6 l6 y6_ z6_ st6 hQ6
  obtain rfl : k6 = 0 := y6_
  obtain rfl : j6 = 0 := z6_
  obtain ⟨rfl, N6q, e6q⟩ := hQ6
  have N6 : Fr n0 L6 := by rw [l6]; exact Fr.app N0 N6q
  refine own_st (B := T6.setTop (mkF m 38 #[(jV arg0), sV, (iV arg1), (iV arg2), (iV v1), (iV v4), uV, uV, uV, uV, uV, uV, uV, uV, uV] [(.int (own_min (((arg1.toUInt32 >>> ((2 : Int32) &&& 31).toUInt32).toInt32) &&& (15 : Int32)) (8 : Int32)))])) (fun t k => st6 t k) ?_
  obtain ⟨v7, ev7⟩ : ∃ z : Int32, z = (own_min (((arg1.toUInt32 >>> ((2 : Int32) &&& 31).toUInt32).toInt32) &&& (15 : Int32)) (8 : Int32)) := ⟨_, rfl⟩
  rw [← ev7]
  refine own_st (B := T6.setTop (mkF m 40 #[(jV arg0), sV, (iV arg1), (iV arg2), (iV v1), (iV v4), (iV v7), uV, uV, uV, uV, uV, uV, uV, uV] [])) (fun t k => XS.istore X6.here hx rfl (hb hby at_38) rfl (l' := #[(jV arg0), sV, (iV arg1), (iV arg2), (iV v1), (iV v4), (iV v7), uV, uV, uV, uV, uV, uV, uV, uV]) rfl k) ?_
  refine own_st (B := T6.setTop (mkF m 41 #[(jV arg0), sV, (iV arg1), (iV arg2), (iV v1), (iV v4), (iV v7), uV, uV, uV, uV, uV, uV, uV, uV] [(.int arg1)])) (fun t k => XS.iloadN X6.here hx rfl (hb hby at_40) rfl k) ?_
  refine own_st (B := T6.setTop (mkF m 43 #[(jV arg0), sV, (iV arg1), (iV arg2), (iV v1), (iV v4), (iV v7), uV, uV, uV, uV, uV, uV, uV, uV] [(.int (6 : Int32)), (.int arg1)])) (fun t k => XS.bipush X6.here hx rfl (hb hby at_41) k) ?_
  refine own_st (B := T6.setTop (mkF m 44 #[(jV arg0), sV, (iV arg1), (iV arg2), (iV v1), (iV v4), (iV v7), uV, uV, uV, uV, uV, uV, uV, uV] [(.int ((arg1.toUInt32 >>> ((6 : Int32) &&& 31).toUInt32).toInt32))])) (fun t k => XS.iushr X6.here hx rfl (hb hby at_43) rfl k) ?_
  refine own_st (B := T6.setTop (mkF m 45 #[(jV arg0), sV, (iV arg1), (iV arg2), (iV v1), (iV v4), (iV v7), uV, uV, uV, uV, uV, uV, uV, uV] [(.int (3 : Int32)), (.int ((arg1.toUInt32 >>> ((6 : Int32) &&& 31).toUInt32).toInt32))])) (fun t k => XS.iconst X6.here hx rfl (hb hby at_44) k) ?_
  refine own_st (B := T6.setTop (mkF m 46 #[(jV arg0), sV, (iV arg1), (iV arg2), (iV v1), (iV v4), (iV v7), uV, uV, uV, uV, uV, uV, uV, uV] [(.int (((arg1.toUInt32 >>> ((6 : Int32) &&& 31).toUInt32).toInt32) &&& (3 : Int32)))])) (fun t k => XS.iand X6.here hx rfl (hb hby at_45) rfl k) ?_
  obtain ⟨v8, ev8⟩ : ∃ z : Int32, z = (((arg1.toUInt32 >>> ((6 : Int32) &&& 31).toUInt32).toInt32) &&& (3 : Int32)) := ⟨_, rfl⟩
  rw [← ev8]
  refine own_st (B := T6.setTop (mkF m 48 #[(jV arg0), sV, (iV arg1), (iV arg2), (iV v1), (iV v4), (iV v7), (iV v8), uV, uV, uV, uV, uV, uV, uV] [])) (fun t k => XS.istore X6.here hx rfl (hb hby at_46) rfl (l' := #[(jV arg0), sV, (iV arg1), (iV arg2), (iV v1), (iV v4), (iV v7), (iV v8), uV, uV, uV, uV, uV, uV, uV]) rfl k) ?_
  refine own_st (B := T6.setTop (mkF m 50 #[(jV arg0), sV, (iV arg1), (iV arg2), (iV v1), (iV v4), (iV v7), (iV v8), uV, uV, uV, uV, uV, uV, uV] [(.int v8)])) (fun t k => XS.iload X6.here hx rfl (hb hby at_48) rfl k) ?_
  refine own_st (B := T6.setTop (mkF m 51 #[(jV arg0), sV, (iV arg1), (iV arg2), (iV v1), (iV v4), (iV v7), (iV v8), uV, uV, uV, uV, uV, uV, uV] [(.int (3 : Int32)), (.int v8)])) (fun t k => XS.iconst X6.here hx rfl (hb hby at_50) k) ?_
  refine own_cut (P := ∀ (v10 : Int32), (v10 = (if v8 = (3 : Int32) then (2 : Int32) else v8)) → own_Go p e below s (Q0 Z arg0 arg1 arg2 h0 n0) 16 128 (T6.setTop (mkF m 60 #[(jV arg0), sV, (iV arg1), (iV arg2), (iV v1), (iV v4), (iV v7), (iV v8), uV, uV, uV, uV, uV, uV, uV] [(.int v10)]))) (fun J11 => ?_) ?_
  · by_cases hc9 : v8 = (3 : Int32)
    · refine own_st (B := T6.setTop (mkF m 54 #[(jV arg0), sV, (iV arg1), (iV arg2), (iV v1), (iV v4), (iV v7), (iV v8), uV, uV, uV, uV, uV, uV, uV] [])) (fun t k => XS.icmpNo X6.here hx rfl (hb hby at_51) rfl (XT.ii_ne_f hc9) k) ?_
      refine own_st (B := T6.setTop (mkF m 55 #[(jV arg0), sV, (iV arg1), (iV arg2), (iV v1), (iV v4), (iV v7), (iV v8), uV, uV, uV, uV, uV, uV, uV] [(.int (2 : Int32))])) (fun t k => XS.iconst X6.here hx rfl (hb hby at_54) k) ?_
      refine own_st (B := T6.setTop (mkF m 60 #[(jV arg0), sV, (iV arg1), (iV arg2), (iV v1), (iV v4), (iV v7), (iV v8), uV, uV, uV, uV, uV, uV, uV] [(.int (2 : Int32))])) (fun t k => XS.goto X6.here hx rfl (pc0 := 55) (pc' := 60) rfl (hb hby at_55) (by decide) (by decide) k) ?_
      exact J11 (2 : Int32) (by rw [if_pos hc9])
    · refine own_st (B := T6.setTop (mkF m 58 #[(jV arg0), sV, (iV arg1), (iV arg2), (iV v1), (iV v4), (iV v7), (iV v8), uV, uV, uV, uV, uV, uV, uV] [])) (fun t k => XS.icmpYes X6.here hx rfl (pc0 := 51) (pc' := 58) rfl (hb hby at_51) rfl (XT.ii_ne_t hc9) (by decide) (by decide) k) ?_
      refine own_st (B := T6.setTop (mkF m 60 #[(jV arg0), sV, (iV arg1), (iV arg2), (iV v1), (iV v4), (iV v7), (iV v8), uV, uV, uV, uV, uV, uV, uV] [(.int v8)])) (fun t k => XS.iload X6.here hx rfl (hb hby at_58) rfl k) ?_
      exact J11 v8 (by rw [if_neg hc9])
  intro v10 hv10
  refine own_st (B := T6.setTop (mkF m 62 #[(jV arg0), sV, (iV arg1), (iV arg2), (iV v1), (iV v4), (iV v7), (iV v8), (iV v10), uV, uV, uV, uV, uV, uV] [])) (fun t k => XS.istore X6.here hx rfl (hb hby at_60) rfl (l' := #[(jV arg0), sV, (iV arg1), (iV arg2), (iV v1), (iV v4), (iV v7), (iV v8), (iV v10), uV, uV, uV, uV, uV, uV]) rfl k) ?_
  refine own_st (B := T6.setTop (mkF m 63 #[(jV arg0), sV, (iV arg1), (iV arg2), (iV v1), (iV v4), (iV v7), (iV v8), (iV v10), uV, uV, uV, uV, uV, uV] [(.int arg1)])) (fun t k => XS.iloadN X6.here hx rfl (hb hby at_62) rfl k) ?_
  refine own_st (B := T6.setTop (mkF m 65 #[(jV arg0), sV, (iV arg1), (iV arg2), (iV v1), (iV v4), (iV v7), (iV v8), (iV v10), uV, uV, uV, uV, uV, uV] [(.int (8 : Int32)), (.int arg1)])) (fun t k => XS.bipush X6.here hx rfl (hb hby at_63) k) ?_
  refine own_st (B := T6.setTop (mkF m 66 #[(jV arg0), sV, (iV arg1), (iV arg2), (iV v1), (iV v4), (iV v7), (iV v8), (iV v10), uV, uV, uV, uV, uV, uV] [(.int ((arg1.toUInt32 >>> ((8 : Int32) &&& 31).toUInt32).toInt32))])) (fun t k => XS.iushr X6.here hx rfl (hb hby at_65) rfl k) ?_
  refine own_st (B := T6.setTop (mkF m 68 #[(jV arg0), sV, (iV arg1), (iV arg2), (iV v1), (iV v4), (iV v7), (iV v8), (iV v10), uV, uV, uV, uV, uV, uV] [(.int (7 : Int32)), (.int ((arg1.toUInt32 >>> ((8 : Int32) &&& 31).toUInt32).toInt32))])) (fun t k => XS.bipush X6.here hx rfl (hb hby at_66) k) ?_
  refine own_st (B := T6.setTop (mkF m 69 #[(jV arg0), sV, (iV arg1), (iV arg2), (iV v1), (iV v4), (iV v7), (iV v8), (iV v10), uV, uV, uV, uV, uV, uV] [(.int (((arg1.toUInt32 >>> ((8 : Int32) &&& 31).toUInt32).toInt32) &&& (7 : Int32)))])) (fun t k => XS.iand X6.here hx rfl (hb hby at_68) rfl k) ?_
  obtain ⟨v12, ev12⟩ : ∃ z : Int32, z = (((arg1.toUInt32 >>> ((8 : Int32) &&& 31).toUInt32).toInt32) &&& (7 : Int32)) := ⟨_, rfl⟩
  rw [← ev12]
  refine own_st (B := T6.setTop (mkF m 71 #[(jV arg0), sV, (iV arg1), (iV arg2), (iV v1), (iV v4), (iV v7), (iV v8), (iV v10), (iV v12), uV, uV, uV, uV, uV] [])) (fun t k => XS.istore X6.here hx rfl (hb hby at_69) rfl (l' := #[(jV arg0), sV, (iV arg1), (iV arg2), (iV v1), (iV v4), (iV v7), (iV v8), (iV v10), (iV v12), uV, uV, uV, uV, uV]) rfl k) ?_
  refine own_st (B := T6.setTop (mkF m 73 #[(jV arg0), sV, (iV arg1), (iV arg2), (iV v1), (iV v4), (iV v7), (iV v8), (iV v10), (iV v12), uV, uV, uV, uV, uV] [(.int (16 : Int32))])) (fun t k => XS.bipush X6.here hx rfl (hb hby at_71) k) ?_
  obtain ⟨T13, h13, X13, e13, E13, A13, x13, st13⟩ := own_newP X6 hx hZ (aty := .byte) (w_4 hw) e6q (g := (mkF m 73 #[(jV arg0), sV, (iV arg1), (iV arg2), (iV v1), (iV v4), (iV v7), (iV v8), (iV v10), (iV v12), uV, uV, uV, uV, uV] [(.int (16 : Int32))])) rfl (hb hby at_73) (n := (16 : Int32)) (rest := []) rfl (k := 16) (cap := 16) (by decide) (Nat.le_refl _) (by decide) (by decide) (by decide) (ad := "[B") rfl
  obtain ⟨b13, g13⟩ : ∃ z, z = h0.size := ⟨_, rfl⟩
  rw [← g13] at A13 x13 st13
  have u13 : n0 ≤ b13 := Nat.le_trans Z0 (Nat.le_of_eq g13.symm)
  have z14 : n0 ≤ h13.size := Nat.le_trans Z0 E13.1
  have f13_ : own_A Z h13 b13 .byte [(.int (0 : Int32)), (.int (0 : Int32)), (.int (0 : Int32)), (.int (0 : Int32)), (.int (0 : Int32)), (.int (0 : Int32)), (.int (0 : Int32)), (.int (0 : Int32)), (.int (0 : Int32)), (.int (0 : Int32)), (.int (0 : Int32)), (.int (0 : Int32)), (.int (0 : Int32)), (.int (0 : Int32)), (.int (0 : Int32)), (.int (0 : Int32))] := A13
  refine own_st (B := T13.setTop (mkF m 75 #[(jV arg0), sV, (iV arg1), (iV arg2), (iV v1), (iV v4), (iV v7), (iV v8), (iV v10), (iV v12), uV, uV, uV, uV, uV] [(.ref b13)])) (fun t k => st13 t k) ?_
  refine own_st (B := T13.setTop (mkF m 77 #[(jV arg0), sV, (iV arg1), (iV arg2), (iV v1), (iV v4), (iV v7), (iV v8), (iV v10), (iV v12), (rV b13), uV, uV, uV, uV] [])) (fun t k => XS.astore X13.here hx rfl (hb hby at_75) rfl rfl (l' := #[(jV arg0), sV, (iV arg1), (iV arg2), (iV v1), (iV v4), (iV v7), (iV v8), (iV v10), (iV v12), (rV b13), uV, uV, uV, uV]) rfl k) ?_
  refine own_st (B := T13.setTop (mkF m 79 #[(jV arg0), sV, (iV arg1), (iV arg2), (iV v1), (iV v4), (iV v7), (iV v8), (iV v10), (iV v12), (rV b13), uV, uV, uV, uV] [(.ref b13)])) (fun t k => XS.aload X13.here hx rfl (hb hby at_77) rfl rfl k) ?_
  refine own_st (B := T13.setTop (mkF m 80 #[(jV arg0), sV, (iV arg1), (iV arg2), (iV v1), (iV v4), (iV v7), (iV v8), (iV v10), (iV v12), (rV b13), uV, uV, uV, uV] [(.int (0 : Int32)), (.ref b13)])) (fun t k => XS.iconst X13.here hx rfl (hb hby at_79) k) ?_
  refine own_st (B := T13.setTop (mkF m 81 #[(jV arg0), sV, (iV arg1), (iV arg2), (iV v1), (iV v4), (iV v7), (iV v8), (iV v10), (iV v12), (rV b13), uV, uV, uV, uV] [(.long arg0), (.int (0 : Int32)), (.ref b13)])) (fun t k => XS.lloadN X13.here hx rfl (hb hby at_80) rfl k) ?_
  refine own_st (B := T13.setTop (mkF m 83 #[(jV arg0), sV, (iV arg1), (iV arg2), (iV v1), (iV v4), (iV v7), (iV v8), (iV v10), (iV v12), (rV b13), uV, uV, uV, uV] [(.int v4), (.long arg0), (.int (0 : Int32)), (.ref b13)])) (fun t k => XS.iload X13.here hx rfl (hb hby at_81) rfl k) ?_
  refine own_st (B := T13.setTop (mkF m 84 #[(jV arg0), sV, (iV arg1), (iV arg2), (iV v1), (iV v4), (iV v7), (iV v8), (iV v10), (iV v12), (rV b13), uV, uV, uV, uV] [(.int (0 : Int32)), (.int v4), (.long arg0), (.int (0 : Int32)), (.ref b13)])) (fun t k => XS.iconst X13.here hx rfl (hb hby at_83) k) ?_
  obtain ⟨_, _, ⟨T15, L15, k15, j15⟩, -, X15, ⟨Lc15, hQ15, l15, y15_, z15_⟩, st15⟩ := Jvm.LawKit.callS X13 hx (y := (⟨"com/example/relayframe/relayframe/PalettePackPinLaw", "idx", "(JII)I"⟩ : MethodName)) hown (mvT hZ (w_5 hw)) (mvT hZ (w_6 hw)) (mvT hZ (w_7 hw)) (mvT hZ (w_8 hw)) (by decide) (backOf (W := 2) (rm2 l Z a0 hw [] arg0 v4 (0 : Int32) h13 n0 z14 ) hZ (w_8 hw) (w_7 hw) (by decide) (by decide)) (g := (mkF m 84 #[(jV arg0), sV, (iV arg1), (iV arg2), (iV v1), (iV v4), (iV v7), (iV v8), (iV v10), (iV v12), (rV b13), uV, uV, uV, uV] [(.int (0 : Int32)), (.int v4), (.long arg0), (.int (0 : Int32)), (.ref b13)])) rfl (by rw [hml]; rfl) (argsL := [(.long arg0), (.int v4), (.int (0 : Int32))]) (rest := [(.int (0 : Int32)), (.ref b13)]) (lenOf own_pd1 rfl) rfl (by show 2 * 0 + _ ≤ _; exact Nat.le_of_eq rfl) (hb hby at_84) (fun _ _ => ⟨rfl, e13, (by decide : 1 + 0 ≤ _), (by decide : 16 + 0 ≤ _)⟩)
  dsimp only [Pt.U, Pt.locs, Pt.cells, Pt.slots] at X15 l15 y15_ z15_ st15 hQ15
  obtain rfl : k15 = 1 := y15_
  obtain rfl : j15 = 16 := z15_
  obtain ⟨rfl, N15q, e15q⟩ := hQ15
  have N15 : Fr n0 L15 := by rw [l15]; exact Fr.app N6 N15q
  refine own_st (B := T15.setTop (mkF m 87 #[(jV arg0), sV, (iV arg1), (iV arg2), (iV v1), (iV v4), (iV v7), (iV v8), (iV v10), (iV v12), (rV b13), uV, uV, uV, uV] [(.int (own_idx arg0 v4 (0 : Int32))), (.int (0 : Int32)), (.ref b13)])) (fun t k => st15 t k) ?_
  refine own_st (B := T15.setTop (mkF m 88 #[(jV arg0), sV, (iV arg1), (iV arg2), (iV v1), (iV v4), (iV v7), (iV v8), (iV v10), (iV v12), (rV b13), uV, uV, uV, uV] [(.int ((own_idx arg0 v4 (0 : Int32)).toInt8.toInt32)), (.int (0 : Int32)), (.ref b13)])) (fun t k => XS.i2b X15.here hx rfl (hb hby at_87) rfl k) ?_
  obtain ⟨T16, h16, X16, e16, W16, A16, st16⟩ := own_stB X15 hx hZ e15q f13_ (j := (0 : Int32)) (x := ((own_idx arg0 v4 (0 : Int32)).toInt8.toInt32)) (i := 0) (by decide) (show 0 < 16 from by decide) (g := (mkF m 88 #[(jV arg0), sV, (iV arg1), (iV arg2), (iV v1), (iV v4), (iV v7), (iV v8), (iV v10), (iV v12), (rV b13), uV, uV, uV, uV] [(.int ((own_idx arg0 v4 (0 : Int32)).toInt8.toInt32)), (.int (0 : Int32)), (.ref b13)])) rfl rfl (hb hby at_88)
  have f16_ : own_A Z h16 b13 .byte [(.int (((own_idx arg0 v4 (0 : Int32)).toInt8.toInt32).toInt8.toInt32)), (.int (0 : Int32)), (.int (0 : Int32)), (.int (0 : Int32)), (.int (0 : Int32)), (.int (0 : Int32)), (.int (0 : Int32)), (.int (0 : Int32)), (.int (0 : Int32)), (.int (0 : Int32)), (.int (0 : Int32)), (.int (0 : Int32)), (.int (0 : Int32)), (.int (0 : Int32)), (.int (0 : Int32)), (.int (0 : Int32))] := A16
  have z17 : n0 ≤ h16.size := Nat.le_trans z14 (Keep.of_wr W16).1
  have n18 := Fr.snoc X16 N15 u13
  refine own_st (B := T16.setTop (mkF m 89 #[(jV arg0), sV, (iV arg1), (iV arg2), (iV v1), (iV v4), (iV v7), (iV v8), (iV v10), (iV v12), (rV b13), uV, uV, uV, uV] [])) (fun t k => st16 t k) ?_
  refine own_st (B := T16.setTop (mkF m 91 #[(jV arg0), sV, (iV arg1), (iV arg2), (iV v1), (iV v4), (iV v7), (iV v8), (iV v10), (iV v12), (rV b13), uV, uV, uV, uV] [(.ref b13)])) (fun t k => XS.aload X16.here hx rfl (hb hby at_89) rfl rfl k) ?_
  refine own_st (B := T16.setTop (mkF m 92 #[(jV arg0), sV, (iV arg1), (iV arg2), (iV v1), (iV v4), (iV v7), (iV v8), (iV v10), (iV v12), (rV b13), uV, uV, uV, uV] [(.int (1 : Int32)), (.ref b13)])) (fun t k => XS.iconst X16.here hx rfl (hb hby at_91) k) ?_
  refine own_st (B := T16.setTop (mkF m 93 #[(jV arg0), sV, (iV arg1), (iV arg2), (iV v1), (iV v4), (iV v7), (iV v8), (iV v10), (iV v12), (rV b13), uV, uV, uV, uV] [(.long arg0), (.int (1 : Int32)), (.ref b13)])) (fun t k => XS.lloadN X16.here hx rfl (hb hby at_92) rfl k) ?_
  refine own_st (B := T16.setTop (mkF m 95 #[(jV arg0), sV, (iV arg1), (iV arg2), (iV v1), (iV v4), (iV v7), (iV v8), (iV v10), (iV v12), (rV b13), uV, uV, uV, uV] [(.int v4), (.long arg0), (.int (1 : Int32)), (.ref b13)])) (fun t k => XS.iload X16.here hx rfl (hb hby at_93) rfl k) ?_
  refine own_st (B := T16.setTop (mkF m 96 #[(jV arg0), sV, (iV arg1), (iV arg2), (iV v1), (iV v4), (iV v7), (iV v8), (iV v10), (iV v12), (rV b13), uV, uV, uV, uV] [(.int (1 : Int32)), (.int v4), (.long arg0), (.int (1 : Int32)), (.ref b13)])) (fun t k => XS.iconst X16.here hx rfl (hb hby at_95) k) ?_
  obtain ⟨_, _, ⟨T19, L19, k19, j19⟩, -, X19, ⟨Lc19, hQ19, l19, y19_, z19_⟩, st19⟩ := Jvm.LawKit.callS X16 hx (y := (⟨"com/example/relayframe/relayframe/PalettePackPinLaw", "idx", "(JII)I"⟩ : MethodName)) hown (mvT hZ (w_5 hw)) (mvT hZ (w_6 hw)) (mvT hZ (w_7 hw)) (mvT hZ (w_8 hw)) (by decide) (backOf (W := 2) (rm2 l Z a0 hw [] arg0 v4 (1 : Int32) h16 n0 z17 ) hZ (w_8 hw) (w_7 hw) (by decide) (by decide)) (g := (mkF m 96 #[(jV arg0), sV, (iV arg1), (iV arg2), (iV v1), (iV v4), (iV v7), (iV v8), (iV v10), (iV v12), (rV b13), uV, uV, uV, uV] [(.int (1 : Int32)), (.int v4), (.long arg0), (.int (1 : Int32)), (.ref b13)])) rfl (by rw [hml]; rfl) (argsL := [(.long arg0), (.int v4), (.int (1 : Int32))]) (rest := [(.int (1 : Int32)), (.ref b13)]) (lenOf own_pd1 rfl) rfl (by show 2 * 0 + _ ≤ _; exact Nat.le_of_eq rfl) (hb hby at_96) (fun _ _ => ⟨rfl, e16, (by decide : 1 + 0 ≤ _), (by decide : 16 + 0 ≤ _)⟩)
  dsimp only [Pt.U, Pt.locs, Pt.cells, Pt.slots] at X19 l19 y19_ z19_ st19 hQ19
  obtain rfl : k19 = 1 := y19_
  obtain rfl : j19 = 16 := z19_
  obtain ⟨rfl, N19q, e19q⟩ := hQ19
  have N19 : Fr n0 L19 := by rw [l19]; exact Fr.app n18 N19q
  refine own_st (B := T19.setTop (mkF m 99 #[(jV arg0), sV, (iV arg1), (iV arg2), (iV v1), (iV v4), (iV v7), (iV v8), (iV v10), (iV v12), (rV b13), uV, uV, uV, uV] [(.int (own_idx arg0 v4 (1 : Int32))), (.int (1 : Int32)), (.ref b13)])) (fun t k => st19 t k) ?_
  refine own_st (B := T19.setTop (mkF m 100 #[(jV arg0), sV, (iV arg1), (iV arg2), (iV v1), (iV v4), (iV v7), (iV v8), (iV v10), (iV v12), (rV b13), uV, uV, uV, uV] [(.int ((own_idx arg0 v4 (1 : Int32)).toInt8.toInt32)), (.int (1 : Int32)), (.ref b13)])) (fun t k => XS.i2b X19.here hx rfl (hb hby at_99) rfl k) ?_
  obtain ⟨T20, h20, X20, e20, W20, A20, st20⟩ := own_stB X19 hx hZ e19q f16_ (j := (1 : Int32)) (x := ((own_idx arg0 v4 (1 : Int32)).toInt8.toInt32)) (i := 1) (by decide) (show 1 < 16 from by decide) (g := (mkF m 100 #[(jV arg0), sV, (iV arg1), (iV arg2), (iV v1), (iV v4), (iV v7), (iV v8), (iV v10), (iV v12), (rV b13), uV, uV, uV, uV] [(.int ((own_idx arg0 v4 (1 : Int32)).toInt8.toInt32)), (.int (1 : Int32)), (.ref b13)])) rfl rfl (hb hby at_100)
  have f20_ : own_A Z h20 b13 .byte [(.int (((own_idx arg0 v4 (0 : Int32)).toInt8.toInt32).toInt8.toInt32)), (.int (((own_idx arg0 v4 (1 : Int32)).toInt8.toInt32).toInt8.toInt32)), (.int (0 : Int32)), (.int (0 : Int32)), (.int (0 : Int32)), (.int (0 : Int32)), (.int (0 : Int32)), (.int (0 : Int32)), (.int (0 : Int32)), (.int (0 : Int32)), (.int (0 : Int32)), (.int (0 : Int32)), (.int (0 : Int32)), (.int (0 : Int32)), (.int (0 : Int32)), (.int (0 : Int32))] := A20
  have z21 : n0 ≤ h20.size := Nat.le_trans z17 (Keep.of_wr W20).1
  have n22 := Fr.snoc X20 N19 u13
  refine own_st (B := T20.setTop (mkF m 101 #[(jV arg0), sV, (iV arg1), (iV arg2), (iV v1), (iV v4), (iV v7), (iV v8), (iV v10), (iV v12), (rV b13), uV, uV, uV, uV] [])) (fun t k => st20 t k) ?_
  refine own_st (B := T20.setTop (mkF m 103 #[(jV arg0), sV, (iV arg1), (iV arg2), (iV v1), (iV v4), (iV v7), (iV v8), (iV v10), (iV v12), (rV b13), uV, uV, uV, uV] [(.ref b13)])) (fun t k => XS.aload X20.here hx rfl (hb hby at_101) rfl rfl k) ?_
  refine own_st (B := T20.setTop (mkF m 104 #[(jV arg0), sV, (iV arg1), (iV arg2), (iV v1), (iV v4), (iV v7), (iV v8), (iV v10), (iV v12), (rV b13), uV, uV, uV, uV] [(.int (2 : Int32)), (.ref b13)])) (fun t k => XS.iconst X20.here hx rfl (hb hby at_103) k) ?_
  refine own_st (B := T20.setTop (mkF m 105 #[(jV arg0), sV, (iV arg1), (iV arg2), (iV v1), (iV v4), (iV v7), (iV v8), (iV v10), (iV v12), (rV b13), uV, uV, uV, uV] [(.long arg0), (.int (2 : Int32)), (.ref b13)])) (fun t k => XS.lloadN X20.here hx rfl (hb hby at_104) rfl k) ?_
  refine own_st (B := T20.setTop (mkF m 107 #[(jV arg0), sV, (iV arg1), (iV arg2), (iV v1), (iV v4), (iV v7), (iV v8), (iV v10), (iV v12), (rV b13), uV, uV, uV, uV] [(.int v4), (.long arg0), (.int (2 : Int32)), (.ref b13)])) (fun t k => XS.iload X20.here hx rfl (hb hby at_105) rfl k) ?_
  refine own_st (B := T20.setTop (mkF m 108 #[(jV arg0), sV, (iV arg1), (iV arg2), (iV v1), (iV v4), (iV v7), (iV v8), (iV v10), (iV v12), (rV b13), uV, uV, uV, uV] [(.int (2 : Int32)), (.int v4), (.long arg0), (.int (2 : Int32)), (.ref b13)])) (fun t k => XS.iconst X20.here hx rfl (hb hby at_107) k) ?_
  obtain ⟨_, _, ⟨T23, L23, k23, j23⟩, -, X23, ⟨Lc23, hQ23, l23, y23_, z23_⟩, st23⟩ := Jvm.LawKit.callS X20 hx (y := (⟨"com/example/relayframe/relayframe/PalettePackPinLaw", "idx", "(JII)I"⟩ : MethodName)) hown (mvT hZ (w_5 hw)) (mvT hZ (w_6 hw)) (mvT hZ (w_7 hw)) (mvT hZ (w_8 hw)) (by decide) (backOf (W := 2) (rm2 l Z a0 hw [] arg0 v4 (2 : Int32) h20 n0 z21 ) hZ (w_8 hw) (w_7 hw) (by decide) (by decide)) (g := (mkF m 108 #[(jV arg0), sV, (iV arg1), (iV arg2), (iV v1), (iV v4), (iV v7), (iV v8), (iV v10), (iV v12), (rV b13), uV, uV, uV, uV] [(.int (2 : Int32)), (.int v4), (.long arg0), (.int (2 : Int32)), (.ref b13)])) rfl (by rw [hml]; rfl) (argsL := [(.long arg0), (.int v4), (.int (2 : Int32))]) (rest := [(.int (2 : Int32)), (.ref b13)]) (lenOf own_pd1 rfl) rfl (by show 2 * 0 + _ ≤ _; exact Nat.le_of_eq rfl) (hb hby at_108) (fun _ _ => ⟨rfl, e20, (by decide : 1 + 0 ≤ _), (by decide : 16 + 0 ≤ _)⟩)
  dsimp only [Pt.U, Pt.locs, Pt.cells, Pt.slots] at X23 l23 y23_ z23_ st23 hQ23
  obtain rfl : k23 = 1 := y23_
  obtain rfl : j23 = 16 := z23_
  obtain ⟨rfl, N23q, e23q⟩ := hQ23
  have N23 : Fr n0 L23 := by rw [l23]; exact Fr.app n22 N23q
  refine own_st (B := T23.setTop (mkF m 111 #[(jV arg0), sV, (iV arg1), (iV arg2), (iV v1), (iV v4), (iV v7), (iV v8), (iV v10), (iV v12), (rV b13), uV, uV, uV, uV] [(.int (own_idx arg0 v4 (2 : Int32))), (.int (2 : Int32)), (.ref b13)])) (fun t k => st23 t k) ?_
  refine own_st (B := T23.setTop (mkF m 112 #[(jV arg0), sV, (iV arg1), (iV arg2), (iV v1), (iV v4), (iV v7), (iV v8), (iV v10), (iV v12), (rV b13), uV, uV, uV, uV] [(.int ((own_idx arg0 v4 (2 : Int32)).toInt8.toInt32)), (.int (2 : Int32)), (.ref b13)])) (fun t k => XS.i2b X23.here hx rfl (hb hby at_111) rfl k) ?_
  obtain ⟨T24, h24, X24, e24, W24, A24, st24⟩ := own_stB X23 hx hZ e23q f20_ (j := (2 : Int32)) (x := ((own_idx arg0 v4 (2 : Int32)).toInt8.toInt32)) (i := 2) (by decide) (show 2 < 16 from by decide) (g := (mkF m 112 #[(jV arg0), sV, (iV arg1), (iV arg2), (iV v1), (iV v4), (iV v7), (iV v8), (iV v10), (iV v12), (rV b13), uV, uV, uV, uV] [(.int ((own_idx arg0 v4 (2 : Int32)).toInt8.toInt32)), (.int (2 : Int32)), (.ref b13)])) rfl rfl (hb hby at_112)
  have f24_ : own_A Z h24 b13 .byte [(.int (((own_idx arg0 v4 (0 : Int32)).toInt8.toInt32).toInt8.toInt32)), (.int (((own_idx arg0 v4 (1 : Int32)).toInt8.toInt32).toInt8.toInt32)), (.int (((own_idx arg0 v4 (2 : Int32)).toInt8.toInt32).toInt8.toInt32)), (.int (0 : Int32)), (.int (0 : Int32)), (.int (0 : Int32)), (.int (0 : Int32)), (.int (0 : Int32)), (.int (0 : Int32)), (.int (0 : Int32)), (.int (0 : Int32)), (.int (0 : Int32)), (.int (0 : Int32)), (.int (0 : Int32)), (.int (0 : Int32)), (.int (0 : Int32))] := A24
  have z25 : n0 ≤ h24.size := Nat.le_trans z21 (Keep.of_wr W24).1
  have n26 := Fr.snoc X24 N23 u13
  refine own_st (B := T24.setTop (mkF m 113 #[(jV arg0), sV, (iV arg1), (iV arg2), (iV v1), (iV v4), (iV v7), (iV v8), (iV v10), (iV v12), (rV b13), uV, uV, uV, uV] [])) (fun t k => st24 t k) ?_
  refine own_st (B := T24.setTop (mkF m 115 #[(jV arg0), sV, (iV arg1), (iV arg2), (iV v1), (iV v4), (iV v7), (iV v8), (iV v10), (iV v12), (rV b13), uV, uV, uV, uV] [(.ref b13)])) (fun t k => XS.aload X24.here hx rfl (hb hby at_113) rfl rfl k) ?_
  refine own_st (B := T24.setTop (mkF m 116 #[(jV arg0), sV, (iV arg1), (iV arg2), (iV v1), (iV v4), (iV v7), (iV v8), (iV v10), (iV v12), (rV b13), uV, uV, uV, uV] [(.int (3 : Int32)), (.ref b13)])) (fun t k => XS.iconst X24.here hx rfl (hb hby at_115) k) ?_
  refine own_st (B := T24.setTop (mkF m 117 #[(jV arg0), sV, (iV arg1), (iV arg2), (iV v1), (iV v4), (iV v7), (iV v8), (iV v10), (iV v12), (rV b13), uV, uV, uV, uV] [(.long arg0), (.int (3 : Int32)), (.ref b13)])) (fun t k => XS.lloadN X24.here hx rfl (hb hby at_116) rfl k) ?_
  refine own_st (B := T24.setTop (mkF m 119 #[(jV arg0), sV, (iV arg1), (iV arg2), (iV v1), (iV v4), (iV v7), (iV v8), (iV v10), (iV v12), (rV b13), uV, uV, uV, uV] [(.int v4), (.long arg0), (.int (3 : Int32)), (.ref b13)])) (fun t k => XS.iload X24.here hx rfl (hb hby at_117) rfl k) ?_
  refine own_st (B := T24.setTop (mkF m 120 #[(jV arg0), sV, (iV arg1), (iV arg2), (iV v1), (iV v4), (iV v7), (iV v8), (iV v10), (iV v12), (rV b13), uV, uV, uV, uV] [(.int (3 : Int32)), (.int v4), (.long arg0), (.int (3 : Int32)), (.ref b13)])) (fun t k => XS.iconst X24.here hx rfl (hb hby at_119) k) ?_
  obtain ⟨_, _, ⟨T27, L27, k27, j27⟩, -, X27, ⟨Lc27, hQ27, l27, y27_, z27_⟩, st27⟩ := Jvm.LawKit.callS X24 hx (y := (⟨"com/example/relayframe/relayframe/PalettePackPinLaw", "idx", "(JII)I"⟩ : MethodName)) hown (mvT hZ (w_5 hw)) (mvT hZ (w_6 hw)) (mvT hZ (w_7 hw)) (mvT hZ (w_8 hw)) (by decide) (backOf (W := 2) (rm2 l Z a0 hw [] arg0 v4 (3 : Int32) h24 n0 z25 ) hZ (w_8 hw) (w_7 hw) (by decide) (by decide)) (g := (mkF m 120 #[(jV arg0), sV, (iV arg1), (iV arg2), (iV v1), (iV v4), (iV v7), (iV v8), (iV v10), (iV v12), (rV b13), uV, uV, uV, uV] [(.int (3 : Int32)), (.int v4), (.long arg0), (.int (3 : Int32)), (.ref b13)])) rfl (by rw [hml]; rfl) (argsL := [(.long arg0), (.int v4), (.int (3 : Int32))]) (rest := [(.int (3 : Int32)), (.ref b13)]) (lenOf own_pd1 rfl) rfl (by show 2 * 0 + _ ≤ _; exact Nat.le_of_eq rfl) (hb hby at_120) (fun _ _ => ⟨rfl, e24, (by decide : 1 + 0 ≤ _), (by decide : 16 + 0 ≤ _)⟩)
  dsimp only [Pt.U, Pt.locs, Pt.cells, Pt.slots] at X27 l27 y27_ z27_ st27 hQ27
  obtain rfl : k27 = 1 := y27_
  obtain rfl : j27 = 16 := z27_
  obtain ⟨rfl, N27q, e27q⟩ := hQ27
  have N27 : Fr n0 L27 := by rw [l27]; exact Fr.app n26 N27q
  refine own_st (B := T27.setTop (mkF m 123 #[(jV arg0), sV, (iV arg1), (iV arg2), (iV v1), (iV v4), (iV v7), (iV v8), (iV v10), (iV v12), (rV b13), uV, uV, uV, uV] [(.int (own_idx arg0 v4 (3 : Int32))), (.int (3 : Int32)), (.ref b13)])) (fun t k => st27 t k) ?_
  refine own_st (B := T27.setTop (mkF m 124 #[(jV arg0), sV, (iV arg1), (iV arg2), (iV v1), (iV v4), (iV v7), (iV v8), (iV v10), (iV v12), (rV b13), uV, uV, uV, uV] [(.int ((own_idx arg0 v4 (3 : Int32)).toInt8.toInt32)), (.int (3 : Int32)), (.ref b13)])) (fun t k => XS.i2b X27.here hx rfl (hb hby at_123) rfl k) ?_
  obtain ⟨T28, h28, X28, e28, W28, A28, st28⟩ := own_stB X27 hx hZ e27q f24_ (j := (3 : Int32)) (x := ((own_idx arg0 v4 (3 : Int32)).toInt8.toInt32)) (i := 3) (by decide) (show 3 < 16 from by decide) (g := (mkF m 124 #[(jV arg0), sV, (iV arg1), (iV arg2), (iV v1), (iV v4), (iV v7), (iV v8), (iV v10), (iV v12), (rV b13), uV, uV, uV, uV] [(.int ((own_idx arg0 v4 (3 : Int32)).toInt8.toInt32)), (.int (3 : Int32)), (.ref b13)])) rfl rfl (hb hby at_124)
  have f28_ : own_A Z h28 b13 .byte [(.int (((own_idx arg0 v4 (0 : Int32)).toInt8.toInt32).toInt8.toInt32)), (.int (((own_idx arg0 v4 (1 : Int32)).toInt8.toInt32).toInt8.toInt32)), (.int (((own_idx arg0 v4 (2 : Int32)).toInt8.toInt32).toInt8.toInt32)), (.int (((own_idx arg0 v4 (3 : Int32)).toInt8.toInt32).toInt8.toInt32)), (.int (0 : Int32)), (.int (0 : Int32)), (.int (0 : Int32)), (.int (0 : Int32)), (.int (0 : Int32)), (.int (0 : Int32)), (.int (0 : Int32)), (.int (0 : Int32)), (.int (0 : Int32)), (.int (0 : Int32)), (.int (0 : Int32)), (.int (0 : Int32))] := A28
  have z29 : n0 ≤ h28.size := Nat.le_trans z25 (Keep.of_wr W28).1
  have n30 := Fr.snoc X28 N27 u13
  refine own_st (B := T28.setTop (mkF m 125 #[(jV arg0), sV, (iV arg1), (iV arg2), (iV v1), (iV v4), (iV v7), (iV v8), (iV v10), (iV v12), (rV b13), uV, uV, uV, uV] [])) (fun t k => st28 t k) ?_
  refine own_st (B := T28.setTop (mkF m 127 #[(jV arg0), sV, (iV arg1), (iV arg2), (iV v1), (iV v4), (iV v7), (iV v8), (iV v10), (iV v12), (rV b13), uV, uV, uV, uV] [(.ref b13)])) (fun t k => XS.aload X28.here hx rfl (hb hby at_125) rfl rfl k) ?_
  refine own_st (B := T28.setTop (mkF m 128 #[(jV arg0), sV, (iV arg1), (iV arg2), (iV v1), (iV v4), (iV v7), (iV v8), (iV v10), (iV v12), (rV b13), uV, uV, uV, uV] [(.int (4 : Int32)), (.ref b13)])) (fun t k => XS.iconst X28.here hx rfl (hb hby at_127) k) ?_
  refine own_st (B := T28.setTop (mkF m 129 #[(jV arg0), sV, (iV arg1), (iV arg2), (iV v1), (iV v4), (iV v7), (iV v8), (iV v10), (iV v12), (rV b13), uV, uV, uV, uV] [(.long arg0), (.int (4 : Int32)), (.ref b13)])) (fun t k => XS.lloadN X28.here hx rfl (hb hby at_128) rfl k) ?_
  refine own_st (B := T28.setTop (mkF m 131 #[(jV arg0), sV, (iV arg1), (iV arg2), (iV v1), (iV v4), (iV v7), (iV v8), (iV v10), (iV v12), (rV b13), uV, uV, uV, uV] [(.int v4), (.long arg0), (.int (4 : Int32)), (.ref b13)])) (fun t k => XS.iload X28.here hx rfl (hb hby at_129) rfl k) ?_
  refine own_st (B := T28.setTop (mkF m 132 #[(jV arg0), sV, (iV arg1), (iV arg2), (iV v1), (iV v4), (iV v7), (iV v8), (iV v10), (iV v12), (rV b13), uV, uV, uV, uV] [(.int (4 : Int32)), (.int v4), (.long arg0), (.int (4 : Int32)), (.ref b13)])) (fun t k => XS.iconst X28.here hx rfl (hb hby at_131) k) ?_
  obtain ⟨_, _, ⟨T31, L31, k31, j31⟩, -, X31, ⟨Lc31, hQ31, l31, y31_, z31_⟩, st31⟩ := Jvm.LawKit.callS X28 hx (y := (⟨"com/example/relayframe/relayframe/PalettePackPinLaw", "idx", "(JII)I"⟩ : MethodName)) hown (mvT hZ (w_5 hw)) (mvT hZ (w_6 hw)) (mvT hZ (w_7 hw)) (mvT hZ (w_8 hw)) (by decide) (backOf (W := 2) (rm2 l Z a0 hw [] arg0 v4 (4 : Int32) h28 n0 z29 ) hZ (w_8 hw) (w_7 hw) (by decide) (by decide)) (g := (mkF m 132 #[(jV arg0), sV, (iV arg1), (iV arg2), (iV v1), (iV v4), (iV v7), (iV v8), (iV v10), (iV v12), (rV b13), uV, uV, uV, uV] [(.int (4 : Int32)), (.int v4), (.long arg0), (.int (4 : Int32)), (.ref b13)])) rfl (by rw [hml]; rfl) (argsL := [(.long arg0), (.int v4), (.int (4 : Int32))]) (rest := [(.int (4 : Int32)), (.ref b13)]) (lenOf own_pd1 rfl) rfl (by show 2 * 0 + _ ≤ _; exact Nat.le_of_eq rfl) (hb hby at_132) (fun _ _ => ⟨rfl, e28, (by decide : 1 + 0 ≤ _), (by decide : 16 + 0 ≤ _)⟩)
  dsimp only [Pt.U, Pt.locs, Pt.cells, Pt.slots] at X31 l31 y31_ z31_ st31 hQ31
  obtain rfl : k31 = 1 := y31_
  obtain rfl : j31 = 16 := z31_
  obtain ⟨rfl, N31q, e31q⟩ := hQ31
  have N31 : Fr n0 L31 := by rw [l31]; exact Fr.app n30 N31q
  refine own_st (B := T31.setTop (mkF m 135 #[(jV arg0), sV, (iV arg1), (iV arg2), (iV v1), (iV v4), (iV v7), (iV v8), (iV v10), (iV v12), (rV b13), uV, uV, uV, uV] [(.int (own_idx arg0 v4 (4 : Int32))), (.int (4 : Int32)), (.ref b13)])) (fun t k => st31 t k) ?_
  refine own_st (B := T31.setTop (mkF m 136 #[(jV arg0), sV, (iV arg1), (iV arg2), (iV v1), (iV v4), (iV v7), (iV v8), (iV v10), (iV v12), (rV b13), uV, uV, uV, uV] [(.int ((own_idx arg0 v4 (4 : Int32)).toInt8.toInt32)), (.int (4 : Int32)), (.ref b13)])) (fun t k => XS.i2b X31.here hx rfl (hb hby at_135) rfl k) ?_
  obtain ⟨T32, h32, X32, e32, W32, A32, st32⟩ := own_stB X31 hx hZ e31q f28_ (j := (4 : Int32)) (x := ((own_idx arg0 v4 (4 : Int32)).toInt8.toInt32)) (i := 4) (by decide) (show 4 < 16 from by decide) (g := (mkF m 136 #[(jV arg0), sV, (iV arg1), (iV arg2), (iV v1), (iV v4), (iV v7), (iV v8), (iV v10), (iV v12), (rV b13), uV, uV, uV, uV] [(.int ((own_idx arg0 v4 (4 : Int32)).toInt8.toInt32)), (.int (4 : Int32)), (.ref b13)])) rfl rfl (hb hby at_136)
  have f32_ : own_A Z h32 b13 .byte [(.int (((own_idx arg0 v4 (0 : Int32)).toInt8.toInt32).toInt8.toInt32)), (.int (((own_idx arg0 v4 (1 : Int32)).toInt8.toInt32).toInt8.toInt32)), (.int (((own_idx arg0 v4 (2 : Int32)).toInt8.toInt32).toInt8.toInt32)), (.int (((own_idx arg0 v4 (3 : Int32)).toInt8.toInt32).toInt8.toInt32)), (.int (((own_idx arg0 v4 (4 : Int32)).toInt8.toInt32).toInt8.toInt32)), (.int (0 : Int32)), (.int (0 : Int32)), (.int (0 : Int32)), (.int (0 : Int32)), (.int (0 : Int32)), (.int (0 : Int32)), (.int (0 : Int32)), (.int (0 : Int32)), (.int (0 : Int32)), (.int (0 : Int32)), (.int (0 : Int32))] := A32
  have z33 : n0 ≤ h32.size := Nat.le_trans z29 (Keep.of_wr W32).1
  have n34 := Fr.snoc X32 N31 u13
  refine own_st (B := T32.setTop (mkF m 137 #[(jV arg0), sV, (iV arg1), (iV arg2), (iV v1), (iV v4), (iV v7), (iV v8), (iV v10), (iV v12), (rV b13), uV, uV, uV, uV] [])) (fun t k => st32 t k) ?_
  refine own_st (B := T32.setTop (mkF m 139 #[(jV arg0), sV, (iV arg1), (iV arg2), (iV v1), (iV v4), (iV v7), (iV v8), (iV v10), (iV v12), (rV b13), uV, uV, uV, uV] [(.ref b13)])) (fun t k => XS.aload X32.here hx rfl (hb hby at_137) rfl rfl k) ?_
  refine own_st (B := T32.setTop (mkF m 140 #[(jV arg0), sV, (iV arg1), (iV arg2), (iV v1), (iV v4), (iV v7), (iV v8), (iV v10), (iV v12), (rV b13), uV, uV, uV, uV] [(.int (5 : Int32)), (.ref b13)])) (fun t k => XS.iconst X32.here hx rfl (hb hby at_139) k) ?_
  refine own_st (B := T32.setTop (mkF m 141 #[(jV arg0), sV, (iV arg1), (iV arg2), (iV v1), (iV v4), (iV v7), (iV v8), (iV v10), (iV v12), (rV b13), uV, uV, uV, uV] [(.long arg0), (.int (5 : Int32)), (.ref b13)])) (fun t k => XS.lloadN X32.here hx rfl (hb hby at_140) rfl k) ?_
  refine own_st (B := T32.setTop (mkF m 143 #[(jV arg0), sV, (iV arg1), (iV arg2), (iV v1), (iV v4), (iV v7), (iV v8), (iV v10), (iV v12), (rV b13), uV, uV, uV, uV] [(.int v4), (.long arg0), (.int (5 : Int32)), (.ref b13)])) (fun t k => XS.iload X32.here hx rfl (hb hby at_141) rfl k) ?_
  refine own_st (B := T32.setTop (mkF m 144 #[(jV arg0), sV, (iV arg1), (iV arg2), (iV v1), (iV v4), (iV v7), (iV v8), (iV v10), (iV v12), (rV b13), uV, uV, uV, uV] [(.int (5 : Int32)), (.int v4), (.long arg0), (.int (5 : Int32)), (.ref b13)])) (fun t k => XS.iconst X32.here hx rfl (hb hby at_143) k) ?_
  obtain ⟨_, _, ⟨T35, L35, k35, j35⟩, -, X35, ⟨Lc35, hQ35, l35, y35_, z35_⟩, st35⟩ := Jvm.LawKit.callS X32 hx (y := (⟨"com/example/relayframe/relayframe/PalettePackPinLaw", "idx", "(JII)I"⟩ : MethodName)) hown (mvT hZ (w_5 hw)) (mvT hZ (w_6 hw)) (mvT hZ (w_7 hw)) (mvT hZ (w_8 hw)) (by decide) (backOf (W := 2) (rm2 l Z a0 hw [] arg0 v4 (5 : Int32) h32 n0 z33 ) hZ (w_8 hw) (w_7 hw) (by decide) (by decide)) (g := (mkF m 144 #[(jV arg0), sV, (iV arg1), (iV arg2), (iV v1), (iV v4), (iV v7), (iV v8), (iV v10), (iV v12), (rV b13), uV, uV, uV, uV] [(.int (5 : Int32)), (.int v4), (.long arg0), (.int (5 : Int32)), (.ref b13)])) rfl (by rw [hml]; rfl) (argsL := [(.long arg0), (.int v4), (.int (5 : Int32))]) (rest := [(.int (5 : Int32)), (.ref b13)]) (lenOf own_pd1 rfl) rfl (by show 2 * 0 + _ ≤ _; exact Nat.le_of_eq rfl) (hb hby at_144) (fun _ _ => ⟨rfl, e32, (by decide : 1 + 0 ≤ _), (by decide : 16 + 0 ≤ _)⟩)
  dsimp only [Pt.U, Pt.locs, Pt.cells, Pt.slots] at X35 l35 y35_ z35_ st35 hQ35
  obtain rfl : k35 = 1 := y35_
  obtain rfl : j35 = 16 := z35_
  obtain ⟨rfl, N35q, e35q⟩ := hQ35
  have N35 : Fr n0 L35 := by rw [l35]; exact Fr.app n34 N35q
  refine own_st (B := T35.setTop (mkF m 147 #[(jV arg0), sV, (iV arg1), (iV arg2), (iV v1), (iV v4), (iV v7), (iV v8), (iV v10), (iV v12), (rV b13), uV, uV, uV, uV] [(.int (own_idx arg0 v4 (5 : Int32))), (.int (5 : Int32)), (.ref b13)])) (fun t k => st35 t k) ?_
  refine own_st (B := T35.setTop (mkF m 148 #[(jV arg0), sV, (iV arg1), (iV arg2), (iV v1), (iV v4), (iV v7), (iV v8), (iV v10), (iV v12), (rV b13), uV, uV, uV, uV] [(.int ((own_idx arg0 v4 (5 : Int32)).toInt8.toInt32)), (.int (5 : Int32)), (.ref b13)])) (fun t k => XS.i2b X35.here hx rfl (hb hby at_147) rfl k) ?_
  obtain ⟨T36, h36, X36, e36, W36, A36, st36⟩ := own_stB X35 hx hZ e35q f32_ (j := (5 : Int32)) (x := ((own_idx arg0 v4 (5 : Int32)).toInt8.toInt32)) (i := 5) (by decide) (show 5 < 16 from by decide) (g := (mkF m 148 #[(jV arg0), sV, (iV arg1), (iV arg2), (iV v1), (iV v4), (iV v7), (iV v8), (iV v10), (iV v12), (rV b13), uV, uV, uV, uV] [(.int ((own_idx arg0 v4 (5 : Int32)).toInt8.toInt32)), (.int (5 : Int32)), (.ref b13)])) rfl rfl (hb hby at_148)
  have f36_ : own_A Z h36 b13 .byte [(.int (((own_idx arg0 v4 (0 : Int32)).toInt8.toInt32).toInt8.toInt32)), (.int (((own_idx arg0 v4 (1 : Int32)).toInt8.toInt32).toInt8.toInt32)), (.int (((own_idx arg0 v4 (2 : Int32)).toInt8.toInt32).toInt8.toInt32)), (.int (((own_idx arg0 v4 (3 : Int32)).toInt8.toInt32).toInt8.toInt32)), (.int (((own_idx arg0 v4 (4 : Int32)).toInt8.toInt32).toInt8.toInt32)), (.int (((own_idx arg0 v4 (5 : Int32)).toInt8.toInt32).toInt8.toInt32)), (.int (0 : Int32)), (.int (0 : Int32)), (.int (0 : Int32)), (.int (0 : Int32)), (.int (0 : Int32)), (.int (0 : Int32)), (.int (0 : Int32)), (.int (0 : Int32)), (.int (0 : Int32)), (.int (0 : Int32))] := A36
  have z37 : n0 ≤ h36.size := Nat.le_trans z33 (Keep.of_wr W36).1
  have n38 := Fr.snoc X36 N35 u13
  refine own_st (B := T36.setTop (mkF m 149 #[(jV arg0), sV, (iV arg1), (iV arg2), (iV v1), (iV v4), (iV v7), (iV v8), (iV v10), (iV v12), (rV b13), uV, uV, uV, uV] [])) (fun t k => st36 t k) ?_
  refine own_st (B := T36.setTop (mkF m 151 #[(jV arg0), sV, (iV arg1), (iV arg2), (iV v1), (iV v4), (iV v7), (iV v8), (iV v10), (iV v12), (rV b13), uV, uV, uV, uV] [(.ref b13)])) (fun t k => XS.aload X36.here hx rfl (hb hby at_149) rfl rfl k) ?_
  refine own_st (B := T36.setTop (mkF m 153 #[(jV arg0), sV, (iV arg1), (iV arg2), (iV v1), (iV v4), (iV v7), (iV v8), (iV v10), (iV v12), (rV b13), uV, uV, uV, uV] [(.int (6 : Int32)), (.ref b13)])) (fun t k => XS.bipush X36.here hx rfl (hb hby at_151) k) ?_
  refine own_st (B := T36.setTop (mkF m 154 #[(jV arg0), sV, (iV arg1), (iV arg2), (iV v1), (iV v4), (iV v7), (iV v8), (iV v10), (iV v12), (rV b13), uV, uV, uV, uV] [(.long arg0), (.int (6 : Int32)), (.ref b13)])) (fun t k => XS.lloadN X36.here hx rfl (hb hby at_153) rfl k) ?_
  refine own_st (B := T36.setTop (mkF m 156 #[(jV arg0), sV, (iV arg1), (iV arg2), (iV v1), (iV v4), (iV v7), (iV v8), (iV v10), (iV v12), (rV b13), uV, uV, uV, uV] [(.int v4), (.long arg0), (.int (6 : Int32)), (.ref b13)])) (fun t k => XS.iload X36.here hx rfl (hb hby at_154) rfl k) ?_
  refine own_st (B := T36.setTop (mkF m 158 #[(jV arg0), sV, (iV arg1), (iV arg2), (iV v1), (iV v4), (iV v7), (iV v8), (iV v10), (iV v12), (rV b13), uV, uV, uV, uV] [(.int (6 : Int32)), (.int v4), (.long arg0), (.int (6 : Int32)), (.ref b13)])) (fun t k => XS.bipush X36.here hx rfl (hb hby at_156) k) ?_
  obtain ⟨_, _, ⟨T39, L39, k39, j39⟩, -, X39, ⟨Lc39, hQ39, l39, y39_, z39_⟩, st39⟩ := Jvm.LawKit.callS X36 hx (y := (⟨"com/example/relayframe/relayframe/PalettePackPinLaw", "idx", "(JII)I"⟩ : MethodName)) hown (mvT hZ (w_5 hw)) (mvT hZ (w_6 hw)) (mvT hZ (w_7 hw)) (mvT hZ (w_8 hw)) (by decide) (backOf (W := 2) (rm2 l Z a0 hw [] arg0 v4 (6 : Int32) h36 n0 z37 ) hZ (w_8 hw) (w_7 hw) (by decide) (by decide)) (g := (mkF m 158 #[(jV arg0), sV, (iV arg1), (iV arg2), (iV v1), (iV v4), (iV v7), (iV v8), (iV v10), (iV v12), (rV b13), uV, uV, uV, uV] [(.int (6 : Int32)), (.int v4), (.long arg0), (.int (6 : Int32)), (.ref b13)])) rfl (by rw [hml]; rfl) (argsL := [(.long arg0), (.int v4), (.int (6 : Int32))]) (rest := [(.int (6 : Int32)), (.ref b13)]) (lenOf own_pd1 rfl) rfl (by show 2 * 0 + _ ≤ _; exact Nat.le_of_eq rfl) (hb hby at_158) (fun _ _ => ⟨rfl, e36, (by decide : 1 + 0 ≤ _), (by decide : 16 + 0 ≤ _)⟩)
  dsimp only [Pt.U, Pt.locs, Pt.cells, Pt.slots] at X39 l39 y39_ z39_ st39 hQ39
  obtain rfl : k39 = 1 := y39_
  obtain rfl : j39 = 16 := z39_
  obtain ⟨rfl, N39q, e39q⟩ := hQ39
  have N39 : Fr n0 L39 := by rw [l39]; exact Fr.app n38 N39q
  refine own_st (B := T39.setTop (mkF m 161 #[(jV arg0), sV, (iV arg1), (iV arg2), (iV v1), (iV v4), (iV v7), (iV v8), (iV v10), (iV v12), (rV b13), uV, uV, uV, uV] [(.int (own_idx arg0 v4 (6 : Int32))), (.int (6 : Int32)), (.ref b13)])) (fun t k => st39 t k) ?_
  refine own_st (B := T39.setTop (mkF m 162 #[(jV arg0), sV, (iV arg1), (iV arg2), (iV v1), (iV v4), (iV v7), (iV v8), (iV v10), (iV v12), (rV b13), uV, uV, uV, uV] [(.int ((own_idx arg0 v4 (6 : Int32)).toInt8.toInt32)), (.int (6 : Int32)), (.ref b13)])) (fun t k => XS.i2b X39.here hx rfl (hb hby at_161) rfl k) ?_
  obtain ⟨T40, h40, X40, e40, W40, A40, st40⟩ := own_stB X39 hx hZ e39q f36_ (j := (6 : Int32)) (x := ((own_idx arg0 v4 (6 : Int32)).toInt8.toInt32)) (i := 6) (by decide) (show 6 < 16 from by decide) (g := (mkF m 162 #[(jV arg0), sV, (iV arg1), (iV arg2), (iV v1), (iV v4), (iV v7), (iV v8), (iV v10), (iV v12), (rV b13), uV, uV, uV, uV] [(.int ((own_idx arg0 v4 (6 : Int32)).toInt8.toInt32)), (.int (6 : Int32)), (.ref b13)])) rfl rfl (hb hby at_162)
  have f40_ : own_A Z h40 b13 .byte [(.int (((own_idx arg0 v4 (0 : Int32)).toInt8.toInt32).toInt8.toInt32)), (.int (((own_idx arg0 v4 (1 : Int32)).toInt8.toInt32).toInt8.toInt32)), (.int (((own_idx arg0 v4 (2 : Int32)).toInt8.toInt32).toInt8.toInt32)), (.int (((own_idx arg0 v4 (3 : Int32)).toInt8.toInt32).toInt8.toInt32)), (.int (((own_idx arg0 v4 (4 : Int32)).toInt8.toInt32).toInt8.toInt32)), (.int (((own_idx arg0 v4 (5 : Int32)).toInt8.toInt32).toInt8.toInt32)), (.int (((own_idx arg0 v4 (6 : Int32)).toInt8.toInt32).toInt8.toInt32)), (.int (0 : Int32)), (.int (0 : Int32)), (.int (0 : Int32)), (.int (0 : Int32)), (.int (0 : Int32)), (.int (0 : Int32)), (.int (0 : Int32)), (.int (0 : Int32)), (.int (0 : Int32))] := by simpa only [List.set_cons_succ, List.set_cons_zero] using A40
  have z41 : n0 ≤ h40.size := Nat.le_trans z37 (Keep.of_wr W40).1
  have n42 := Fr.snoc X40 N39 u13
  refine own_st (B := T40.setTop (mkF m 163 #[(jV arg0), sV, (iV arg1), (iV arg2), (iV v1), (iV v4), (iV v7), (iV v8), (iV v10), (iV v12), (rV b13), uV, uV, uV, uV] [])) (fun t k => st40 t k) ?_
  refine own_st (B := T40.setTop (mkF m 165 #[(jV arg0), sV, (iV arg1), (iV arg2), (iV v1), (iV v4), (iV v7), (iV v8), (iV v10), (iV v12), (rV b13), uV, uV, uV, uV] [(.ref b13)])) (fun t k => XS.aload X40.here hx rfl (hb hby at_163) rfl rfl k) ?_
  refine own_st (B := T40.setTop (mkF m 167 #[(jV arg0), sV, (iV arg1), (iV arg2), (iV v1), (iV v4), (iV v7), (iV v8), (iV v10), (iV v12), (rV b13), uV, uV, uV, uV] [(.int (7 : Int32)), (.ref b13)])) (fun t k => XS.bipush X40.here hx rfl (hb hby at_165) k) ?_
  refine own_st (B := T40.setTop (mkF m 168 #[(jV arg0), sV, (iV arg1), (iV arg2), (iV v1), (iV v4), (iV v7), (iV v8), (iV v10), (iV v12), (rV b13), uV, uV, uV, uV] [(.long arg0), (.int (7 : Int32)), (.ref b13)])) (fun t k => XS.lloadN X40.here hx rfl (hb hby at_167) rfl k) ?_
  refine own_st (B := T40.setTop (mkF m 170 #[(jV arg0), sV, (iV arg1), (iV arg2), (iV v1), (iV v4), (iV v7), (iV v8), (iV v10), (iV v12), (rV b13), uV, uV, uV, uV] [(.int v4), (.long arg0), (.int (7 : Int32)), (.ref b13)])) (fun t k => XS.iload X40.here hx rfl (hb hby at_168) rfl k) ?_
  refine own_st (B := T40.setTop (mkF m 172 #[(jV arg0), sV, (iV arg1), (iV arg2), (iV v1), (iV v4), (iV v7), (iV v8), (iV v10), (iV v12), (rV b13), uV, uV, uV, uV] [(.int (7 : Int32)), (.int v4), (.long arg0), (.int (7 : Int32)), (.ref b13)])) (fun t k => XS.bipush X40.here hx rfl (hb hby at_170) k) ?_
  obtain ⟨_, _, ⟨T43, L43, k43, j43⟩, -, X43, ⟨Lc43, hQ43, l43, y43_, z43_⟩, st43⟩ := Jvm.LawKit.callS X40 hx (y := (⟨"com/example/relayframe/relayframe/PalettePackPinLaw", "idx", "(JII)I"⟩ : MethodName)) hown (mvT hZ (w_5 hw)) (mvT hZ (w_6 hw)) (mvT hZ (w_7 hw)) (mvT hZ (w_8 hw)) (by decide) (backOf (W := 2) (rm2 l Z a0 hw [] arg0 v4 (7 : Int32) h40 n0 z41 ) hZ (w_8 hw) (w_7 hw) (by decide) (by decide)) (g := (mkF m 172 #[(jV arg0), sV, (iV arg1), (iV arg2), (iV v1), (iV v4), (iV v7), (iV v8), (iV v10), (iV v12), (rV b13), uV, uV, uV, uV] [(.int (7 : Int32)), (.int v4), (.long arg0), (.int (7 : Int32)), (.ref b13)])) rfl (by rw [hml]; rfl) (argsL := [(.long arg0), (.int v4), (.int (7 : Int32))]) (rest := [(.int (7 : Int32)), (.ref b13)]) (lenOf own_pd1 rfl) rfl (by show 2 * 0 + _ ≤ _; exact Nat.le_of_eq rfl) (hb hby at_172) (fun _ _ => ⟨rfl, e40, (by decide : 1 + 0 ≤ _), (by decide : 16 + 0 ≤ _)⟩)
  dsimp only [Pt.U, Pt.locs, Pt.cells, Pt.slots] at X43 l43 y43_ z43_ st43 hQ43
  obtain rfl : k43 = 1 := y43_
  obtain rfl : j43 = 16 := z43_
  obtain ⟨rfl, N43q, e43q⟩ := hQ43
  have N43 : Fr n0 L43 := by rw [l43]; exact Fr.app n42 N43q
  refine own_st (B := T43.setTop (mkF m 175 #[(jV arg0), sV, (iV arg1), (iV arg2), (iV v1), (iV v4), (iV v7), (iV v8), (iV v10), (iV v12), (rV b13), uV, uV, uV, uV] [(.int (own_idx arg0 v4 (7 : Int32))), (.int (7 : Int32)), (.ref b13)])) (fun t k => st43 t k) ?_
  refine own_st (B := T43.setTop (mkF m 176 #[(jV arg0), sV, (iV arg1), (iV arg2), (iV v1), (iV v4), (iV v7), (iV v8), (iV v10), (iV v12), (rV b13), uV, uV, uV, uV] [(.int ((own_idx arg0 v4 (7 : Int32)).toInt8.toInt32)), (.int (7 : Int32)), (.ref b13)])) (fun t k => XS.i2b X43.here hx rfl (hb hby at_175) rfl k) ?_
  obtain ⟨T44, h44, X44, e44, W44, A44, st44⟩ := own_stB X43 hx hZ e43q f40_ (j := (7 : Int32)) (x := ((own_idx arg0 v4 (7 : Int32)).toInt8.toInt32)) (i := 7) (by decide) (show 7 < 16 from by decide) (g := (mkF m 176 #[(jV arg0), sV, (iV arg1), (iV arg2), (iV v1), (iV v4), (iV v7), (iV v8), (iV v10), (iV v12), (rV b13), uV, uV, uV, uV] [(.int ((own_idx arg0 v4 (7 : Int32)).toInt8.toInt32)), (.int (7 : Int32)), (.ref b13)])) rfl rfl (hb hby at_176)
  have f44_ : own_A Z h44 b13 .byte [(.int (((own_idx arg0 v4 (0 : Int32)).toInt8.toInt32).toInt8.toInt32)), (.int (((own_idx arg0 v4 (1 : Int32)).toInt8.toInt32).toInt8.toInt32)), (.int (((own_idx arg0 v4 (2 : Int32)).toInt8.toInt32).toInt8.toInt32)), (.int (((own_idx arg0 v4 (3 : Int32)).toInt8.toInt32).toInt8.toInt32)), (.int (((own_idx arg0 v4 (4 : Int32)).toInt8.toInt32).toInt8.toInt32)), (.int (((own_idx arg0 v4 (5 : Int32)).toInt8.toInt32).toInt8.toInt32)), (.int (((own_idx arg0 v4 (6 : Int32)).toInt8.toInt32).toInt8.toInt32)), (.int (((own_idx arg0 v4 (7 : Int32)).toInt8.toInt32).toInt8.toInt32)), (.int (0 : Int32)), (.int (0 : Int32)), (.int (0 : Int32)), (.int (0 : Int32)), (.int (0 : Int32)), (.int (0 : Int32)), (.int (0 : Int32)), (.int (0 : Int32))] := by simpa only [List.set_cons_succ, List.set_cons_zero] using A44
  have z45 : n0 ≤ h44.size := Nat.le_trans z41 (Keep.of_wr W44).1
  have n46 := Fr.snoc X44 N43 u13
  refine own_st (B := T44.setTop (mkF m 177 #[(jV arg0), sV, (iV arg1), (iV arg2), (iV v1), (iV v4), (iV v7), (iV v8), (iV v10), (iV v12), (rV b13), uV, uV, uV, uV] [])) (fun t k => st44 t k) ?_
  refine own_st (B := T44.setTop (mkF m 179 #[(jV arg0), sV, (iV arg1), (iV arg2), (iV v1), (iV v4), (iV v7), (iV v8), (iV v10), (iV v12), (rV b13), uV, uV, uV, uV] [(.ref b13)])) (fun t k => XS.aload X44.here hx rfl (hb hby at_177) rfl rfl k) ?_
  refine own_st (B := T44.setTop (mkF m 181 #[(jV arg0), sV, (iV arg1), (iV arg2), (iV v1), (iV v4), (iV v7), (iV v8), (iV v10), (iV v12), (rV b13), uV, uV, uV, uV] [(.int (8 : Int32)), (.ref b13)])) (fun t k => XS.bipush X44.here hx rfl (hb hby at_179) k) ?_
  refine own_st (B := T44.setTop (mkF m 182 #[(jV arg0), sV, (iV arg1), (iV arg2), (iV v1), (iV v4), (iV v7), (iV v8), (iV v10), (iV v12), (rV b13), uV, uV, uV, uV] [(.long arg0), (.int (8 : Int32)), (.ref b13)])) (fun t k => XS.lloadN X44.here hx rfl (hb hby at_181) rfl k) ?_
  refine own_st (B := T44.setTop (mkF m 184 #[(jV arg0), sV, (iV arg1), (iV arg2), (iV v1), (iV v4), (iV v7), (iV v8), (iV v10), (iV v12), (rV b13), uV, uV, uV, uV] [(.int v4), (.long arg0), (.int (8 : Int32)), (.ref b13)])) (fun t k => XS.iload X44.here hx rfl (hb hby at_182) rfl k) ?_
  refine own_st (B := T44.setTop (mkF m 186 #[(jV arg0), sV, (iV arg1), (iV arg2), (iV v1), (iV v4), (iV v7), (iV v8), (iV v10), (iV v12), (rV b13), uV, uV, uV, uV] [(.int (8 : Int32)), (.int v4), (.long arg0), (.int (8 : Int32)), (.ref b13)])) (fun t k => XS.bipush X44.here hx rfl (hb hby at_184) k) ?_
  obtain ⟨_, _, ⟨T47, L47, k47, j47⟩, -, X47, ⟨Lc47, hQ47, l47, y47_, z47_⟩, st47⟩ := Jvm.LawKit.callS X44 hx (y := (⟨"com/example/relayframe/relayframe/PalettePackPinLaw", "idx", "(JII)I"⟩ : MethodName)) hown (mvT hZ (w_5 hw)) (mvT hZ (w_6 hw)) (mvT hZ (w_7 hw)) (mvT hZ (w_8 hw)) (by decide) (backOf (W := 2) (rm2 l Z a0 hw [] arg0 v4 (8 : Int32) h44 n0 z45 ) hZ (w_8 hw) (w_7 hw) (by decide) (by decide)) (g := (mkF m 186 #[(jV arg0), sV, (iV arg1), (iV arg2), (iV v1), (iV v4), (iV v7), (iV v8), (iV v10), (iV v12), (rV b13), uV, uV, uV, uV] [(.int (8 : Int32)), (.int v4), (.long arg0), (.int (8 : Int32)), (.ref b13)])) rfl (by rw [hml]; rfl) (argsL := [(.long arg0), (.int v4), (.int (8 : Int32))]) (rest := [(.int (8 : Int32)), (.ref b13)]) (lenOf own_pd1 rfl) rfl (by show 2 * 0 + _ ≤ _; exact Nat.le_of_eq rfl) (hb hby at_186) (fun _ _ => ⟨rfl, e44, (by decide : 1 + 0 ≤ _), (by decide : 16 + 0 ≤ _)⟩)
  dsimp only [Pt.U, Pt.locs, Pt.cells, Pt.slots] at X47 l47 y47_ z47_ st47 hQ47
  obtain rfl : k47 = 1 := y47_
  obtain rfl : j47 = 16 := z47_
  obtain ⟨rfl, N47q, e47q⟩ := hQ47
  have N47 : Fr n0 L47 := by rw [l47]; exact Fr.app n46 N47q
  refine own_st (B := T47.setTop (mkF m 189 #[(jV arg0), sV, (iV arg1), (iV arg2), (iV v1), (iV v4), (iV v7), (iV v8), (iV v10), (iV v12), (rV b13), uV, uV, uV, uV] [(.int (own_idx arg0 v4 (8 : Int32))), (.int (8 : Int32)), (.ref b13)])) (fun t k => st47 t k) ?_
  refine own_st (B := T47.setTop (mkF m 190 #[(jV arg0), sV, (iV arg1), (iV arg2), (iV v1), (iV v4), (iV v7), (iV v8), (iV v10), (iV v12), (rV b13), uV, uV, uV, uV] [(.int ((own_idx arg0 v4 (8 : Int32)).toInt8.toInt32)), (.int (8 : Int32)), (.ref b13)])) (fun t k => XS.i2b X47.here hx rfl (hb hby at_189) rfl k) ?_
  obtain ⟨T48, h48, X48, e48, W48, A48, st48⟩ := own_stB X47 hx hZ e47q f44_ (j := (8 : Int32)) (x := ((own_idx arg0 v4 (8 : Int32)).toInt8.toInt32)) (i := 8) (by decide) (show 8 < 16 from by decide) (g := (mkF m 190 #[(jV arg0), sV, (iV arg1), (iV arg2), (iV v1), (iV v4), (iV v7), (iV v8), (iV v10), (iV v12), (rV b13), uV, uV, uV, uV] [(.int ((own_idx arg0 v4 (8 : Int32)).toInt8.toInt32)), (.int (8 : Int32)), (.ref b13)])) rfl rfl (hb hby at_190)
  have f48_ : own_A Z h48 b13 .byte [(.int (((own_idx arg0 v4 (0 : Int32)).toInt8.toInt32).toInt8.toInt32)), (.int (((own_idx arg0 v4 (1 : Int32)).toInt8.toInt32).toInt8.toInt32)), (.int (((own_idx arg0 v4 (2 : Int32)).toInt8.toInt32).toInt8.toInt32)), (.int (((own_idx arg0 v4 (3 : Int32)).toInt8.toInt32).toInt8.toInt32)), (.int (((own_idx arg0 v4 (4 : Int32)).toInt8.toInt32).toInt8.toInt32)), (.int (((own_idx arg0 v4 (5 : Int32)).toInt8.toInt32).toInt8.toInt32)), (.int (((own_idx arg0 v4 (6 : Int32)).toInt8.toInt32).toInt8.toInt32)), (.int (((own_idx arg0 v4 (7 : Int32)).toInt8.toInt32).toInt8.toInt32)), (.int (((own_idx arg0 v4 (8 : Int32)).toInt8.toInt32).toInt8.toInt32)), (.int (0 : Int32)), (.int (0 : Int32)), (.int (0 : Int32)), (.int (0 : Int32)), (.int (0 : Int32)), (.int (0 : Int32)), (.int (0 : Int32))] := by simpa only [List.set_cons_succ, List.set_cons_zero] using A48
  have z49 : n0 ≤ h48.size := Nat.le_trans z45 (Keep.of_wr W48).1
  have n50 := Fr.snoc X48 N47 u13
  refine own_st (B := T48.setTop (mkF m 191 #[(jV arg0), sV, (iV arg1), (iV arg2), (iV v1), (iV v4), (iV v7), (iV v8), (iV v10), (iV v12), (rV b13), uV, uV, uV, uV] [])) (fun t k => st48 t k) ?_
  refine own_st (B := T48.setTop (mkF m 193 #[(jV arg0), sV, (iV arg1), (iV arg2), (iV v1), (iV v4), (iV v7), (iV v8), (iV v10), (iV v12), (rV b13), uV, uV, uV, uV] [(.ref b13)])) (fun t k => XS.aload X48.here hx rfl (hb hby at_191) rfl rfl k) ?_
  refine own_st (B := T48.setTop (mkF m 195 #[(jV arg0), sV, (iV arg1), (iV arg2), (iV v1), (iV v4), (iV v7), (iV v8), (iV v10), (iV v12), (rV b13), uV, uV, uV, uV] [(.int (9 : Int32)), (.ref b13)])) (fun t k => XS.bipush X48.here hx rfl (hb hby at_193) k) ?_
  refine own_st (B := T48.setTop (mkF m 196 #[(jV arg0), sV, (iV arg1), (iV arg2), (iV v1), (iV v4), (iV v7), (iV v8), (iV v10), (iV v12), (rV b13), uV, uV, uV, uV] [(.long arg0), (.int (9 : Int32)), (.ref b13)])) (fun t k => XS.lloadN X48.here hx rfl (hb hby at_195) rfl k) ?_
  refine own_st (B := T48.setTop (mkF m 198 #[(jV arg0), sV, (iV arg1), (iV arg2), (iV v1), (iV v4), (iV v7), (iV v8), (iV v10), (iV v12), (rV b13), uV, uV, uV, uV] [(.int v4), (.long arg0), (.int (9 : Int32)), (.ref b13)])) (fun t k => XS.iload X48.here hx rfl (hb hby at_196) rfl k) ?_
  refine own_st (B := T48.setTop (mkF m 200 #[(jV arg0), sV, (iV arg1), (iV arg2), (iV v1), (iV v4), (iV v7), (iV v8), (iV v10), (iV v12), (rV b13), uV, uV, uV, uV] [(.int (9 : Int32)), (.int v4), (.long arg0), (.int (9 : Int32)), (.ref b13)])) (fun t k => XS.bipush X48.here hx rfl (hb hby at_198) k) ?_
  obtain ⟨_, _, ⟨T51, L51, k51, j51⟩, -, X51, ⟨Lc51, hQ51, l51, y51_, z51_⟩, st51⟩ := Jvm.LawKit.callS X48 hx (y := (⟨"com/example/relayframe/relayframe/PalettePackPinLaw", "idx", "(JII)I"⟩ : MethodName)) hown (mvT hZ (w_5 hw)) (mvT hZ (w_6 hw)) (mvT hZ (w_7 hw)) (mvT hZ (w_8 hw)) (by decide) (backOf (W := 2) (rm2 l Z a0 hw [] arg0 v4 (9 : Int32) h48 n0 z49 ) hZ (w_8 hw) (w_7 hw) (by decide) (by decide)) (g := (mkF m 200 #[(jV arg0), sV, (iV arg1), (iV arg2), (iV v1), (iV v4), (iV v7), (iV v8), (iV v10), (iV v12), (rV b13), uV, uV, uV, uV] [(.int (9 : Int32)), (.int v4), (.long arg0), (.int (9 : Int32)), (.ref b13)])) rfl (by rw [hml]; rfl) (argsL := [(.long arg0), (.int v4), (.int (9 : Int32))]) (rest := [(.int (9 : Int32)), (.ref b13)]) (lenOf own_pd1 rfl) rfl (by show 2 * 0 + _ ≤ _; exact Nat.le_of_eq rfl) (hb hby at_200) (fun _ _ => ⟨rfl, e48, (by decide : 1 + 0 ≤ _), (by decide : 16 + 0 ≤ _)⟩)
  dsimp only [Pt.U, Pt.locs, Pt.cells, Pt.slots] at X51 l51 y51_ z51_ st51 hQ51
  obtain rfl : k51 = 1 := y51_
  obtain rfl : j51 = 16 := z51_
  obtain ⟨rfl, N51q, e51q⟩ := hQ51
  have N51 : Fr n0 L51 := by rw [l51]; exact Fr.app n50 N51q
  refine own_st (B := T51.setTop (mkF m 203 #[(jV arg0), sV, (iV arg1), (iV arg2), (iV v1), (iV v4), (iV v7), (iV v8), (iV v10), (iV v12), (rV b13), uV, uV, uV, uV] [(.int (own_idx arg0 v4 (9 : Int32))), (.int (9 : Int32)), (.ref b13)])) (fun t k => st51 t k) ?_
  refine own_st (B := T51.setTop (mkF m 204 #[(jV arg0), sV, (iV arg1), (iV arg2), (iV v1), (iV v4), (iV v7), (iV v8), (iV v10), (iV v12), (rV b13), uV, uV, uV, uV] [(.int ((own_idx arg0 v4 (9 : Int32)).toInt8.toInt32)), (.int (9 : Int32)), (.ref b13)])) (fun t k => XS.i2b X51.here hx rfl (hb hby at_203) rfl k) ?_
  obtain ⟨T52, h52, X52, e52, W52, A52, st52⟩ := own_stB X51 hx hZ e51q f48_ (j := (9 : Int32)) (x := ((own_idx arg0 v4 (9 : Int32)).toInt8.toInt32)) (i := 9) (by decide) (show 9 < 16 from by decide) (g := (mkF m 204 #[(jV arg0), sV, (iV arg1), (iV arg2), (iV v1), (iV v4), (iV v7), (iV v8), (iV v10), (iV v12), (rV b13), uV, uV, uV, uV] [(.int ((own_idx arg0 v4 (9 : Int32)).toInt8.toInt32)), (.int (9 : Int32)), (.ref b13)])) rfl rfl (hb hby at_204)
  have f52_ : own_A Z h52 b13 .byte [(.int (((own_idx arg0 v4 (0 : Int32)).toInt8.toInt32).toInt8.toInt32)), (.int (((own_idx arg0 v4 (1 : Int32)).toInt8.toInt32).toInt8.toInt32)), (.int (((own_idx arg0 v4 (2 : Int32)).toInt8.toInt32).toInt8.toInt32)), (.int (((own_idx arg0 v4 (3 : Int32)).toInt8.toInt32).toInt8.toInt32)), (.int (((own_idx arg0 v4 (4 : Int32)).toInt8.toInt32).toInt8.toInt32)), (.int (((own_idx arg0 v4 (5 : Int32)).toInt8.toInt32).toInt8.toInt32)), (.int (((own_idx arg0 v4 (6 : Int32)).toInt8.toInt32).toInt8.toInt32)), (.int (((own_idx arg0 v4 (7 : Int32)).toInt8.toInt32).toInt8.toInt32)), (.int (((own_idx arg0 v4 (8 : Int32)).toInt8.toInt32).toInt8.toInt32)), (.int (((own_idx arg0 v4 (9 : Int32)).toInt8.toInt32).toInt8.toInt32)), (.int (0 : Int32)), (.int (0 : Int32)), (.int (0 : Int32)), (.int (0 : Int32)), (.int (0 : Int32)), (.int (0 : Int32))] := by simpa only [List.set_cons_succ, List.set_cons_zero] using A52
  have z53 : n0 ≤ h52.size := Nat.le_trans z49 (Keep.of_wr W52).1
  have n54 := Fr.snoc X52 N51 u13
  refine own_st (B := T52.setTop (mkF m 205 #[(jV arg0), sV, (iV arg1), (iV arg2), (iV v1), (iV v4), (iV v7), (iV v8), (iV v10), (iV v12), (rV b13), uV, uV, uV, uV] [])) (fun t k => st52 t k) ?_
  refine own_st (B := T52.setTop (mkF m 207 #[(jV arg0), sV, (iV arg1), (iV arg2), (iV v1), (iV v4), (iV v7), (iV v8), (iV v10), (iV v12), (rV b13), uV, uV, uV, uV] [(.ref b13)])) (fun t k => XS.aload X52.here hx rfl (hb hby at_205) rfl rfl k) ?_
  refine own_st (B := T52.setTop (mkF m 209 #[(jV arg0), sV, (iV arg1), (iV arg2), (iV v1), (iV v4), (iV v7), (iV v8), (iV v10), (iV v12), (rV b13), uV, uV, uV, uV] [(.int (10 : Int32)), (.ref b13)])) (fun t k => XS.bipush X52.here hx rfl (hb hby at_207) k) ?_
  refine own_st (B := T52.setTop (mkF m 210 #[(jV arg0), sV, (iV arg1), (iV arg2), (iV v1), (iV v4), (iV v7), (iV v8), (iV v10), (iV v12), (rV b13), uV, uV, uV, uV] [(.long arg0), (.int (10 : Int32)), (.ref b13)])) (fun t k => XS.lloadN X52.here hx rfl (hb hby at_209) rfl k) ?_
  refine own_st (B := T52.setTop (mkF m 212 #[(jV arg0), sV, (iV arg1), (iV arg2), (iV v1), (iV v4), (iV v7), (iV v8), (iV v10), (iV v12), (rV b13), uV, uV, uV, uV] [(.int v4), (.long arg0), (.int (10 : Int32)), (.ref b13)])) (fun t k => XS.iload X52.here hx rfl (hb hby at_210) rfl k) ?_
  refine own_st (B := T52.setTop (mkF m 214 #[(jV arg0), sV, (iV arg1), (iV arg2), (iV v1), (iV v4), (iV v7), (iV v8), (iV v10), (iV v12), (rV b13), uV, uV, uV, uV] [(.int (10 : Int32)), (.int v4), (.long arg0), (.int (10 : Int32)), (.ref b13)])) (fun t k => XS.bipush X52.here hx rfl (hb hby at_212) k) ?_
  obtain ⟨_, _, ⟨T55, L55, k55, j55⟩, -, X55, ⟨Lc55, hQ55, l55, y55_, z55_⟩, st55⟩ := Jvm.LawKit.callS X52 hx (y := (⟨"com/example/relayframe/relayframe/PalettePackPinLaw", "idx", "(JII)I"⟩ : MethodName)) hown (mvT hZ (w_5 hw)) (mvT hZ (w_6 hw)) (mvT hZ (w_7 hw)) (mvT hZ (w_8 hw)) (by decide) (backOf (W := 2) (rm2 l Z a0 hw [] arg0 v4 (10 : Int32) h52 n0 z53 ) hZ (w_8 hw) (w_7 hw) (by decide) (by decide)) (g := (mkF m 214 #[(jV arg0), sV, (iV arg1), (iV arg2), (iV v1), (iV v4), (iV v7), (iV v8), (iV v10), (iV v12), (rV b13), uV, uV, uV, uV] [(.int (10 : Int32)), (.int v4), (.long arg0), (.int (10 : Int32)), (.ref b13)])) rfl (by rw [hml]; rfl) (argsL := [(.long arg0), (.int v4), (.int (10 : Int32))]) (rest := [(.int (10 : Int32)), (.ref b13)]) (lenOf own_pd1 rfl) rfl (by show 2 * 0 + _ ≤ _; exact Nat.le_of_eq rfl) (hb hby at_214) (fun _ _ => ⟨rfl, e52, (by decide : 1 + 0 ≤ _), (by decide : 16 + 0 ≤ _)⟩)
  dsimp only [Pt.U, Pt.locs, Pt.cells, Pt.slots] at X55 l55 y55_ z55_ st55 hQ55
  obtain rfl : k55 = 1 := y55_
  obtain rfl : j55 = 16 := z55_
  obtain ⟨rfl, N55q, e55q⟩ := hQ55
  have N55 : Fr n0 L55 := by rw [l55]; exact Fr.app n54 N55q
  refine own_st (B := T55.setTop (mkF m 217 #[(jV arg0), sV, (iV arg1), (iV arg2), (iV v1), (iV v4), (iV v7), (iV v8), (iV v10), (iV v12), (rV b13), uV, uV, uV, uV] [(.int (own_idx arg0 v4 (10 : Int32))), (.int (10 : Int32)), (.ref b13)])) (fun t k => st55 t k) ?_
  refine own_st (B := T55.setTop (mkF m 218 #[(jV arg0), sV, (iV arg1), (iV arg2), (iV v1), (iV v4), (iV v7), (iV v8), (iV v10), (iV v12), (rV b13), uV, uV, uV, uV] [(.int ((own_idx arg0 v4 (10 : Int32)).toInt8.toInt32)), (.int (10 : Int32)), (.ref b13)])) (fun t k => XS.i2b X55.here hx rfl (hb hby at_217) rfl k) ?_
  obtain ⟨T56, h56, X56, e56, W56, A56, st56⟩ := own_stB X55 hx hZ e55q f52_ (j := (10 : Int32)) (x := ((own_idx arg0 v4 (10 : Int32)).toInt8.toInt32)) (i := 10) (by decide) (show 10 < 16 from by decide) (g := (mkF m 218 #[(jV arg0), sV, (iV arg1), (iV arg2), (iV v1), (iV v4), (iV v7), (iV v8), (iV v10), (iV v12), (rV b13), uV, uV, uV, uV] [(.int ((own_idx arg0 v4 (10 : Int32)).toInt8.toInt32)), (.int (10 : Int32)), (.ref b13)])) rfl rfl (hb hby at_218)
  have f56_ : own_A Z h56 b13 .byte [(.int (((own_idx arg0 v4 (0 : Int32)).toInt8.toInt32).toInt8.toInt32)), (.int (((own_idx arg0 v4 (1 : Int32)).toInt8.toInt32).toInt8.toInt32)), (.int (((own_idx arg0 v4 (2 : Int32)).toInt8.toInt32).toInt8.toInt32)), (.int (((own_idx arg0 v4 (3 : Int32)).toInt8.toInt32).toInt8.toInt32)), (.int (((own_idx arg0 v4 (4 : Int32)).toInt8.toInt32).toInt8.toInt32)), (.int (((own_idx arg0 v4 (5 : Int32)).toInt8.toInt32).toInt8.toInt32)), (.int (((own_idx arg0 v4 (6 : Int32)).toInt8.toInt32).toInt8.toInt32)), (.int (((own_idx arg0 v4 (7 : Int32)).toInt8.toInt32).toInt8.toInt32)), (.int (((own_idx arg0 v4 (8 : Int32)).toInt8.toInt32).toInt8.toInt32)), (.int (((own_idx arg0 v4 (9 : Int32)).toInt8.toInt32).toInt8.toInt32)), (.int (((own_idx arg0 v4 (10 : Int32)).toInt8.toInt32).toInt8.toInt32)), (.int (0 : Int32)), (.int (0 : Int32)), (.int (0 : Int32)), (.int (0 : Int32)), (.int (0 : Int32))] := by simpa only [List.set_cons_succ, List.set_cons_zero] using A56
  have z57 : n0 ≤ h56.size := Nat.le_trans z53 (Keep.of_wr W56).1
  have n58 := Fr.snoc X56 N55 u13
  refine own_st (B := T56.setTop (mkF m 219 #[(jV arg0), sV, (iV arg1), (iV arg2), (iV v1), (iV v4), (iV v7), (iV v8), (iV v10), (iV v12), (rV b13), uV, uV, uV, uV] [])) (fun t k => st56 t k) ?_
  refine own_st (B := T56.setTop (mkF m 221 #[(jV arg0), sV, (iV arg1), (iV arg2), (iV v1), (iV v4), (iV v7), (iV v8), (iV v10), (iV v12), (rV b13), uV, uV, uV, uV] [(.ref b13)])) (fun t k => XS.aload X56.here hx rfl (hb hby at_219) rfl rfl k) ?_
  refine own_st (B := T56.setTop (mkF m 223 #[(jV arg0), sV, (iV arg1), (iV arg2), (iV v1), (iV v4), (iV v7), (iV v8), (iV v10), (iV v12), (rV b13), uV, uV, uV, uV] [(.int (11 : Int32)), (.ref b13)])) (fun t k => XS.bipush X56.here hx rfl (hb hby at_221) k) ?_
  refine own_st (B := T56.setTop (mkF m 224 #[(jV arg0), sV, (iV arg1), (iV arg2), (iV v1), (iV v4), (iV v7), (iV v8), (iV v10), (iV v12), (rV b13), uV, uV, uV, uV] [(.long arg0), (.int (11 : Int32)), (.ref b13)])) (fun t k => XS.lloadN X56.here hx rfl (hb hby at_223) rfl k) ?_
  refine own_st (B := T56.setTop (mkF m 226 #[(jV arg0), sV, (iV arg1), (iV arg2), (iV v1), (iV v4), (iV v7), (iV v8), (iV v10), (iV v12), (rV b13), uV, uV, uV, uV] [(.int v4), (.long arg0), (.int (11 : Int32)), (.ref b13)])) (fun t k => XS.iload X56.here hx rfl (hb hby at_224) rfl k) ?_
  refine own_st (B := T56.setTop (mkF m 228 #[(jV arg0), sV, (iV arg1), (iV arg2), (iV v1), (iV v4), (iV v7), (iV v8), (iV v10), (iV v12), (rV b13), uV, uV, uV, uV] [(.int (11 : Int32)), (.int v4), (.long arg0), (.int (11 : Int32)), (.ref b13)])) (fun t k => XS.bipush X56.here hx rfl (hb hby at_226) k) ?_
  obtain ⟨_, _, ⟨T59, L59, k59, j59⟩, -, X59, ⟨Lc59, hQ59, l59, y59_, z59_⟩, st59⟩ := Jvm.LawKit.callS X56 hx (y := (⟨"com/example/relayframe/relayframe/PalettePackPinLaw", "idx", "(JII)I"⟩ : MethodName)) hown (mvT hZ (w_5 hw)) (mvT hZ (w_6 hw)) (mvT hZ (w_7 hw)) (mvT hZ (w_8 hw)) (by decide) (backOf (W := 2) (rm2 l Z a0 hw [] arg0 v4 (11 : Int32) h56 n0 z57 ) hZ (w_8 hw) (w_7 hw) (by decide) (by decide)) (g := (mkF m 228 #[(jV arg0), sV, (iV arg1), (iV arg2), (iV v1), (iV v4), (iV v7), (iV v8), (iV v10), (iV v12), (rV b13), uV, uV, uV, uV] [(.int (11 : Int32)), (.int v4), (.long arg0), (.int (11 : Int32)), (.ref b13)])) rfl (by rw [hml]; rfl) (argsL := [(.long arg0), (.int v4), (.int (11 : Int32))]) (rest := [(.int (11 : Int32)), (.ref b13)]) (lenOf own_pd1 rfl) rfl (by show 2 * 0 + _ ≤ _; exact Nat.le_of_eq rfl) (hb hby at_228) (fun _ _ => ⟨rfl, e56, (by decide : 1 + 0 ≤ _), (by decide : 16 + 0 ≤ _)⟩)
  dsimp only [Pt.U, Pt.locs, Pt.cells, Pt.slots] at X59 l59 y59_ z59_ st59 hQ59
  obtain rfl : k59 = 1 := y59_
  obtain rfl : j59 = 16 := z59_
  obtain ⟨rfl, N59q, e59q⟩ := hQ59
  have N59 : Fr n0 L59 := by rw [l59]; exact Fr.app n58 N59q
  refine own_st (B := T59.setTop (mkF m 231 #[(jV arg0), sV, (iV arg1), (iV arg2), (iV v1), (iV v4), (iV v7), (iV v8), (iV v10), (iV v12), (rV b13), uV, uV, uV, uV] [(.int (own_idx arg0 v4 (11 : Int32))), (.int (11 : Int32)), (.ref b13)])) (fun t k => st59 t k) ?_
  refine own_st (B := T59.setTop (mkF m 232 #[(jV arg0), sV, (iV arg1), (iV arg2), (iV v1), (iV v4), (iV v7), (iV v8), (iV v10), (iV v12), (rV b13), uV, uV, uV, uV] [(.int ((own_idx arg0 v4 (11 : Int32)).toInt8.toInt32)), (.int (11 : Int32)), (.ref b13)])) (fun t k => XS.i2b X59.here hx rfl (hb hby at_231) rfl k) ?_
  obtain ⟨T60, h60, X60, e60, W60, A60, st60⟩ := own_stB X59 hx hZ e59q f56_ (j := (11 : Int32)) (x := ((own_idx arg0 v4 (11 : Int32)).toInt8.toInt32)) (i := 11) (by decide) (show 11 < 16 from by decide) (g := (mkF m 232 #[(jV arg0), sV, (iV arg1), (iV arg2), (iV v1), (iV v4), (iV v7), (iV v8), (iV v10), (iV v12), (rV b13), uV, uV, uV, uV] [(.int ((own_idx arg0 v4 (11 : Int32)).toInt8.toInt32)), (.int (11 : Int32)), (.ref b13)])) rfl rfl (hb hby at_232)
  have f60_ : own_A Z h60 b13 .byte [(.int (((own_idx arg0 v4 (0 : Int32)).toInt8.toInt32).toInt8.toInt32)), (.int (((own_idx arg0 v4 (1 : Int32)).toInt8.toInt32).toInt8.toInt32)), (.int (((own_idx arg0 v4 (2 : Int32)).toInt8.toInt32).toInt8.toInt32)), (.int (((own_idx arg0 v4 (3 : Int32)).toInt8.toInt32).toInt8.toInt32)), (.int (((own_idx arg0 v4 (4 : Int32)).toInt8.toInt32).toInt8.toInt32)), (.int (((own_idx arg0 v4 (5 : Int32)).toInt8.toInt32).toInt8.toInt32)), (.int (((own_idx arg0 v4 (6 : Int32)).toInt8.toInt32).toInt8.toInt32)), (.int (((own_idx arg0 v4 (7 : Int32)).toInt8.toInt32).toInt8.toInt32)), (.int (((own_idx arg0 v4 (8 : Int32)).toInt8.toInt32).toInt8.toInt32)), (.int (((own_idx arg0 v4 (9 : Int32)).toInt8.toInt32).toInt8.toInt32)), (.int (((own_idx arg0 v4 (10 : Int32)).toInt8.toInt32).toInt8.toInt32)), (.int (((own_idx arg0 v4 (11 : Int32)).toInt8.toInt32).toInt8.toInt32)), (.int (0 : Int32)), (.int (0 : Int32)), (.int (0 : Int32)), (.int (0 : Int32))] := by simpa only [List.set_cons_succ, List.set_cons_zero] using A60
  have z61 : n0 ≤ h60.size := Nat.le_trans z57 (Keep.of_wr W60).1
  have n62 := Fr.snoc X60 N59 u13
  refine own_st (B := T60.setTop (mkF m 233 #[(jV arg0), sV, (iV arg1), (iV arg2), (iV v1), (iV v4), (iV v7), (iV v8), (iV v10), (iV v12), (rV b13), uV, uV, uV, uV] [])) (fun t k => st60 t k) ?_
  refine own_st (B := T60.setTop (mkF m 235 #[(jV arg0), sV, (iV arg1), (iV arg2), (iV v1), (iV v4), (iV v7), (iV v8), (iV v10), (iV v12), (rV b13), uV, uV, uV, uV] [(.ref b13)])) (fun t k => XS.aload X60.here hx rfl (hb hby at_233) rfl rfl k) ?_
  refine own_st (B := T60.setTop (mkF m 237 #[(jV arg0), sV, (iV arg1), (iV arg2), (iV v1), (iV v4), (iV v7), (iV v8), (iV v10), (iV v12), (rV b13), uV, uV, uV, uV] [(.int (12 : Int32)), (.ref b13)])) (fun t k => XS.bipush X60.here hx rfl (hb hby at_235) k) ?_
  refine own_st (B := T60.setTop (mkF m 238 #[(jV arg0), sV, (iV arg1), (iV arg2), (iV v1), (iV v4), (iV v7), (iV v8), (iV v10), (iV v12), (rV b13), uV, uV, uV, uV] [(.long arg0), (.int (12 : Int32)), (.ref b13)])) (fun t k => XS.lloadN X60.here hx rfl (hb hby at_237) rfl k) ?_
  refine own_st (B := T60.setTop (mkF m 240 #[(jV arg0), sV, (iV arg1), (iV arg2), (iV v1), (iV v4), (iV v7), (iV v8), (iV v10), (iV v12), (rV b13), uV, uV, uV, uV] [(.int v4), (.long arg0), (.int (12 : Int32)), (.ref b13)])) (fun t k => XS.iload X60.here hx rfl (hb hby at_238) rfl k) ?_
  refine own_st (B := T60.setTop (mkF m 242 #[(jV arg0), sV, (iV arg1), (iV arg2), (iV v1), (iV v4), (iV v7), (iV v8), (iV v10), (iV v12), (rV b13), uV, uV, uV, uV] [(.int (12 : Int32)), (.int v4), (.long arg0), (.int (12 : Int32)), (.ref b13)])) (fun t k => XS.bipush X60.here hx rfl (hb hby at_240) k) ?_
  obtain ⟨_, _, ⟨T63, L63, k63, j63⟩, -, X63, ⟨Lc63, hQ63, l63, y63_, z63_⟩, st63⟩ := Jvm.LawKit.callS X60 hx (y := (⟨"com/example/relayframe/relayframe/PalettePackPinLaw", "idx", "(JII)I"⟩ : MethodName)) hown (mvT hZ (w_5 hw)) (mvT hZ (w_6 hw)) (mvT hZ (w_7 hw)) (mvT hZ (w_8 hw)) (by decide) (backOf (W := 2) (rm2 l Z a0 hw [] arg0 v4 (12 : Int32) h60 n0 z61 ) hZ (w_8 hw) (w_7 hw) (by decide) (by decide)) (g := (mkF m 242 #[(jV arg0), sV, (iV arg1), (iV arg2), (iV v1), (iV v4), (iV v7), (iV v8), (iV v10), (iV v12), (rV b13), uV, uV, uV, uV] [(.int (12 : Int32)), (.int v4), (.long arg0), (.int (12 : Int32)), (.ref b13)])) rfl (by rw [hml]; rfl) (argsL := [(.long arg0), (.int v4), (.int (12 : Int32))]) (rest := [(.int (12 : Int32)), (.ref b13)]) (lenOf own_pd1 rfl) rfl (by show 2 * 0 + _ ≤ _; exact Nat.le_of_eq rfl) (hb hby at_242) (fun _ _ => ⟨rfl, e60, (by decide : 1 + 0 ≤ _), (by decide : 16 + 0 ≤ _)⟩)
  dsimp only [Pt.U, Pt.locs, Pt.cells, Pt.slots] at X63 l63 y63_ z63_ st63 hQ63
  obtain rfl : k63 = 1 := y63_
  obtain rfl : j63 = 16 := z63_
  obtain ⟨rfl, N63q, e63q⟩ := hQ63
  have N63 : Fr n0 L63 := by rw [l63]; exact Fr.app n62 N63q
  refine own_st (B := T63.setTop (mkF m 245 #[(jV arg0), sV, (iV arg1), (iV arg2), (iV v1), (iV v4), (iV v7), (iV v8), (iV v10), (iV v12), (rV b13), uV, uV, uV, uV] [(.int (own_idx arg0 v4 (12 : Int32))), (.int (12 : Int32)), (.ref b13)])) (fun t k => st63 t k) ?_
  refine own_st (B := T63.setTop (mkF m 246 #[(jV arg0), sV, (iV arg1), (iV arg2), (iV v1), (iV v4), (iV v7), (iV v8), (iV v10), (iV v12), (rV b13), uV, uV, uV, uV] [(.int ((own_idx arg0 v4 (12 : Int32)).toInt8.toInt32)), (.int (12 : Int32)), (.ref b13)])) (fun t k => XS.i2b X63.here hx rfl (hb hby at_245) rfl k) ?_
  obtain ⟨T64, h64, X64, e64, W64, A64, st64⟩ := own_stB X63 hx hZ e63q f60_ (j := (12 : Int32)) (x := ((own_idx arg0 v4 (12 : Int32)).toInt8.toInt32)) (i := 12) (by decide) (show 12 < 16 from by decide) (g := (mkF m 246 #[(jV arg0), sV, (iV arg1), (iV arg2), (iV v1), (iV v4), (iV v7), (iV v8), (iV v10), (iV v12), (rV b13), uV, uV, uV, uV] [(.int ((own_idx arg0 v4 (12 : Int32)).toInt8.toInt32)), (.int (12 : Int32)), (.ref b13)])) rfl rfl (hb hby at_246)
  have f64_ : own_A Z h64 b13 .byte [(.int (((own_idx arg0 v4 (0 : Int32)).toInt8.toInt32).toInt8.toInt32)), (.int (((own_idx arg0 v4 (1 : Int32)).toInt8.toInt32).toInt8.toInt32)), (.int (((own_idx arg0 v4 (2 : Int32)).toInt8.toInt32).toInt8.toInt32)), (.int (((own_idx arg0 v4 (3 : Int32)).toInt8.toInt32).toInt8.toInt32)), (.int (((own_idx arg0 v4 (4 : Int32)).toInt8.toInt32).toInt8.toInt32)), (.int (((own_idx arg0 v4 (5 : Int32)).toInt8.toInt32).toInt8.toInt32)), (.int (((own_idx arg0 v4 (6 : Int32)).toInt8.toInt32).toInt8.toInt32)), (.int (((own_idx arg0 v4 (7 : Int32)).toInt8.toInt32).toInt8.toInt32)), (.int (((own_idx arg0 v4 (8 : Int32)).toInt8.toInt32).toInt8.toInt32)), (.int (((own_idx arg0 v4 (9 : Int32)).toInt8.toInt32).toInt8.toInt32)), (.int (((own_idx arg0 v4 (10 : Int32)).toInt8.toInt32).toInt8.toInt32)), (.int (((own_idx arg0 v4 (11 : Int32)).toInt8.toInt32).toInt8.toInt32)), (.int (((own_idx arg0 v4 (12 : Int32)).toInt8.toInt32).toInt8.toInt32)), (.int (0 : Int32)), (.int (0 : Int32)), (.int (0 : Int32))] := by simpa only [List.set_cons_succ, List.set_cons_zero] using A64
  have z65 : n0 ≤ h64.size := Nat.le_trans z61 (Keep.of_wr W64).1
  have n66 := Fr.snoc X64 N63 u13
  refine own_st (B := T64.setTop (mkF m 247 #[(jV arg0), sV, (iV arg1), (iV arg2), (iV v1), (iV v4), (iV v7), (iV v8), (iV v10), (iV v12), (rV b13), uV, uV, uV, uV] [])) (fun t k => st64 t k) ?_
  refine own_st (B := T64.setTop (mkF m 249 #[(jV arg0), sV, (iV arg1), (iV arg2), (iV v1), (iV v4), (iV v7), (iV v8), (iV v10), (iV v12), (rV b13), uV, uV, uV, uV] [(.ref b13)])) (fun t k => XS.aload X64.here hx rfl (hb hby at_247) rfl rfl k) ?_
  refine own_st (B := T64.setTop (mkF m 251 #[(jV arg0), sV, (iV arg1), (iV arg2), (iV v1), (iV v4), (iV v7), (iV v8), (iV v10), (iV v12), (rV b13), uV, uV, uV, uV] [(.int (13 : Int32)), (.ref b13)])) (fun t k => XS.bipush X64.here hx rfl (hb hby at_249) k) ?_
  refine own_st (B := T64.setTop (mkF m 252 #[(jV arg0), sV, (iV arg1), (iV arg2), (iV v1), (iV v4), (iV v7), (iV v8), (iV v10), (iV v12), (rV b13), uV, uV, uV, uV] [(.long arg0), (.int (13 : Int32)), (.ref b13)])) (fun t k => XS.lloadN X64.here hx rfl (hb hby at_251) rfl k) ?_
  refine own_st (B := T64.setTop (mkF m 254 #[(jV arg0), sV, (iV arg1), (iV arg2), (iV v1), (iV v4), (iV v7), (iV v8), (iV v10), (iV v12), (rV b13), uV, uV, uV, uV] [(.int v4), (.long arg0), (.int (13 : Int32)), (.ref b13)])) (fun t k => XS.iload X64.here hx rfl (hb hby at_252) rfl k) ?_
  refine own_st (B := T64.setTop (mkF m 256 #[(jV arg0), sV, (iV arg1), (iV arg2), (iV v1), (iV v4), (iV v7), (iV v8), (iV v10), (iV v12), (rV b13), uV, uV, uV, uV] [(.int (13 : Int32)), (.int v4), (.long arg0), (.int (13 : Int32)), (.ref b13)])) (fun t k => XS.bipush X64.here hx rfl (hb hby at_254) k) ?_
  obtain ⟨_, _, ⟨T67, L67, k67, j67⟩, -, X67, ⟨Lc67, hQ67, l67, y67_, z67_⟩, st67⟩ := Jvm.LawKit.callS X64 hx (y := (⟨"com/example/relayframe/relayframe/PalettePackPinLaw", "idx", "(JII)I"⟩ : MethodName)) hown (mvT hZ (w_5 hw)) (mvT hZ (w_6 hw)) (mvT hZ (w_7 hw)) (mvT hZ (w_8 hw)) (by decide) (backOf (W := 2) (rm2 l Z a0 hw [] arg0 v4 (13 : Int32) h64 n0 z65 ) hZ (w_8 hw) (w_7 hw) (by decide) (by decide)) (g := (mkF m 256 #[(jV arg0), sV, (iV arg1), (iV arg2), (iV v1), (iV v4), (iV v7), (iV v8), (iV v10), (iV v12), (rV b13), uV, uV, uV, uV] [(.int (13 : Int32)), (.int v4), (.long arg0), (.int (13 : Int32)), (.ref b13)])) rfl (by rw [hml]; rfl) (argsL := [(.long arg0), (.int v4), (.int (13 : Int32))]) (rest := [(.int (13 : Int32)), (.ref b13)]) (lenOf own_pd1 rfl) rfl (by show 2 * 0 + _ ≤ _; exact Nat.le_of_eq rfl) (hb hby at_256) (fun _ _ => ⟨rfl, e64, (by decide : 1 + 0 ≤ _), (by decide : 16 + 0 ≤ _)⟩)
  dsimp only [Pt.U, Pt.locs, Pt.cells, Pt.slots] at X67 l67 y67_ z67_ st67 hQ67
  obtain rfl : k67 = 1 := y67_
  obtain rfl : j67 = 16 := z67_
  obtain ⟨rfl, N67q, e67q⟩ := hQ67
  have N67 : Fr n0 L67 := by rw [l67]; exact Fr.app n66 N67q
  refine own_st (B := T67.setTop (mkF m 259 #[(jV arg0), sV, (iV arg1), (iV arg2), (iV v1), (iV v4), (iV v7), (iV v8), (iV v10), (iV v12), (rV b13), uV, uV, uV, uV] [(.int (own_idx arg0 v4 (13 : Int32))), (.int (13 : Int32)), (.ref b13)])) (fun t k => st67 t k) ?_
  refine own_st (B := T67.setTop (mkF m 260 #[(jV arg0), sV, (iV arg1), (iV arg2), (iV v1), (iV v4), (iV v7), (iV v8), (iV v10), (iV v12), (rV b13), uV, uV, uV, uV] [(.int ((own_idx arg0 v4 (13 : Int32)).toInt8.toInt32)), (.int (13 : Int32)), (.ref b13)])) (fun t k => XS.i2b X67.here hx rfl (hb hby at_259) rfl k) ?_
  obtain ⟨T68, h68, X68, e68, W68, A68, st68⟩ := own_stB X67 hx hZ e67q f64_ (j := (13 : Int32)) (x := ((own_idx arg0 v4 (13 : Int32)).toInt8.toInt32)) (i := 13) (by decide) (show 13 < 16 from by decide) (g := (mkF m 260 #[(jV arg0), sV, (iV arg1), (iV arg2), (iV v1), (iV v4), (iV v7), (iV v8), (iV v10), (iV v12), (rV b13), uV, uV, uV, uV] [(.int ((own_idx arg0 v4 (13 : Int32)).toInt8.toInt32)), (.int (13 : Int32)), (.ref b13)])) rfl rfl (hb hby at_260)
  have f68_ : own_A Z h68 b13 .byte [(.int (((own_idx arg0 v4 (0 : Int32)).toInt8.toInt32).toInt8.toInt32)), (.int (((own_idx arg0 v4 (1 : Int32)).toInt8.toInt32).toInt8.toInt32)), (.int (((own_idx arg0 v4 (2 : Int32)).toInt8.toInt32).toInt8.toInt32)), (.int (((own_idx arg0 v4 (3 : Int32)).toInt8.toInt32).toInt8.toInt32)), (.int (((own_idx arg0 v4 (4 : Int32)).toInt8.toInt32).toInt8.toInt32)), (.int (((own_idx arg0 v4 (5 : Int32)).toInt8.toInt32).toInt8.toInt32)), (.int (((own_idx arg0 v4 (6 : Int32)).toInt8.toInt32).toInt8.toInt32)), (.int (((own_idx arg0 v4 (7 : Int32)).toInt8.toInt32).toInt8.toInt32)), (.int (((own_idx arg0 v4 (8 : Int32)).toInt8.toInt32).toInt8.toInt32)), (.int (((own_idx arg0 v4 (9 : Int32)).toInt8.toInt32).toInt8.toInt32)), (.int (((own_idx arg0 v4 (10 : Int32)).toInt8.toInt32).toInt8.toInt32)), (.int (((own_idx arg0 v4 (11 : Int32)).toInt8.toInt32).toInt8.toInt32)), (.int (((own_idx arg0 v4 (12 : Int32)).toInt8.toInt32).toInt8.toInt32)), (.int (((own_idx arg0 v4 (13 : Int32)).toInt8.toInt32).toInt8.toInt32)), (.int (0 : Int32)), (.int (0 : Int32))] := by simpa only [List.set_cons_succ, List.set_cons_zero] using A68
  have z69 : n0 ≤ h68.size := Nat.le_trans z65 (Keep.of_wr W68).1
  have n70 := Fr.snoc X68 N67 u13
  refine own_st (B := T68.setTop (mkF m 261 #[(jV arg0), sV, (iV arg1), (iV arg2), (iV v1), (iV v4), (iV v7), (iV v8), (iV v10), (iV v12), (rV b13), uV, uV, uV, uV] [])) (fun t k => st68 t k) ?_
  refine own_st (B := T68.setTop (mkF m 263 #[(jV arg0), sV, (iV arg1), (iV arg2), (iV v1), (iV v4), (iV v7), (iV v8), (iV v10), (iV v12), (rV b13), uV, uV, uV, uV] [(.ref b13)])) (fun t k => XS.aload X68.here hx rfl (hb hby at_261) rfl rfl k) ?_
  refine own_st (B := T68.setTop (mkF m 265 #[(jV arg0), sV, (iV arg1), (iV arg2), (iV v1), (iV v4), (iV v7), (iV v8), (iV v10), (iV v12), (rV b13), uV, uV, uV, uV] [(.int (14 : Int32)), (.ref b13)])) (fun t k => XS.bipush X68.here hx rfl (hb hby at_263) k) ?_
  refine own_st (B := T68.setTop (mkF m 266 #[(jV arg0), sV, (iV arg1), (iV arg2), (iV v1), (iV v4), (iV v7), (iV v8), (iV v10), (iV v12), (rV b13), uV, uV, uV, uV] [(.long arg0), (.int (14 : Int32)), (.ref b13)])) (fun t k => XS.lloadN X68.here hx rfl (hb hby at_265) rfl k) ?_
  refine own_st (B := T68.setTop (mkF m 268 #[(jV arg0), sV, (iV arg1), (iV arg2), (iV v1), (iV v4), (iV v7), (iV v8), (iV v10), (iV v12), (rV b13), uV, uV, uV, uV] [(.int v4), (.long arg0), (.int (14 : Int32)), (.ref b13)])) (fun t k => XS.iload X68.here hx rfl (hb hby at_266) rfl k) ?_
  refine own_st (B := T68.setTop (mkF m 270 #[(jV arg0), sV, (iV arg1), (iV arg2), (iV v1), (iV v4), (iV v7), (iV v8), (iV v10), (iV v12), (rV b13), uV, uV, uV, uV] [(.int (14 : Int32)), (.int v4), (.long arg0), (.int (14 : Int32)), (.ref b13)])) (fun t k => XS.bipush X68.here hx rfl (hb hby at_268) k) ?_
  obtain ⟨_, _, ⟨T71, L71, k71, j71⟩, -, X71, ⟨Lc71, hQ71, l71, y71_, z71_⟩, st71⟩ := Jvm.LawKit.callS X68 hx (y := (⟨"com/example/relayframe/relayframe/PalettePackPinLaw", "idx", "(JII)I"⟩ : MethodName)) hown (mvT hZ (w_5 hw)) (mvT hZ (w_6 hw)) (mvT hZ (w_7 hw)) (mvT hZ (w_8 hw)) (by decide) (backOf (W := 2) (rm2 l Z a0 hw [] arg0 v4 (14 : Int32) h68 n0 z69 ) hZ (w_8 hw) (w_7 hw) (by decide) (by decide)) (g := (mkF m 270 #[(jV arg0), sV, (iV arg1), (iV arg2), (iV v1), (iV v4), (iV v7), (iV v8), (iV v10), (iV v12), (rV b13), uV, uV, uV, uV] [(.int (14 : Int32)), (.int v4), (.long arg0), (.int (14 : Int32)), (.ref b13)])) rfl (by rw [hml]; rfl) (argsL := [(.long arg0), (.int v4), (.int (14 : Int32))]) (rest := [(.int (14 : Int32)), (.ref b13)]) (lenOf own_pd1 rfl) rfl (by show 2 * 0 + _ ≤ _; exact Nat.le_of_eq rfl) (hb hby at_270) (fun _ _ => ⟨rfl, e68, (by decide : 1 + 0 ≤ _), (by decide : 16 + 0 ≤ _)⟩)
  dsimp only [Pt.U, Pt.locs, Pt.cells, Pt.slots] at X71 l71 y71_ z71_ st71 hQ71
  obtain rfl : k71 = 1 := y71_
  obtain rfl : j71 = 16 := z71_
  obtain ⟨rfl, N71q, e71q⟩ := hQ71
  have N71 : Fr n0 L71 := by rw [l71]; exact Fr.app n70 N71q
  refine own_st (B := T71.setTop (mkF m 273 #[(jV arg0), sV, (iV arg1), (iV arg2), (iV v1), (iV v4), (iV v7), (iV v8), (iV v10), (iV v12), (rV b13), uV, uV, uV, uV] [(.int (own_idx arg0 v4 (14 : Int32))), (.int (14 : Int32)), (.ref b13)])) (fun t k => st71 t k) ?_
  refine own_st (B := T71.setTop (mkF m 274 #[(jV arg0), sV, (iV arg1), (iV arg2), (iV v1), (iV v4), (iV v7), (iV v8), (iV v10), (iV v12), (rV b13), uV, uV, uV, uV] [(.int ((own_idx arg0 v4 (14 : Int32)).toInt8.toInt32)), (.int (14 : Int32)), (.ref b13)])) (fun t k => XS.i2b X71.here hx rfl (hb hby at_273) rfl k) ?_
  obtain ⟨T72, h72, X72, e72, W72, A72, st72⟩ := own_stB X71 hx hZ e71q f68_ (j := (14 : Int32)) (x := ((own_idx arg0 v4 (14 : Int32)).toInt8.toInt32)) (i := 14) (by decide) (show 14 < 16 from by decide) (g := (mkF m 274 #[(jV arg0), sV, (iV arg1), (iV arg2), (iV v1), (iV v4), (iV v7), (iV v8), (iV v10), (iV v12), (rV b13), uV, uV, uV, uV] [(.int ((own_idx arg0 v4 (14 : Int32)).toInt8.toInt32)), (.int (14 : Int32)), (.ref b13)])) rfl rfl (hb hby at_274)
  have f72_ : own_A Z h72 b13 .byte [(.int (((own_idx arg0 v4 (0 : Int32)).toInt8.toInt32).toInt8.toInt32)), (.int (((own_idx arg0 v4 (1 : Int32)).toInt8.toInt32).toInt8.toInt32)), (.int (((own_idx arg0 v4 (2 : Int32)).toInt8.toInt32).toInt8.toInt32)), (.int (((own_idx arg0 v4 (3 : Int32)).toInt8.toInt32).toInt8.toInt32)), (.int (((own_idx arg0 v4 (4 : Int32)).toInt8.toInt32).toInt8.toInt32)), (.int (((own_idx arg0 v4 (5 : Int32)).toInt8.toInt32).toInt8.toInt32)), (.int (((own_idx arg0 v4 (6 : Int32)).toInt8.toInt32).toInt8.toInt32)), (.int (((own_idx arg0 v4 (7 : Int32)).toInt8.toInt32).toInt8.toInt32)), (.int (((own_idx arg0 v4 (8 : Int32)).toInt8.toInt32).toInt8.toInt32)), (.int (((own_idx arg0 v4 (9 : Int32)).toInt8.toInt32).toInt8.toInt32)), (.int (((own_idx arg0 v4 (10 : Int32)).toInt8.toInt32).toInt8.toInt32)), (.int (((own_idx arg0 v4 (11 : Int32)).toInt8.toInt32).toInt8.toInt32)), (.int (((own_idx arg0 v4 (12 : Int32)).toInt8.toInt32).toInt8.toInt32)), (.int (((own_idx arg0 v4 (13 : Int32)).toInt8.toInt32).toInt8.toInt32)), (.int (((own_idx arg0 v4 (14 : Int32)).toInt8.toInt32).toInt8.toInt32)), (.int (0 : Int32))] := by simpa only [List.set_cons_succ, List.set_cons_zero] using A72
  have z73 : n0 ≤ h72.size := Nat.le_trans z69 (Keep.of_wr W72).1
  have n74 := Fr.snoc X72 N71 u13
  refine own_st (B := T72.setTop (mkF m 275 #[(jV arg0), sV, (iV arg1), (iV arg2), (iV v1), (iV v4), (iV v7), (iV v8), (iV v10), (iV v12), (rV b13), uV, uV, uV, uV] [])) (fun t k => st72 t k) ?_
  refine own_st (B := T72.setTop (mkF m 277 #[(jV arg0), sV, (iV arg1), (iV arg2), (iV v1), (iV v4), (iV v7), (iV v8), (iV v10), (iV v12), (rV b13), uV, uV, uV, uV] [(.ref b13)])) (fun t k => XS.aload X72.here hx rfl (hb hby at_275) rfl rfl k) ?_
  refine own_st (B := T72.setTop (mkF m 279 #[(jV arg0), sV, (iV arg1), (iV arg2), (iV v1), (iV v4), (iV v7), (iV v8), (iV v10), (iV v12), (rV b13), uV, uV, uV, uV] [(.int (15 : Int32)), (.ref b13)])) (fun t k => XS.bipush X72.here hx rfl (hb hby at_277) k) ?_
  refine own_st (B := T72.setTop (mkF m 280 #[(jV arg0), sV, (iV arg1), (iV arg2), (iV v1), (iV v4), (iV v7), (iV v8), (iV v10), (iV v12), (rV b13), uV, uV, uV, uV] [(.long arg0), (.int (15 : Int32)), (.ref b13)])) (fun t k => XS.lloadN X72.here hx rfl (hb hby at_279) rfl k) ?_
  refine own_st (B := T72.setTop (mkF m 282 #[(jV arg0), sV, (iV arg1), (iV arg2), (iV v1), (iV v4), (iV v7), (iV v8), (iV v10), (iV v12), (rV b13), uV, uV, uV, uV] [(.int v4), (.long arg0), (.int (15 : Int32)), (.ref b13)])) (fun t k => XS.iload X72.here hx rfl (hb hby at_280) rfl k) ?_
  refine own_st (B := T72.setTop (mkF m 284 #[(jV arg0), sV, (iV arg1), (iV arg2), (iV v1), (iV v4), (iV v7), (iV v8), (iV v10), (iV v12), (rV b13), uV, uV, uV, uV] [(.int (15 : Int32)), (.int v4), (.long arg0), (.int (15 : Int32)), (.ref b13)])) (fun t k => XS.bipush X72.here hx rfl (hb hby at_282) k) ?_
  obtain ⟨_, _, ⟨T75, L75, k75, j75⟩, -, X75, ⟨Lc75, hQ75, l75, y75_, z75_⟩, st75⟩ := Jvm.LawKit.callS X72 hx (y := (⟨"com/example/relayframe/relayframe/PalettePackPinLaw", "idx", "(JII)I"⟩ : MethodName)) hown (mvT hZ (w_5 hw)) (mvT hZ (w_6 hw)) (mvT hZ (w_7 hw)) (mvT hZ (w_8 hw)) (by decide) (backOf (W := 2) (rm2 l Z a0 hw [] arg0 v4 (15 : Int32) h72 n0 z73 ) hZ (w_8 hw) (w_7 hw) (by decide) (by decide)) (g := (mkF m 284 #[(jV arg0), sV, (iV arg1), (iV arg2), (iV v1), (iV v4), (iV v7), (iV v8), (iV v10), (iV v12), (rV b13), uV, uV, uV, uV] [(.int (15 : Int32)), (.int v4), (.long arg0), (.int (15 : Int32)), (.ref b13)])) rfl (by rw [hml]; rfl) (argsL := [(.long arg0), (.int v4), (.int (15 : Int32))]) (rest := [(.int (15 : Int32)), (.ref b13)]) (lenOf own_pd1 rfl) rfl (by show 2 * 0 + _ ≤ _; exact Nat.le_of_eq rfl) (hb hby at_284) (fun _ _ => ⟨rfl, e72, (by decide : 1 + 0 ≤ _), (by decide : 16 + 0 ≤ _)⟩)
  dsimp only [Pt.U, Pt.locs, Pt.cells, Pt.slots] at X75 l75 y75_ z75_ st75 hQ75
  obtain rfl : k75 = 1 := y75_
  obtain rfl : j75 = 16 := z75_
  obtain ⟨rfl, N75q, e75q⟩ := hQ75
  have N75 : Fr n0 L75 := by rw [l75]; exact Fr.app n74 N75q
  refine own_st (B := T75.setTop (mkF m 287 #[(jV arg0), sV, (iV arg1), (iV arg2), (iV v1), (iV v4), (iV v7), (iV v8), (iV v10), (iV v12), (rV b13), uV, uV, uV, uV] [(.int (own_idx arg0 v4 (15 : Int32))), (.int (15 : Int32)), (.ref b13)])) (fun t k => st75 t k) ?_
  refine own_st (B := T75.setTop (mkF m 288 #[(jV arg0), sV, (iV arg1), (iV arg2), (iV v1), (iV v4), (iV v7), (iV v8), (iV v10), (iV v12), (rV b13), uV, uV, uV, uV] [(.int ((own_idx arg0 v4 (15 : Int32)).toInt8.toInt32)), (.int (15 : Int32)), (.ref b13)])) (fun t k => XS.i2b X75.here hx rfl (hb hby at_287) rfl k) ?_
  obtain ⟨T76, h76, X76, e76, W76, A76, st76⟩ := own_stB X75 hx hZ e75q f72_ (j := (15 : Int32)) (x := ((own_idx arg0 v4 (15 : Int32)).toInt8.toInt32)) (i := 15) (by decide) (show 15 < 16 from by decide) (g := (mkF m 288 #[(jV arg0), sV, (iV arg1), (iV arg2), (iV v1), (iV v4), (iV v7), (iV v8), (iV v10), (iV v12), (rV b13), uV, uV, uV, uV] [(.int ((own_idx arg0 v4 (15 : Int32)).toInt8.toInt32)), (.int (15 : Int32)), (.ref b13)])) rfl rfl (hb hby at_288)
  have f76_ : own_A Z h76 b13 .byte [(.int (((own_idx arg0 v4 (0 : Int32)).toInt8.toInt32).toInt8.toInt32)), (.int (((own_idx arg0 v4 (1 : Int32)).toInt8.toInt32).toInt8.toInt32)), (.int (((own_idx arg0 v4 (2 : Int32)).toInt8.toInt32).toInt8.toInt32)), (.int (((own_idx arg0 v4 (3 : Int32)).toInt8.toInt32).toInt8.toInt32)), (.int (((own_idx arg0 v4 (4 : Int32)).toInt8.toInt32).toInt8.toInt32)), (.int (((own_idx arg0 v4 (5 : Int32)).toInt8.toInt32).toInt8.toInt32)), (.int (((own_idx arg0 v4 (6 : Int32)).toInt8.toInt32).toInt8.toInt32)), (.int (((own_idx arg0 v4 (7 : Int32)).toInt8.toInt32).toInt8.toInt32)), (.int (((own_idx arg0 v4 (8 : Int32)).toInt8.toInt32).toInt8.toInt32)), (.int (((own_idx arg0 v4 (9 : Int32)).toInt8.toInt32).toInt8.toInt32)), (.int (((own_idx arg0 v4 (10 : Int32)).toInt8.toInt32).toInt8.toInt32)), (.int (((own_idx arg0 v4 (11 : Int32)).toInt8.toInt32).toInt8.toInt32)), (.int (((own_idx arg0 v4 (12 : Int32)).toInt8.toInt32).toInt8.toInt32)), (.int (((own_idx arg0 v4 (13 : Int32)).toInt8.toInt32).toInt8.toInt32)), (.int (((own_idx arg0 v4 (14 : Int32)).toInt8.toInt32).toInt8.toInt32)), (.int (((own_idx arg0 v4 (15 : Int32)).toInt8.toInt32).toInt8.toInt32))] := by simpa only [List.set_cons_succ, List.set_cons_zero] using A76
  have z77 : n0 ≤ h76.size := Nat.le_trans z73 (Keep.of_wr W76).1
  have n78 := Fr.snoc X76 N75 u13
  refine own_st (B := T76.setTop (mkF m 289 #[(jV arg0), sV, (iV arg1), (iV arg2), (iV v1), (iV v4), (iV v7), (iV v8), (iV v10), (iV v12), (rV b13), uV, uV, uV, uV] [])) (fun t k => st76 t k) ?_
  refine own_st (B := T76.setTop (mkF m 291 #[(jV arg0), sV, (iV arg1), (iV arg2), (iV v1), (iV v4), (iV v7), (iV v8), (iV v10), (iV v12), (rV b13), uV, uV, uV, uV] [(.int (16 : Int32))])) (fun t k => XS.bipush X76.here hx rfl (hb hby at_289) k) ?_
  obtain ⟨T79, h79, X79, e79, E79, A79, x79, st79⟩ := own_newP X76 hx hZ (aty := .byte) (w_4 hw) e76 (g := (mkF m 291 #[(jV arg0), sV, (iV arg1), (iV arg2), (iV v1), (iV v4), (iV v7), (iV v8), (iV v10), (iV v12), (rV b13), uV, uV, uV, uV] [(.int (16 : Int32))])) rfl (hb hby at_291) (n := (16 : Int32)) (rest := []) rfl (k := 16) (cap := 16) (by decide) (Nat.le_refl _) (by decide) (by decide) (by decide) (ad := "[B") rfl
  obtain ⟨b79, g79⟩ : ∃ z, z = h76.size := ⟨_, rfl⟩
  rw [← g79] at A79 x79 st79
  have q79_b13 : b13 ≠ b79 := Nat.ne_of_lt (Nat.lt_of_lt_of_le f76_.lt (Nat.le_of_eq g79.symm))
  have u79 : n0 ≤ b79 := Nat.le_trans z77 (Nat.le_of_eq g79.symm)
  have z80 : n0 ≤ h79.size := Nat.le_trans z77 E79.1
  have f79_ : own_A Z h79 b79 .byte [(.int (0 : Int32)), (.int (0 : Int32)), (.int (0 : Int32)), (.int (0 : Int32)), (.int (0 : Int32)), (.int (0 : Int32)), (.int (0 : Int32)), (.int (0 : Int32)), (.int (0 : Int32)), (.int (0 : Int32)), (.int (0 : Int32)), (.int (0 : Int32)), (.int (0 : Int32)), (.int (0 : Int32)), (.int (0 : Int32)), (.int (0 : Int32))] := A79
  refine own_st (B := T79.setTop (mkF m 293 #[(jV arg0), sV, (iV arg1), (iV arg2), (iV v1), (iV v4), (iV v7), (iV v8), (iV v10), (iV v12), (rV b13), uV, uV, uV, uV] [(.ref b79)])) (fun t k => st79 t k) ?_
  refine own_st (B := T79.setTop (mkF m 295 #[(jV arg0), sV, (iV arg1), (iV arg2), (iV v1), (iV v4), (iV v7), (iV v8), (iV v10), (iV v12), (rV b13), (rV b79), uV, uV, uV] [])) (fun t k => XS.astore X79.here hx rfl (hb hby at_293) rfl rfl (l' := #[(jV arg0), sV, (iV arg1), (iV arg2), (iV v1), (iV v4), (iV v7), (iV v8), (iV v10), (iV v12), (rV b13), (rV b79), uV, uV, uV]) rfl k) ?_
  refine own_st (B := T79.setTop (mkF m 297 #[(jV arg0), sV, (iV arg1), (iV arg2), (iV v1), (iV v4), (iV v7), (iV v8), (iV v10), (iV v12), (rV b13), (rV b79), uV, uV, uV] [(.ref b79)])) (fun t k => XS.aload X79.here hx rfl (hb hby at_295) rfl rfl k) ?_
  refine own_st (B := T79.setTop (mkF m 298 #[(jV arg0), sV, (iV arg1), (iV arg2), (iV v1), (iV v4), (iV v7), (iV v8), (iV v10), (iV v12), (rV b13), (rV b79), uV, uV, uV] [(.int (0 : Int32)), (.ref b79)])) (fun t k => XS.iconst X79.here hx rfl (hb hby at_297) k) ?_
  refine own_st (B := T79.setTop (mkF m 299 #[(jV arg0), sV, (iV arg1), (iV arg2), (iV v1), (iV v4), (iV v7), (iV v8), (iV v10), (iV v12), (rV b13), (rV b79), uV, uV, uV] [(.int arg2), (.int (0 : Int32)), (.ref b79)])) (fun t k => XS.iloadN X79.here hx rfl (hb hby at_298) rfl k) ?_
  refine own_st (B := T79.setTop (mkF m 300 #[(jV arg0), sV, (iV arg1), (iV arg2), (iV v1), (iV v4), (iV v7), (iV v8), (iV v10), (iV v12), (rV b13), (rV b79), uV, uV, uV] [(.int (0 : Int32)), (.int arg2), (.int (0 : Int32)), (.ref b79)])) (fun t k => XS.iconst X79.here hx rfl (hb hby at_299) k) ?_
  refine own_st (B := T79.setTop (mkF m 301 #[(jV arg0), sV, (iV arg1), (iV arg2), (iV v1), (iV v4), (iV v7), (iV v8), (iV v10), (iV v12), (rV b13), (rV b79), uV, uV, uV] [(.int (arg2 + (0 : Int32))), (.int (0 : Int32)), (.ref b79)])) (fun t k => XS.iadd X79.here hx rfl (hb hby at_300) rfl k) ?_
  refine own_st (B := T79.setTop (mkF m 302 #[(jV arg0), sV, (iV arg1), (iV arg2), (iV v1), (iV v4), (iV v7), (iV v8), (iV v10), (iV v12), (rV b13), (rV b79), uV, uV, uV] [(.int ((arg2 + (0 : Int32)).toInt8.toInt32)), (.int (0 : Int32)), (.ref b79)])) (fun t k => XS.i2b X79.here hx rfl (hb hby at_301) rfl k) ?_
  obtain ⟨T81, h81, X81, e81, W81, A81, st81⟩ := own_stB X79 hx hZ e79 f79_ (j := (0 : Int32)) (x := ((arg2 + (0 : Int32)).toInt8.toInt32)) (i := 0) (by decide) (show 0 < 16 from by decide) (g := (mkF m 302 #[(jV arg0), sV, (iV arg1), (iV arg2), (iV v1), (iV v4), (iV v7), (iV v8), (iV v10), (iV v12), (rV b13), (rV b79), uV, uV, uV] [(.int ((arg2 + (0 : Int32)).toInt8.toInt32)), (.int (0 : Int32)), (.ref b79)])) rfl rfl (hb hby at_302)
  have f81_ : own_A Z h81 b79 .byte [(.int (((arg2 + (0 : Int32)).toInt8.toInt32).toInt8.toInt32)), (.int (0 : Int32)), (.int (0 : Int32)), (.int (0 : Int32)), (.int (0 : Int32)), (.int (0 : Int32)), (.int (0 : Int32)), (.int (0 : Int32)), (.int (0 : Int32)), (.int (0 : Int32)), (.int (0 : Int32)), (.int (0 : Int32)), (.int (0 : Int32)), (.int (0 : Int32)), (.int (0 : Int32)), (.int (0 : Int32))] := A81
  have z82 : n0 ≤ h81.size := Nat.le_trans z80 (Keep.of_wr W81).1
  have n83 := Fr.snoc X81 n78 u79
  refine own_st (B := T81.setTop (mkF m 303 #[(jV arg0), sV, (iV arg1), (iV arg2), (iV v1), (iV v4), (iV v7), (iV v8), (iV v10), (iV v12), (rV b13), (rV b79), uV, uV, uV] [])) (fun t k => st81 t k) ?_
  refine own_st (B := T81.setTop (mkF m 305 #[(jV arg0), sV, (iV arg1), (iV arg2), (iV v1), (iV v4), (iV v7), (iV v8), (iV v10), (iV v12), (rV b13), (rV b79), uV, uV, uV] [(.ref b79)])) (fun t k => XS.aload X81.here hx rfl (hb hby at_303) rfl rfl k) ?_
  refine own_st (B := T81.setTop (mkF m 306 #[(jV arg0), sV, (iV arg1), (iV arg2), (iV v1), (iV v4), (iV v7), (iV v8), (iV v10), (iV v12), (rV b13), (rV b79), uV, uV, uV] [(.int (1 : Int32)), (.ref b79)])) (fun t k => XS.iconst X81.here hx rfl (hb hby at_305) k) ?_
  refine own_st (B := T81.setTop (mkF m 307 #[(jV arg0), sV, (iV arg1), (iV arg2), (iV v1), (iV v4), (iV v7), (iV v8), (iV v10), (iV v12), (rV b13), (rV b79), uV, uV, uV] [(.int arg2), (.int (1 : Int32)), (.ref b79)])) (fun t k => XS.iloadN X81.here hx rfl (hb hby at_306) rfl k) ?_
  refine own_st (B := T81.setTop (mkF m 308 #[(jV arg0), sV, (iV arg1), (iV arg2), (iV v1), (iV v4), (iV v7), (iV v8), (iV v10), (iV v12), (rV b13), (rV b79), uV, uV, uV] [(.int (1 : Int32)), (.int arg2), (.int (1 : Int32)), (.ref b79)])) (fun t k => XS.iconst X81.here hx rfl (hb hby at_307) k) ?_
  refine own_st (B := T81.setTop (mkF m 309 #[(jV arg0), sV, (iV arg1), (iV arg2), (iV v1), (iV v4), (iV v7), (iV v8), (iV v10), (iV v12), (rV b13), (rV b79), uV, uV, uV] [(.int (arg2 + (1 : Int32))), (.int (1 : Int32)), (.ref b79)])) (fun t k => XS.iadd X81.here hx rfl (hb hby at_308) rfl k) ?_
  refine own_st (B := T81.setTop (mkF m 310 #[(jV arg0), sV, (iV arg1), (iV arg2), (iV v1), (iV v4), (iV v7), (iV v8), (iV v10), (iV v12), (rV b13), (rV b79), uV, uV, uV] [(.int ((arg2 + (1 : Int32)).toInt8.toInt32)), (.int (1 : Int32)), (.ref b79)])) (fun t k => XS.i2b X81.here hx rfl (hb hby at_309) rfl k) ?_
  obtain ⟨T84, h84, X84, e84, W84, A84, st84⟩ := own_stB X81 hx hZ e81 f81_ (j := (1 : Int32)) (x := ((arg2 + (1 : Int32)).toInt8.toInt32)) (i := 1) (by decide) (show 1 < 16 from by decide) (g := (mkF m 310 #[(jV arg0), sV, (iV arg1), (iV arg2), (iV v1), (iV v4), (iV v7), (iV v8), (iV v10), (iV v12), (rV b13), (rV b79), uV, uV, uV] [(.int ((arg2 + (1 : Int32)).toInt8.toInt32)), (.int (1 : Int32)), (.ref b79)])) rfl rfl (hb hby at_310)
  have f84_ : own_A Z h84 b79 .byte [(.int (((arg2 + (0 : Int32)).toInt8.toInt32).toInt8.toInt32)), (.int (((arg2 + (1 : Int32)).toInt8.toInt32).toInt8.toInt32)), (.int (0 : Int32)), (.int (0 : Int32)), (.int (0 : Int32)), (.int (0 : Int32)), (.int (0 : Int32)), (.int (0 : Int32)), (.int (0 : Int32)), (.int (0 : Int32)), (.int (0 : Int32)), (.int (0 : Int32)), (.int (0 : Int32)), (.int (0 : Int32)), (.int (0 : Int32)), (.int (0 : Int32))] := A84
  have z85 : n0 ≤ h84.size := Nat.le_trans z82 (Keep.of_wr W84).1
  have n86 := Fr.snoc X84 n83 u79
  refine own_st (B := T84.setTop (mkF m 311 #[(jV arg0), sV, (iV arg1), (iV arg2), (iV v1), (iV v4), (iV v7), (iV v8), (iV v10), (iV v12), (rV b13), (rV b79), uV, uV, uV] [])) (fun t k => st84 t k) ?_
  refine own_st (B := T84.setTop (mkF m 313 #[(jV arg0), sV, (iV arg1), (iV arg2), (iV v1), (iV v4), (iV v7), (iV v8), (iV v10), (iV v12), (rV b13), (rV b79), uV, uV, uV] [(.ref b79)])) (fun t k => XS.aload X84.here hx rfl (hb hby at_311) rfl rfl k) ?_
  refine own_st (B := T84.setTop (mkF m 314 #[(jV arg0), sV, (iV arg1), (iV arg2), (iV v1), (iV v4), (iV v7), (iV v8), (iV v10), (iV v12), (rV b13), (rV b79), uV, uV, uV] [(.int (2 : Int32)), (.ref b79)])) (fun t k => XS.iconst X84.here hx rfl (hb hby at_313) k) ?_
  refine own_st (B := T84.setTop (mkF m 315 #[(jV arg0), sV, (iV arg1), (iV arg2), (iV v1), (iV v4), (iV v7), (iV v8), (iV v10), (iV v12), (rV b13), (rV b79), uV, uV, uV] [(.int arg2), (.int (2 : Int32)), (.ref b79)])) (fun t k => XS.iloadN X84.here hx rfl (hb hby at_314) rfl k) ?_
  refine own_st (B := T84.setTop (mkF m 316 #[(jV arg0), sV, (iV arg1), (iV arg2), (iV v1), (iV v4), (iV v7), (iV v8), (iV v10), (iV v12), (rV b13), (rV b79), uV, uV, uV] [(.int (2 : Int32)), (.int arg2), (.int (2 : Int32)), (.ref b79)])) (fun t k => XS.iconst X84.here hx rfl (hb hby at_315) k) ?_
  refine own_st (B := T84.setTop (mkF m 317 #[(jV arg0), sV, (iV arg1), (iV arg2), (iV v1), (iV v4), (iV v7), (iV v8), (iV v10), (iV v12), (rV b13), (rV b79), uV, uV, uV] [(.int (arg2 + (2 : Int32))), (.int (2 : Int32)), (.ref b79)])) (fun t k => XS.iadd X84.here hx rfl (hb hby at_316) rfl k) ?_
  refine own_st (B := T84.setTop (mkF m 318 #[(jV arg0), sV, (iV arg1), (iV arg2), (iV v1), (iV v4), (iV v7), (iV v8), (iV v10), (iV v12), (rV b13), (rV b79), uV, uV, uV] [(.int ((arg2 + (2 : Int32)).toInt8.toInt32)), (.int (2 : Int32)), (.ref b79)])) (fun t k => XS.i2b X84.here hx rfl (hb hby at_317) rfl k) ?_
  obtain ⟨T87, h87, X87, e87, W87, A87, st87⟩ := own_stB X84 hx hZ e84 f84_ (j := (2 : Int32)) (x := ((arg2 + (2 : Int32)).toInt8.toInt32)) (i := 2) (by decide) (show 2 < 16 from by decide) (g := (mkF m 318 #[(jV arg0), sV, (iV arg1), (iV arg2), (iV v1), (iV v4), (iV v7), (iV v8), (iV v10), (iV v12), (rV b13), (rV b79), uV, uV, uV] [(.int ((arg2 + (2 : Int32)).toInt8.toInt32)), (.int (2 : Int32)), (.ref b79)])) rfl rfl (hb hby at_318)
  have f87_ : own_A Z h87 b79 .byte [(.int (((arg2 + (0 : Int32)).toInt8.toInt32).toInt8.toInt32)), (.int (((arg2 + (1 : Int32)).toInt8.toInt32).toInt8.toInt32)), (.int (((arg2 + (2 : Int32)).toInt8.toInt32).toInt8.toInt32)), (.int (0 : Int32)), (.int (0 : Int32)), (.int (0 : Int32)), (.int (0 : Int32)), (.int (0 : Int32)), (.int (0 : Int32)), (.int (0 : Int32)), (.int (0 : Int32)), (.int (0 : Int32)), (.int (0 : Int32)), (.int (0 : Int32)), (.int (0 : Int32)), (.int (0 : Int32))] := A87
  have z88 : n0 ≤ h87.size := Nat.le_trans z85 (Keep.of_wr W87).1
  have n89 := Fr.snoc X87 n86 u79
  refine own_st (B := T87.setTop (mkF m 319 #[(jV arg0), sV, (iV arg1), (iV arg2), (iV v1), (iV v4), (iV v7), (iV v8), (iV v10), (iV v12), (rV b13), (rV b79), uV, uV, uV] [])) (fun t k => st87 t k) ?_
  refine own_st (B := T87.setTop (mkF m 321 #[(jV arg0), sV, (iV arg1), (iV arg2), (iV v1), (iV v4), (iV v7), (iV v8), (iV v10), (iV v12), (rV b13), (rV b79), uV, uV, uV] [(.ref b79)])) (fun t k => XS.aload X87.here hx rfl (hb hby at_319) rfl rfl k) ?_
  refine own_st (B := T87.setTop (mkF m 322 #[(jV arg0), sV, (iV arg1), (iV arg2), (iV v1), (iV v4), (iV v7), (iV v8), (iV v10), (iV v12), (rV b13), (rV b79), uV, uV, uV] [(.int (3 : Int32)), (.ref b79)])) (fun t k => XS.iconst X87.here hx rfl (hb hby at_321) k) ?_
  refine own_st (B := T87.setTop (mkF m 323 #[(jV arg0), sV, (iV arg1), (iV arg2), (iV v1), (iV v4), (iV v7), (iV v8), (iV v10), (iV v12), (rV b13), (rV b79), uV, uV, uV] [(.int arg2), (.int (3 : Int32)), (.ref b79)])) (fun t k => XS.iloadN X87.here hx rfl (hb hby at_322) rfl k) ?_
  refine own_st (B := T87.setTop (mkF m 324 #[(jV arg0), sV, (iV arg1), (iV arg2), (iV v1), (iV v4), (iV v7), (iV v8), (iV v10), (iV v12), (rV b13), (rV b79), uV, uV, uV] [(.int (3 : Int32)), (.int arg2), (.int (3 : Int32)), (.ref b79)])) (fun t k => XS.iconst X87.here hx rfl (hb hby at_323) k) ?_
  refine own_st (B := T87.setTop (mkF m 325 #[(jV arg0), sV, (iV arg1), (iV arg2), (iV v1), (iV v4), (iV v7), (iV v8), (iV v10), (iV v12), (rV b13), (rV b79), uV, uV, uV] [(.int (arg2 + (3 : Int32))), (.int (3 : Int32)), (.ref b79)])) (fun t k => XS.iadd X87.here hx rfl (hb hby at_324) rfl k) ?_
  refine own_st (B := T87.setTop (mkF m 326 #[(jV arg0), sV, (iV arg1), (iV arg2), (iV v1), (iV v4), (iV v7), (iV v8), (iV v10), (iV v12), (rV b13), (rV b79), uV, uV, uV] [(.int ((arg2 + (3 : Int32)).toInt8.toInt32)), (.int (3 : Int32)), (.ref b79)])) (fun t k => XS.i2b X87.here hx rfl (hb hby at_325) rfl k) ?_
  obtain ⟨T90, h90, X90, e90, W90, A90, st90⟩ := own_stB X87 hx hZ e87 f87_ (j := (3 : Int32)) (x := ((arg2 + (3 : Int32)).toInt8.toInt32)) (i := 3) (by decide) (show 3 < 16 from by decide) (g := (mkF m 326 #[(jV arg0), sV, (iV arg1), (iV arg2), (iV v1), (iV v4), (iV v7), (iV v8), (iV v10), (iV v12), (rV b13), (rV b79), uV, uV, uV] [(.int ((arg2 + (3 : Int32)).toInt8.toInt32)), (.int (3 : Int32)), (.ref b79)])) rfl rfl (hb hby at_326)
  have f90_ : own_A Z h90 b79 .byte [(.int (((arg2 + (0 : Int32)).toInt8.toInt32).toInt8.toInt32)), (.int (((arg2 + (1 : Int32)).toInt8.toInt32).toInt8.toInt32)), (.int (((arg2 + (2 : Int32)).toInt8.toInt32).toInt8.toInt32)), (.int (((arg2 + (3 : Int32)).toInt8.toInt32).toInt8.toInt32)), (.int (0 : Int32)), (.int (0 : Int32)), (.int (0 : Int32)), (.int (0 : Int32)), (.int (0 : Int32)), (.int (0 : Int32)), (.int (0 : Int32)), (.int (0 : Int32)), (.int (0 : Int32)), (.int (0 : Int32)), (.int (0 : Int32)), (.int (0 : Int32))] := A90
  have z91 : n0 ≤ h90.size := Nat.le_trans z88 (Keep.of_wr W90).1
  have n92 := Fr.snoc X90 n89 u79
  refine own_st (B := T90.setTop (mkF m 327 #[(jV arg0), sV, (iV arg1), (iV arg2), (iV v1), (iV v4), (iV v7), (iV v8), (iV v10), (iV v12), (rV b13), (rV b79), uV, uV, uV] [])) (fun t k => st90 t k) ?_
  refine own_st (B := T90.setTop (mkF m 329 #[(jV arg0), sV, (iV arg1), (iV arg2), (iV v1), (iV v4), (iV v7), (iV v8), (iV v10), (iV v12), (rV b13), (rV b79), uV, uV, uV] [(.ref b79)])) (fun t k => XS.aload X90.here hx rfl (hb hby at_327) rfl rfl k) ?_
  refine own_st (B := T90.setTop (mkF m 330 #[(jV arg0), sV, (iV arg1), (iV arg2), (iV v1), (iV v4), (iV v7), (iV v8), (iV v10), (iV v12), (rV b13), (rV b79), uV, uV, uV] [(.int (4 : Int32)), (.ref b79)])) (fun t k => XS.iconst X90.here hx rfl (hb hby at_329) k) ?_
  refine own_st (B := T90.setTop (mkF m 331 #[(jV arg0), sV, (iV arg1), (iV arg2), (iV v1), (iV v4), (iV v7), (iV v8), (iV v10), (iV v12), (rV b13), (rV b79), uV, uV, uV] [(.int arg2), (.int (4 : Int32)), (.ref b79)])) (fun t k => XS.iloadN X90.here hx rfl (hb hby at_330) rfl k) ?_
  refine own_st (B := T90.setTop (mkF m 332 #[(jV arg0), sV, (iV arg1), (iV arg2), (iV v1), (iV v4), (iV v7), (iV v8), (iV v10), (iV v12), (rV b13), (rV b79), uV, uV, uV] [(.int (4 : Int32)), (.int arg2), (.int (4 : Int32)), (.ref b79)])) (fun t k => XS.iconst X90.here hx rfl (hb hby at_331) k) ?_
  refine own_st (B := T90.setTop (mkF m 333 #[(jV arg0), sV, (iV arg1), (iV arg2), (iV v1), (iV v4), (iV v7), (iV v8), (iV v10), (iV v12), (rV b13), (rV b79), uV, uV, uV] [(.int (arg2 + (4 : Int32))), (.int (4 : Int32)), (.ref b79)])) (fun t k => XS.iadd X90.here hx rfl (hb hby at_332) rfl k) ?_
  refine own_st (B := T90.setTop (mkF m 334 #[(jV arg0), sV, (iV arg1), (iV arg2), (iV v1), (iV v4), (iV v7), (iV v8), (iV v10), (iV v12), (rV b13), (rV b79), uV, uV, uV] [(.int ((arg2 + (4 : Int32)).toInt8.toInt32)), (.int (4 : Int32)), (.ref b79)])) (fun t k => XS.i2b X90.here hx rfl (hb hby at_333) rfl k) ?_
  obtain ⟨T93, h93, X93, e93, W93, A93, st93⟩ := own_stB X90 hx hZ e90 f90_ (j := (4 : Int32)) (x := ((arg2 + (4 : Int32)).toInt8.toInt32)) (i := 4) (by decide) (show 4 < 16 from by decide) (g := (mkF m 334 #[(jV arg0), sV, (iV arg1), (iV arg2), (iV v1), (iV v4), (iV v7), (iV v8), (iV v10), (iV v12), (rV b13), (rV b79), uV, uV, uV] [(.int ((arg2 + (4 : Int32)).toInt8.toInt32)), (.int (4 : Int32)), (.ref b79)])) rfl rfl (hb hby at_334)
  have f93_ : own_A Z h93 b79 .byte [(.int (((arg2 + (0 : Int32)).toInt8.toInt32).toInt8.toInt32)), (.int (((arg2 + (1 : Int32)).toInt8.toInt32).toInt8.toInt32)), (.int (((arg2 + (2 : Int32)).toInt8.toInt32).toInt8.toInt32)), (.int (((arg2 + (3 : Int32)).toInt8.toInt32).toInt8.toInt32)), (.int (((arg2 + (4 : Int32)).toInt8.toInt32).toInt8.toInt32)), (.int (0 : Int32)), (.int (0 : Int32)), (.int (0 : Int32)), (.int (0 : Int32)), (.int (0 : Int32)), (.int (0 : Int32)), (.int (0 : Int32)), (.int (0 : Int32)), (.int (0 : Int32)), (.int (0 : Int32)), (.int (0 : Int32))] := A93
  have z94 : n0 ≤ h93.size := Nat.le_trans z91 (Keep.of_wr W93).1
  have n95 := Fr.snoc X93 n92 u79
  refine own_st (B := T93.setTop (mkF m 335 #[(jV arg0), sV, (iV arg1), (iV arg2), (iV v1), (iV v4), (iV v7), (iV v8), (iV v10), (iV v12), (rV b13), (rV b79), uV, uV, uV] [])) (fun t k => st93 t k) ?_
  refine own_st (B := T93.setTop (mkF m 337 #[(jV arg0), sV, (iV arg1), (iV arg2), (iV v1), (iV v4), (iV v7), (iV v8), (iV v10), (iV v12), (rV b13), (rV b79), uV, uV, uV] [(.ref b79)])) (fun t k => XS.aload X93.here hx rfl (hb hby at_335) rfl rfl k) ?_
  refine own_st (B := T93.setTop (mkF m 338 #[(jV arg0), sV, (iV arg1), (iV arg2), (iV v1), (iV v4), (iV v7), (iV v8), (iV v10), (iV v12), (rV b13), (rV b79), uV, uV, uV] [(.int (5 : Int32)), (.ref b79)])) (fun t k => XS.iconst X93.here hx rfl (hb hby at_337) k) ?_
  refine own_st (B := T93.setTop (mkF m 339 #[(jV arg0), sV, (iV arg1), (iV arg2), (iV v1), (iV v4), (iV v7), (iV v8), (iV v10), (iV v12), (rV b13), (rV b79), uV, uV, uV] [(.int arg2), (.int (5 : Int32)), (.ref b79)])) (fun t k => XS.iloadN X93.here hx rfl (hb hby at_338) rfl k) ?_
  refine own_st (B := T93.setTop (mkF m 340 #[(jV arg0), sV, (iV arg1), (iV arg2), (iV v1), (iV v4), (iV v7), (iV v8), (iV v10), (iV v12), (rV b13), (rV b79), uV, uV, uV] [(.int (5 : Int32)), (.int arg2), (.int (5 : Int32)), (.ref b79)])) (fun t k => XS.iconst X93.here hx rfl (hb hby at_339) k) ?_
  refine own_st (B := T93.setTop (mkF m 341 #[(jV arg0), sV, (iV arg1), (iV arg2), (iV v1), (iV v4), (iV v7), (iV v8), (iV v10), (iV v12), (rV b13), (rV b79), uV, uV, uV] [(.int (arg2 + (5 : Int32))), (.int (5 : Int32)), (.ref b79)])) (fun t k => XS.iadd X93.here hx rfl (hb hby at_340) rfl k) ?_
  refine own_st (B := T93.setTop (mkF m 342 #[(jV arg0), sV, (iV arg1), (iV arg2), (iV v1), (iV v4), (iV v7), (iV v8), (iV v10), (iV v12), (rV b13), (rV b79), uV, uV, uV] [(.int ((arg2 + (5 : Int32)).toInt8.toInt32)), (.int (5 : Int32)), (.ref b79)])) (fun t k => XS.i2b X93.here hx rfl (hb hby at_341) rfl k) ?_
  obtain ⟨T96, h96, X96, e96, W96, A96, st96⟩ := own_stB X93 hx hZ e93 f93_ (j := (5 : Int32)) (x := ((arg2 + (5 : Int32)).toInt8.toInt32)) (i := 5) (by decide) (show 5 < 16 from by decide) (g := (mkF m 342 #[(jV arg0), sV, (iV arg1), (iV arg2), (iV v1), (iV v4), (iV v7), (iV v8), (iV v10), (iV v12), (rV b13), (rV b79), uV, uV, uV] [(.int ((arg2 + (5 : Int32)).toInt8.toInt32)), (.int (5 : Int32)), (.ref b79)])) rfl rfl (hb hby at_342)
  have f96_ : own_A Z h96 b79 .byte [(.int (((arg2 + (0 : Int32)).toInt8.toInt32).toInt8.toInt32)), (.int (((arg2 + (1 : Int32)).toInt8.toInt32).toInt8.toInt32)), (.int (((arg2 + (2 : Int32)).toInt8.toInt32).toInt8.toInt32)), (.int (((arg2 + (3 : Int32)).toInt8.toInt32).toInt8.toInt32)), (.int (((arg2 + (4 : Int32)).toInt8.toInt32).toInt8.toInt32)), (.int (((arg2 + (5 : Int32)).toInt8.toInt32).toInt8.toInt32)), (.int (0 : Int32)), (.int (0 : Int32)), (.int (0 : Int32)), (.int (0 : Int32)), (.int (0 : Int32)), (.int (0 : Int32)), (.int (0 : Int32)), (.int (0 : Int32)), (.int (0 : Int32)), (.int (0 : Int32))] := A96
  have z97 : n0 ≤ h96.size := Nat.le_trans z94 (Keep.of_wr W96).1
  have n98 := Fr.snoc X96 n95 u79
  refine own_st (B := T96.setTop (mkF m 343 #[(jV arg0), sV, (iV arg1), (iV arg2), (iV v1), (iV v4), (iV v7), (iV v8), (iV v10), (iV v12), (rV b13), (rV b79), uV, uV, uV] [])) (fun t k => st96 t k) ?_
  refine own_st (B := T96.setTop (mkF m 345 #[(jV arg0), sV, (iV arg1), (iV arg2), (iV v1), (iV v4), (iV v7), (iV v8), (iV v10), (iV v12), (rV b13), (rV b79), uV, uV, uV] [(.ref b79)])) (fun t k => XS.aload X96.here hx rfl (hb hby at_343) rfl rfl k) ?_
  refine own_st (B := T96.setTop (mkF m 347 #[(jV arg0), sV, (iV arg1), (iV arg2), (iV v1), (iV v4), (iV v7), (iV v8), (iV v10), (iV v12), (rV b13), (rV b79), uV, uV, uV] [(.int (6 : Int32)), (.ref b79)])) (fun t k => XS.bipush X96.here hx rfl (hb hby at_345) k) ?_
  refine own_st (B := T96.setTop (mkF m 348 #[(jV arg0), sV, (iV arg1), (iV arg2), (iV v1), (iV v4), (iV v7), (iV v8), (iV v10), (iV v12), (rV b13), (rV b79), uV, uV, uV] [(.int arg2), (.int (6 : Int32)), (.ref b79)])) (fun t k => XS.iloadN X96.here hx rfl (hb hby at_347) rfl k) ?_
  refine own_st (B := T96.setTop (mkF m 350 #[(jV arg0), sV, (iV arg1), (iV arg2), (iV v1), (iV v4), (iV v7), (iV v8), (iV v10), (iV v12), (rV b13), (rV b79), uV, uV, uV] [(.int (6 : Int32)), (.int arg2), (.int (6 : Int32)), (.ref b79)])) (fun t k => XS.bipush X96.here hx rfl (hb hby at_348) k) ?_
  refine own_st (B := T96.setTop (mkF m 351 #[(jV arg0), sV, (iV arg1), (iV arg2), (iV v1), (iV v4), (iV v7), (iV v8), (iV v10), (iV v12), (rV b13), (rV b79), uV, uV, uV] [(.int (arg2 + (6 : Int32))), (.int (6 : Int32)), (.ref b79)])) (fun t k => XS.iadd X96.here hx rfl (hb hby at_350) rfl k) ?_
  refine own_st (B := T96.setTop (mkF m 352 #[(jV arg0), sV, (iV arg1), (iV arg2), (iV v1), (iV v4), (iV v7), (iV v8), (iV v10), (iV v12), (rV b13), (rV b79), uV, uV, uV] [(.int ((arg2 + (6 : Int32)).toInt8.toInt32)), (.int (6 : Int32)), (.ref b79)])) (fun t k => XS.i2b X96.here hx rfl (hb hby at_351) rfl k) ?_
  obtain ⟨T99, h99, X99, e99, W99, A99, st99⟩ := own_stB X96 hx hZ e96 f96_ (j := (6 : Int32)) (x := ((arg2 + (6 : Int32)).toInt8.toInt32)) (i := 6) (by decide) (show 6 < 16 from by decide) (g := (mkF m 352 #[(jV arg0), sV, (iV arg1), (iV arg2), (iV v1), (iV v4), (iV v7), (iV v8), (iV v10), (iV v12), (rV b13), (rV b79), uV, uV, uV] [(.int ((arg2 + (6 : Int32)).toInt8.toInt32)), (.int (6 : Int32)), (.ref b79)])) rfl rfl (hb hby at_352)
  have f99_ : own_A Z h99 b79 .byte [(.int (((arg2 + (0 : Int32)).toInt8.toInt32).toInt8.toInt32)), (.int (((arg2 + (1 : Int32)).toInt8.toInt32).toInt8.toInt32)), (.int (((arg2 + (2 : Int32)).toInt8.toInt32).toInt8.toInt32)), (.int (((arg2 + (3 : Int32)).toInt8.toInt32).toInt8.toInt32)), (.int (((arg2 + (4 : Int32)).toInt8.toInt32).toInt8.toInt32)), (.int (((arg2 + (5 : Int32)).toInt8.toInt32).toInt8.toInt32)), (.int (((arg2 + (6 : Int32)).toInt8.toInt32).toInt8.toInt32)), (.int (0 : Int32)), (.int (0 : Int32)), (.int (0 : Int32)), (.int (0 : Int32)), (.int (0 : Int32)), (.int (0 : Int32)), (.int (0 : Int32)), (.int (0 : Int32)), (.int (0 : Int32))] := by simpa only [List.set_cons_succ, List.set_cons_zero] using A99
  have z100 : n0 ≤ h99.size := Nat.le_trans z97 (Keep.of_wr W99).1
  have n101 := Fr.snoc X99 n98 u79
  refine own_st (B := T99.setTop (mkF m 353 #[(jV arg0), sV, (iV arg1), (iV arg2), (iV v1), (iV v4), (iV v7), (iV v8), (iV v10), (iV v12), (rV b13), (rV b79), uV, uV, uV] [])) (fun t k => st99 t k) ?_
  refine own_st (B := T99.setTop (mkF m 355 #[(jV arg0), sV, (iV arg1), (iV arg2), (iV v1), (iV v4), (iV v7), (iV v8), (iV v10), (iV v12), (rV b13), (rV b79), uV, uV, uV] [(.ref b79)])) (fun t k => XS.aload X99.here hx rfl (hb hby at_353) rfl rfl k) ?_
  refine own_st (B := T99.setTop (mkF m 357 #[(jV arg0), sV, (iV arg1), (iV arg2), (iV v1), (iV v4), (iV v7), (iV v8), (iV v10), (iV v12), (rV b13), (rV b79), uV, uV, uV] [(.int (7 : Int32)), (.ref b79)])) (fun t k => XS.bipush X99.here hx rfl (hb hby at_355) k) ?_
  refine own_st (B := T99.setTop (mkF m 358 #[(jV arg0), sV, (iV arg1), (iV arg2), (iV v1), (iV v4), (iV v7), (iV v8), (iV v10), (iV v12), (rV b13), (rV b79), uV, uV, uV] [(.int arg2), (.int (7 : Int32)), (.ref b79)])) (fun t k => XS.iloadN X99.here hx rfl (hb hby at_357) rfl k) ?_
  refine own_st (B := T99.setTop (mkF m 360 #[(jV arg0), sV, (iV arg1), (iV arg2), (iV v1), (iV v4), (iV v7), (iV v8), (iV v10), (iV v12), (rV b13), (rV b79), uV, uV, uV] [(.int (7 : Int32)), (.int arg2), (.int (7 : Int32)), (.ref b79)])) (fun t k => XS.bipush X99.here hx rfl (hb hby at_358) k) ?_
  refine own_st (B := T99.setTop (mkF m 361 #[(jV arg0), sV, (iV arg1), (iV arg2), (iV v1), (iV v4), (iV v7), (iV v8), (iV v10), (iV v12), (rV b13), (rV b79), uV, uV, uV] [(.int (arg2 + (7 : Int32))), (.int (7 : Int32)), (.ref b79)])) (fun t k => XS.iadd X99.here hx rfl (hb hby at_360) rfl k) ?_
  refine own_st (B := T99.setTop (mkF m 362 #[(jV arg0), sV, (iV arg1), (iV arg2), (iV v1), (iV v4), (iV v7), (iV v8), (iV v10), (iV v12), (rV b13), (rV b79), uV, uV, uV] [(.int ((arg2 + (7 : Int32)).toInt8.toInt32)), (.int (7 : Int32)), (.ref b79)])) (fun t k => XS.i2b X99.here hx rfl (hb hby at_361) rfl k) ?_
  obtain ⟨T102, h102, X102, e102, W102, A102, st102⟩ := own_stB X99 hx hZ e99 f99_ (j := (7 : Int32)) (x := ((arg2 + (7 : Int32)).toInt8.toInt32)) (i := 7) (by decide) (show 7 < 16 from by decide) (g := (mkF m 362 #[(jV arg0), sV, (iV arg1), (iV arg2), (iV v1), (iV v4), (iV v7), (iV v8), (iV v10), (iV v12), (rV b13), (rV b79), uV, uV, uV] [(.int ((arg2 + (7 : Int32)).toInt8.toInt32)), (.int (7 : Int32)), (.ref b79)])) rfl rfl (hb hby at_362)
  have f102_ : own_A Z h102 b79 .byte [(.int (((arg2 + (0 : Int32)).toInt8.toInt32).toInt8.toInt32)), (.int (((arg2 + (1 : Int32)).toInt8.toInt32).toInt8.toInt32)), (.int (((arg2 + (2 : Int32)).toInt8.toInt32).toInt8.toInt32)), (.int (((arg2 + (3 : Int32)).toInt8.toInt32).toInt8.toInt32)), (.int (((arg2 + (4 : Int32)).toInt8.toInt32).toInt8.toInt32)), (.int (((arg2 + (5 : Int32)).toInt8.toInt32).toInt8.toInt32)), (.int (((arg2 + (6 : Int32)).toInt8.toInt32).toInt8.toInt32)), (.int (((arg2 + (7 : Int32)).toInt8.toInt32).toInt8.toInt32)), (.int (0 : Int32)), (.int (0 : Int32)), (.int (0 : Int32)), (.int (0 : Int32)), (.int (0 : Int32)), (.int (0 : Int32)), (.int (0 : Int32)), (.int (0 : Int32))] := by simpa only [List.set_cons_succ, List.set_cons_zero] using A102
  have z103 : n0 ≤ h102.size := Nat.le_trans z100 (Keep.of_wr W102).1
  have n104 := Fr.snoc X102 n101 u79
  refine own_st (B := T102.setTop (mkF m 363 #[(jV arg0), sV, (iV arg1), (iV arg2), (iV v1), (iV v4), (iV v7), (iV v8), (iV v10), (iV v12), (rV b13), (rV b79), uV, uV, uV] [])) (fun t k => st102 t k) ?_
  refine own_st (B := T102.setTop (mkF m 365 #[(jV arg0), sV, (iV arg1), (iV arg2), (iV v1), (iV v4), (iV v7), (iV v8), (iV v10), (iV v12), (rV b13), (rV b79), uV, uV, uV] [(.ref b79)])) (fun t k => XS.aload X102.here hx rfl (hb hby at_363) rfl rfl k) ?_
  refine own_st (B := T102.setTop (mkF m 367 #[(jV arg0), sV, (iV arg1), (iV arg2), (iV v1), (iV v4), (iV v7), (iV v8), (iV v10), (iV v12), (rV b13), (rV b79), uV, uV, uV] [(.int (8 : Int32)), (.ref b79)])) (fun t k => XS.bipush X102.here hx rfl (hb hby at_365) k) ?_
  refine own_st (B := T102.setTop (mkF m 368 #[(jV arg0), sV, (iV arg1), (iV arg2), (iV v1), (iV v4), (iV v7), (iV v8), (iV v10), (iV v12), (rV b13), (rV b79), uV, uV, uV] [(.int arg2), (.int (8 : Int32)), (.ref b79)])) (fun t k => XS.iloadN X102.here hx rfl (hb hby at_367) rfl k) ?_
  refine own_st (B := T102.setTop (mkF m 370 #[(jV arg0), sV, (iV arg1), (iV arg2), (iV v1), (iV v4), (iV v7), (iV v8), (iV v10), (iV v12), (rV b13), (rV b79), uV, uV, uV] [(.int (8 : Int32)), (.int arg2), (.int (8 : Int32)), (.ref b79)])) (fun t k => XS.bipush X102.here hx rfl (hb hby at_368) k) ?_
  refine own_st (B := T102.setTop (mkF m 371 #[(jV arg0), sV, (iV arg1), (iV arg2), (iV v1), (iV v4), (iV v7), (iV v8), (iV v10), (iV v12), (rV b13), (rV b79), uV, uV, uV] [(.int (arg2 + (8 : Int32))), (.int (8 : Int32)), (.ref b79)])) (fun t k => XS.iadd X102.here hx rfl (hb hby at_370) rfl k) ?_
  refine own_st (B := T102.setTop (mkF m 372 #[(jV arg0), sV, (iV arg1), (iV arg2), (iV v1), (iV v4), (iV v7), (iV v8), (iV v10), (iV v12), (rV b13), (rV b79), uV, uV, uV] [(.int ((arg2 + (8 : Int32)).toInt8.toInt32)), (.int (8 : Int32)), (.ref b79)])) (fun t k => XS.i2b X102.here hx rfl (hb hby at_371) rfl k) ?_
  obtain ⟨T105, h105, X105, e105, W105, A105, st105⟩ := own_stB X102 hx hZ e102 f102_ (j := (8 : Int32)) (x := ((arg2 + (8 : Int32)).toInt8.toInt32)) (i := 8) (by decide) (show 8 < 16 from by decide) (g := (mkF m 372 #[(jV arg0), sV, (iV arg1), (iV arg2), (iV v1), (iV v4), (iV v7), (iV v8), (iV v10), (iV v12), (rV b13), (rV b79), uV, uV, uV] [(.int ((arg2 + (8 : Int32)).toInt8.toInt32)), (.int (8 : Int32)), (.ref b79)])) rfl rfl (hb hby at_372)
  have f105_ : own_A Z h105 b79 .byte [(.int (((arg2 + (0 : Int32)).toInt8.toInt32).toInt8.toInt32)), (.int (((arg2 + (1 : Int32)).toInt8.toInt32).toInt8.toInt32)), (.int (((arg2 + (2 : Int32)).toInt8.toInt32).toInt8.toInt32)), (.int (((arg2 + (3 : Int32)).toInt8.toInt32).toInt8.toInt32)), (.int (((arg2 + (4 : Int32)).toInt8.toInt32).toInt8.toInt32)), (.int (((arg2 + (5 : Int32)).toInt8.toInt32).toInt8.toInt32)), (.int (((arg2 + (6 : Int32)).toInt8.toInt32).toInt8.toInt32)), (.int (((arg2 + (7 : Int32)).toInt8.toInt32).toInt8.toInt32)), (.int (((arg2 + (8 : Int32)).toInt8.toInt32).toInt8.toInt32)), (.int (0 : Int32)), (.int (0 : Int32)), (.int (0 : Int32)), (.int (0 : Int32)), (.int (0 : Int32)), (.int (0 : Int32)), (.int (0 : Int32))] := by simpa only [List.set_cons_succ, List.set_cons_zero] using A105
  have z106 : n0 ≤ h105.size := Nat.le_trans z103 (Keep.of_wr W105).1
  have n107 := Fr.snoc X105 n104 u79
  refine own_st (B := T105.setTop (mkF m 373 #[(jV arg0), sV, (iV arg1), (iV arg2), (iV v1), (iV v4), (iV v7), (iV v8), (iV v10), (iV v12), (rV b13), (rV b79), uV, uV, uV] [])) (fun t k => st105 t k) ?_
  refine own_st (B := T105.setTop (mkF m 375 #[(jV arg0), sV, (iV arg1), (iV arg2), (iV v1), (iV v4), (iV v7), (iV v8), (iV v10), (iV v12), (rV b13), (rV b79), uV, uV, uV] [(.ref b79)])) (fun t k => XS.aload X105.here hx rfl (hb hby at_373) rfl rfl k) ?_
  refine own_st (B := T105.setTop (mkF m 377 #[(jV arg0), sV, (iV arg1), (iV arg2), (iV v1), (iV v4), (iV v7), (iV v8), (iV v10), (iV v12), (rV b13), (rV b79), uV, uV, uV] [(.int (9 : Int32)), (.ref b79)])) (fun t k => XS.bipush X105.here hx rfl (hb hby at_375) k) ?_
  refine own_st (B := T105.setTop (mkF m 378 #[(jV arg0), sV, (iV arg1), (iV arg2), (iV v1), (iV v4), (iV v7), (iV v8), (iV v10), (iV v12), (rV b13), (rV b79), uV, uV, uV] [(.int arg2), (.int (9 : Int32)), (.ref b79)])) (fun t k => XS.iloadN X105.here hx rfl (hb hby at_377) rfl k) ?_
  refine own_st (B := T105.setTop (mkF m 380 #[(jV arg0), sV, (iV arg1), (iV arg2), (iV v1), (iV v4), (iV v7), (iV v8), (iV v10), (iV v12), (rV b13), (rV b79), uV, uV, uV] [(.int (9 : Int32)), (.int arg2), (.int (9 : Int32)), (.ref b79)])) (fun t k => XS.bipush X105.here hx rfl (hb hby at_378) k) ?_
  refine own_st (B := T105.setTop (mkF m 381 #[(jV arg0), sV, (iV arg1), (iV arg2), (iV v1), (iV v4), (iV v7), (iV v8), (iV v10), (iV v12), (rV b13), (rV b79), uV, uV, uV] [(.int (arg2 + (9 : Int32))), (.int (9 : Int32)), (.ref b79)])) (fun t k => XS.iadd X105.here hx rfl (hb hby at_380) rfl k) ?_
  refine own_st (B := T105.setTop (mkF m 382 #[(jV arg0), sV, (iV arg1), (iV arg2), (iV v1), (iV v4), (iV v7), (iV v8), (iV v10), (iV v12), (rV b13), (rV b79), uV, uV, uV] [(.int ((arg2 + (9 : Int32)).toInt8.toInt32)), (.int (9 : Int32)), (.ref b79)])) (fun t k => XS.i2b X105.here hx rfl (hb hby at_381) rfl k) ?_
  obtain ⟨T108, h108, X108, e108, W108, A108, st108⟩ := own_stB X105 hx hZ e105 f105_ (j := (9 : Int32)) (x := ((arg2 + (9 : Int32)).toInt8.toInt32)) (i := 9) (by decide) (show 9 < 16 from by decide) (g := (mkF m 382 #[(jV arg0), sV, (iV arg1), (iV arg2), (iV v1), (iV v4), (iV v7), (iV v8), (iV v10), (iV v12), (rV b13), (rV b79), uV, uV, uV] [(.int ((arg2 + (9 : Int32)).toInt8.toInt32)), (.int (9 : Int32)), (.ref b79)])) rfl rfl (hb hby at_382)
  have f108_ : own_A Z h108 b79 .byte [(.int (((arg2 + (0 : Int32)).toInt8.toInt32).toInt8.toInt32)), (.int (((arg2 + (1 : Int32)).toInt8.toInt32).toInt8.toInt32)), (.int (((arg2 + (2 : Int32)).toInt8.toInt32).toInt8.toInt32)), (.int (((arg2 + (3 : Int32)).toInt8.toInt32).toInt8.toInt32)), (.int (((arg2 + (4 : Int32)).toInt8.toInt32).toInt8.toInt32)), (.int (((arg2 + (5 : Int32)).toInt8.toInt32).toInt8.toInt32)), (.int (((arg2 + (6 : Int32)).toInt8.toInt32).toInt8.toInt32)), (.int (((arg2 + (7 : Int32)).toInt8.toInt32).toInt8.toInt32)), (.int (((arg2 + (8 : Int32)).toInt8.toInt32).toInt8.toInt32)), (.int (((arg2 + (9 : Int32)).toInt8.toInt32).toInt8.toInt32)), (.int (0 : Int32)), (.int (0 : Int32)), (.int (0 : Int32)), (.int (0 : Int32)), (.int (0 : Int32)), (.int (0 : Int32))] := by simpa only [List.set_cons_succ, List.set_cons_zero] using A108
  have z109 : n0 ≤ h108.size := Nat.le_trans z106 (Keep.of_wr W108).1
  have n110 := Fr.snoc X108 n107 u79
  refine own_st (B := T108.setTop (mkF m 383 #[(jV arg0), sV, (iV arg1), (iV arg2), (iV v1), (iV v4), (iV v7), (iV v8), (iV v10), (iV v12), (rV b13), (rV b79), uV, uV, uV] [])) (fun t k => st108 t k) ?_
  refine own_st (B := T108.setTop (mkF m 385 #[(jV arg0), sV, (iV arg1), (iV arg2), (iV v1), (iV v4), (iV v7), (iV v8), (iV v10), (iV v12), (rV b13), (rV b79), uV, uV, uV] [(.ref b79)])) (fun t k => XS.aload X108.here hx rfl (hb hby at_383) rfl rfl k) ?_
  refine own_st (B := T108.setTop (mkF m 387 #[(jV arg0), sV, (iV arg1), (iV arg2), (iV v1), (iV v4), (iV v7), (iV v8), (iV v10), (iV v12), (rV b13), (rV b79), uV, uV, uV] [(.int (10 : Int32)), (.ref b79)])) (fun t k => XS.bipush X108.here hx rfl (hb hby at_385) k) ?_
  refine own_st (B := T108.setTop (mkF m 388 #[(jV arg0), sV, (iV arg1), (iV arg2), (iV v1), (iV v4), (iV v7), (iV v8), (iV v10), (iV v12), (rV b13), (rV b79), uV, uV, uV] [(.int arg2), (.int (10 : Int32)), (.ref b79)])) (fun t k => XS.iloadN X108.here hx rfl (hb hby at_387) rfl k) ?_
  refine own_st (B := T108.setTop (mkF m 390 #[(jV arg0), sV, (iV arg1), (iV arg2), (iV v1), (iV v4), (iV v7), (iV v8), (iV v10), (iV v12), (rV b13), (rV b79), uV, uV, uV] [(.int (10 : Int32)), (.int arg2), (.int (10 : Int32)), (.ref b79)])) (fun t k => XS.bipush X108.here hx rfl (hb hby at_388) k) ?_
  refine own_st (B := T108.setTop (mkF m 391 #[(jV arg0), sV, (iV arg1), (iV arg2), (iV v1), (iV v4), (iV v7), (iV v8), (iV v10), (iV v12), (rV b13), (rV b79), uV, uV, uV] [(.int (arg2 + (10 : Int32))), (.int (10 : Int32)), (.ref b79)])) (fun t k => XS.iadd X108.here hx rfl (hb hby at_390) rfl k) ?_
  refine own_st (B := T108.setTop (mkF m 392 #[(jV arg0), sV, (iV arg1), (iV arg2), (iV v1), (iV v4), (iV v7), (iV v8), (iV v10), (iV v12), (rV b13), (rV b79), uV, uV, uV] [(.int ((arg2 + (10 : Int32)).toInt8.toInt32)), (.int (10 : Int32)), (.ref b79)])) (fun t k => XS.i2b X108.here hx rfl (hb hby at_391) rfl k) ?_
  obtain ⟨T111, h111, X111, e111, W111, A111, st111⟩ := own_stB X108 hx hZ e108 f108_ (j := (10 : Int32)) (x := ((arg2 + (10 : Int32)).toInt8.toInt32)) (i := 10) (by decide) (show 10 < 16 from by decide) (g := (mkF m 392 #[(jV arg0), sV, (iV arg1), (iV arg2), (iV v1), (iV v4), (iV v7), (iV v8), (iV v10), (iV v12), (rV b13), (rV b79), uV, uV, uV] [(.int ((arg2 + (10 : Int32)).toInt8.toInt32)), (.int (10 : Int32)), (.ref b79)])) rfl rfl (hb hby at_392)
  have f111_ : own_A Z h111 b79 .byte [(.int (((arg2 + (0 : Int32)).toInt8.toInt32).toInt8.toInt32)), (.int (((arg2 + (1 : Int32)).toInt8.toInt32).toInt8.toInt32)), (.int (((arg2 + (2 : Int32)).toInt8.toInt32).toInt8.toInt32)), (.int (((arg2 + (3 : Int32)).toInt8.toInt32).toInt8.toInt32)), (.int (((arg2 + (4 : Int32)).toInt8.toInt32).toInt8.toInt32)), (.int (((arg2 + (5 : Int32)).toInt8.toInt32).toInt8.toInt32)), (.int (((arg2 + (6 : Int32)).toInt8.toInt32).toInt8.toInt32)), (.int (((arg2 + (7 : Int32)).toInt8.toInt32).toInt8.toInt32)), (.int (((arg2 + (8 : Int32)).toInt8.toInt32).toInt8.toInt32)), (.int (((arg2 + (9 : Int32)).toInt8.toInt32).toInt8.toInt32)), (.int (((arg2 + (10 : Int32)).toInt8.toInt32).toInt8.toInt32)), (.int (0 : Int32)), (.int (0 : Int32)), (.int (0 : Int32)), (.int (0 : Int32)), (.int (0 : Int32))] := by simpa only [List.set_cons_succ, List.set_cons_zero] using A111
  have z112 : n0 ≤ h111.size := Nat.le_trans z109 (Keep.of_wr W111).1
  have n113 := Fr.snoc X111 n110 u79
  refine own_st (B := T111.setTop (mkF m 393 #[(jV arg0), sV, (iV arg1), (iV arg2), (iV v1), (iV v4), (iV v7), (iV v8), (iV v10), (iV v12), (rV b13), (rV b79), uV, uV, uV] [])) (fun t k => st111 t k) ?_
  refine own_st (B := T111.setTop (mkF m 395 #[(jV arg0), sV, (iV arg1), (iV arg2), (iV v1), (iV v4), (iV v7), (iV v8), (iV v10), (iV v12), (rV b13), (rV b79), uV, uV, uV] [(.ref b79)])) (fun t k => XS.aload X111.here hx rfl (hb hby at_393) rfl rfl k) ?_
  refine own_st (B := T111.setTop (mkF m 397 #[(jV arg0), sV, (iV arg1), (iV arg2), (iV v1), (iV v4), (iV v7), (iV v8), (iV v10), (iV v12), (rV b13), (rV b79), uV, uV, uV] [(.int (11 : Int32)), (.ref b79)])) (fun t k => XS.bipush X111.here hx rfl (hb hby at_395) k) ?_
  refine own_st (B := T111.setTop (mkF m 398 #[(jV arg0), sV, (iV arg1), (iV arg2), (iV v1), (iV v4), (iV v7), (iV v8), (iV v10), (iV v12), (rV b13), (rV b79), uV, uV, uV] [(.int arg2), (.int (11 : Int32)), (.ref b79)])) (fun t k => XS.iloadN X111.here hx rfl (hb hby at_397) rfl k) ?_
  refine own_st (B := T111.setTop (mkF m 400 #[(jV arg0), sV, (iV arg1), (iV arg2), (iV v1), (iV v4), (iV v7), (iV v8), (iV v10), (iV v12), (rV b13), (rV b79), uV, uV, uV] [(.int (11 : Int32)), (.int arg2), (.int (11 : Int32)), (.ref b79)])) (fun t k => XS.bipush X111.here hx rfl (hb hby at_398) k) ?_
  refine own_st (B := T111.setTop (mkF m 401 #[(jV arg0), sV, (iV arg1), (iV arg2), (iV v1), (iV v4), (iV v7), (iV v8), (iV v10), (iV v12), (rV b13), (rV b79), uV, uV, uV] [(.int (arg2 + (11 : Int32))), (.int (11 : Int32)), (.ref b79)])) (fun t k => XS.iadd X111.here hx rfl (hb hby at_400) rfl k) ?_
  refine own_st (B := T111.setTop (mkF m 402 #[(jV arg0), sV, (iV arg1), (iV arg2), (iV v1), (iV v4), (iV v7), (iV v8), (iV v10), (iV v12), (rV b13), (rV b79), uV, uV, uV] [(.int ((arg2 + (11 : Int32)).toInt8.toInt32)), (.int (11 : Int32)), (.ref b79)])) (fun t k => XS.i2b X111.here hx rfl (hb hby at_401) rfl k) ?_
  obtain ⟨T114, h114, X114, e114, W114, A114, st114⟩ := own_stB X111 hx hZ e111 f111_ (j := (11 : Int32)) (x := ((arg2 + (11 : Int32)).toInt8.toInt32)) (i := 11) (by decide) (show 11 < 16 from by decide) (g := (mkF m 402 #[(jV arg0), sV, (iV arg1), (iV arg2), (iV v1), (iV v4), (iV v7), (iV v8), (iV v10), (iV v12), (rV b13), (rV b79), uV, uV, uV] [(.int ((arg2 + (11 : Int32)).toInt8.toInt32)), (.int (11 : Int32)), (.ref b79)])) rfl rfl (hb hby at_402)
  have f114_ : own_A Z h114 b79 .byte [(.int (((arg2 + (0 : Int32)).toInt8.toInt32).toInt8.toInt32)), (.int (((arg2 + (1 : Int32)).toInt8.toInt32).toInt8.toInt32)), (.int (((arg2 + (2 : Int32)).toInt8.toInt32).toInt8.toInt32)), (.int (((arg2 + (3 : Int32)).toInt8.toInt32).toInt8.toInt32)), (.int (((arg2 + (4 : Int32)).toInt8.toInt32).toInt8.toInt32)), (.int (((arg2 + (5 : Int32)).toInt8.toInt32).toInt8.toInt32)), (.int (((arg2 + (6 : Int32)).toInt8.toInt32).toInt8.toInt32)), (.int (((arg2 + (7 : Int32)).toInt8.toInt32).toInt8.toInt32)), (.int (((arg2 + (8 : Int32)).toInt8.toInt32).toInt8.toInt32)), (.int (((arg2 + (9 : Int32)).toInt8.toInt32).toInt8.toInt32)), (.int (((arg2 + (10 : Int32)).toInt8.toInt32).toInt8.toInt32)), (.int (((arg2 + (11 : Int32)).toInt8.toInt32).toInt8.toInt32)), (.int (0 : Int32)), (.int (0 : Int32)), (.int (0 : Int32)), (.int (0 : Int32))] := by simpa only [List.set_cons_succ, List.set_cons_zero] using A114
  have z115 : n0 ≤ h114.size := Nat.le_trans z112 (Keep.of_wr W114).1
  have n116 := Fr.snoc X114 n113 u79
  refine own_st (B := T114.setTop (mkF m 403 #[(jV arg0), sV, (iV arg1), (iV arg2), (iV v1), (iV v4), (iV v7), (iV v8), (iV v10), (iV v12), (rV b13), (rV b79), uV, uV, uV] [])) (fun t k => st114 t k) ?_
  refine own_st (B := T114.setTop (mkF m 405 #[(jV arg0), sV, (iV arg1), (iV arg2), (iV v1), (iV v4), (iV v7), (iV v8), (iV v10), (iV v12), (rV b13), (rV b79), uV, uV, uV] [(.ref b79)])) (fun t k => XS.aload X114.here hx rfl (hb hby at_403) rfl rfl k) ?_
  refine own_st (B := T114.setTop (mkF m 407 #[(jV arg0), sV, (iV arg1), (iV arg2), (iV v1), (iV v4), (iV v7), (iV v8), (iV v10), (iV v12), (rV b13), (rV b79), uV, uV, uV] [(.int (12 : Int32)), (.ref b79)])) (fun t k => XS.bipush X114.here hx rfl (hb hby at_405) k) ?_
  refine own_st (B := T114.setTop (mkF m 408 #[(jV arg0), sV, (iV arg1), (iV arg2), (iV v1), (iV v4), (iV v7), (iV v8), (iV v10), (iV v12), (rV b13), (rV b79), uV, uV, uV] [(.int arg2), (.int (12 : Int32)), (.ref b79)])) (fun t k => XS.iloadN X114.here hx rfl (hb hby at_407) rfl k) ?_
  refine own_st (B := T114.setTop (mkF m 410 #[(jV arg0), sV, (iV arg1), (iV arg2), (iV v1), (iV v4), (iV v7), (iV v8), (iV v10), (iV v12), (rV b13), (rV b79), uV, uV, uV] [(.int (12 : Int32)), (.int arg2), (.int (12 : Int32)), (.ref b79)])) (fun t k => XS.bipush X114.here hx rfl (hb hby at_408) k) ?_
  refine own_st (B := T114.setTop (mkF m 411 #[(jV arg0), sV, (iV arg1), (iV arg2), (iV v1), (iV v4), (iV v7), (iV v8), (iV v10), (iV v12), (rV b13), (rV b79), uV, uV, uV] [(.int (arg2 + (12 : Int32))), (.int (12 : Int32)), (.ref b79)])) (fun t k => XS.iadd X114.here hx rfl (hb hby at_410) rfl k) ?_
  refine own_st (B := T114.setTop (mkF m 412 #[(jV arg0), sV, (iV arg1), (iV arg2), (iV v1), (iV v4), (iV v7), (iV v8), (iV v10), (iV v12), (rV b13), (rV b79), uV, uV, uV] [(.int ((arg2 + (12 : Int32)).toInt8.toInt32)), (.int (12 : Int32)), (.ref b79)])) (fun t k => XS.i2b X114.here hx rfl (hb hby at_411) rfl k) ?_
  obtain ⟨T117, h117, X117, e117, W117, A117, st117⟩ := own_stB X114 hx hZ e114 f114_ (j := (12 : Int32)) (x := ((arg2 + (12 : Int32)).toInt8.toInt32)) (i := 12) (by decide) (show 12 < 16 from by decide) (g := (mkF m 412 #[(jV arg0), sV, (iV arg1), (iV arg2), (iV v1), (iV v4), (iV v7), (iV v8), (iV v10), (iV v12), (rV b13), (rV b79), uV, uV, uV] [(.int ((arg2 + (12 : Int32)).toInt8.toInt32)), (.int (12 : Int32)), (.ref b79)])) rfl rfl (hb hby at_412)
  have f117_ : own_A Z h117 b79 .byte [(.int (((arg2 + (0 : Int32)).toInt8.toInt32).toInt8.toInt32)), (.int (((arg2 + (1 : Int32)).toInt8.toInt32).toInt8.toInt32)), (.int (((arg2 + (2 : Int32)).toInt8.toInt32).toInt8.toInt32)), (.int (((arg2 + (3 : Int32)).toInt8.toInt32).toInt8.toInt32)), (.int (((arg2 + (4 : Int32)).toInt8.toInt32).toInt8.toInt32)), (.int (((arg2 + (5 : Int32)).toInt8.toInt32).toInt8.toInt32)), (.int (((arg2 + (6 : Int32)).toInt8.toInt32).toInt8.toInt32)), (.int (((arg2 + (7 : Int32)).toInt8.toInt32).toInt8.toInt32)), (.int (((arg2 + (8 : Int32)).toInt8.toInt32).toInt8.toInt32)), (.int (((arg2 + (9 : Int32)).toInt8.toInt32).toInt8.toInt32)), (.int (((arg2 + (10 : Int32)).toInt8.toInt32).toInt8.toInt32)), (.int (((arg2 + (11 : Int32)).toInt8.toInt32).toInt8.toInt32)), (.int (((arg2 + (12 : Int32)).toInt8.toInt32).toInt8.toInt32)), (.int (0 : Int32)), (.int (0 : Int32)), (.int (0 : Int32))] := by simpa only [List.set_cons_succ, List.set_cons_zero] using A117
  have z118 : n0 ≤ h117.size := Nat.le_trans z115 (Keep.of_wr W117).1
  have n119 := Fr.snoc X117 n116 u79
  refine own_st (B := T117.setTop (mkF m 413 #[(jV arg0), sV, (iV arg1), (iV arg2), (iV v1), (iV v4), (iV v7), (iV v8), (iV v10), (iV v12), (rV b13), (rV b79), uV, uV, uV] [])) (fun t k => st117 t k) ?_
  refine own_st (B := T117.setTop (mkF m 415 #[(jV arg0), sV, (iV arg1), (iV arg2), (iV v1), (iV v4), (iV v7), (iV v8), (iV v10), (iV v12), (rV b13), (rV b79), uV, uV, uV] [(.ref b79)])) (fun t k => XS.aload X117.here hx rfl (hb hby at_413) rfl rfl k) ?_
  refine own_st (B := T117.setTop (mkF m 417 #[(jV arg0), sV, (iV arg1), (iV arg2), (iV v1), (iV v4), (iV v7), (iV v8), (iV v10), (iV v12), (rV b13), (rV b79), uV, uV, uV] [(.int (13 : Int32)), (.ref b79)])) (fun t k => XS.bipush X117.here hx rfl (hb hby at_415) k) ?_
  refine own_st (B := T117.setTop (mkF m 418 #[(jV arg0), sV, (iV arg1), (iV arg2), (iV v1), (iV v4), (iV v7), (iV v8), (iV v10), (iV v12), (rV b13), (rV b79), uV, uV, uV] [(.int arg2), (.int (13 : Int32)), (.ref b79)])) (fun t k => XS.iloadN X117.here hx rfl (hb hby at_417) rfl k) ?_
  refine own_st (B := T117.setTop (mkF m 420 #[(jV arg0), sV, (iV arg1), (iV arg2), (iV v1), (iV v4), (iV v7), (iV v8), (iV v10), (iV v12), (rV b13), (rV b79), uV, uV, uV] [(.int (13 : Int32)), (.int arg2), (.int (13 : Int32)), (.ref b79)])) (fun t k => XS.bipush X117.here hx rfl (hb hby at_418) k) ?_
  refine own_st (B := T117.setTop (mkF m 421 #[(jV arg0), sV, (iV arg1), (iV arg2), (iV v1), (iV v4), (iV v7), (iV v8), (iV v10), (iV v12), (rV b13), (rV b79), uV, uV, uV] [(.int (arg2 + (13 : Int32))), (.int (13 : Int32)), (.ref b79)])) (fun t k => XS.iadd X117.here hx rfl (hb hby at_420) rfl k) ?_
  refine own_st (B := T117.setTop (mkF m 422 #[(jV arg0), sV, (iV arg1), (iV arg2), (iV v1), (iV v4), (iV v7), (iV v8), (iV v10), (iV v12), (rV b13), (rV b79), uV, uV, uV] [(.int ((arg2 + (13 : Int32)).toInt8.toInt32)), (.int (13 : Int32)), (.ref b79)])) (fun t k => XS.i2b X117.here hx rfl (hb hby at_421) rfl k) ?_
  obtain ⟨T120, h120, X120, e120, W120, A120, st120⟩ := own_stB X117 hx hZ e117 f117_ (j := (13 : Int32)) (x := ((arg2 + (13 : Int32)).toInt8.toInt32)) (i := 13) (by decide) (show 13 < 16 from by decide) (g := (mkF m 422 #[(jV arg0), sV, (iV arg1), (iV arg2), (iV v1), (iV v4), (iV v7), (iV v8), (iV v10), (iV v12), (rV b13), (rV b79), uV, uV, uV] [(.int ((arg2 + (13 : Int32)).toInt8.toInt32)), (.int (13 : Int32)), (.ref b79)])) rfl rfl (hb hby at_422)
  have f120_ : own_A Z h120 b79 .byte [(.int (((arg2 + (0 : Int32)).toInt8.toInt32).toInt8.toInt32)), (.int (((arg2 + (1 : Int32)).toInt8.toInt32).toInt8.toInt32)), (.int (((arg2 + (2 : Int32)).toInt8.toInt32).toInt8.toInt32)), (.int (((arg2 + (3 : Int32)).toInt8.toInt32).toInt8.toInt32)), (.int (((arg2 + (4 : Int32)).toInt8.toInt32).toInt8.toInt32)), (.int (((arg2 + (5 : Int32)).toInt8.toInt32).toInt8.toInt32)), (.int (((arg2 + (6 : Int32)).toInt8.toInt32).toInt8.toInt32)), (.int (((arg2 + (7 : Int32)).toInt8.toInt32).toInt8.toInt32)), (.int (((arg2 + (8 : Int32)).toInt8.toInt32).toInt8.toInt32)), (.int (((arg2 + (9 : Int32)).toInt8.toInt32).toInt8.toInt32)), (.int (((arg2 + (10 : Int32)).toInt8.toInt32).toInt8.toInt32)), (.int (((arg2 + (11 : Int32)).toInt8.toInt32).toInt8.toInt32)), (.int (((arg2 + (12 : Int32)).toInt8.toInt32).toInt8.toInt32)), (.int (((arg2 + (13 : Int32)).toInt8.toInt32).toInt8.toInt32)), (.int (0 : Int32)), (.int (0 : Int32))] := by simpa only [List.set_cons_succ, List.set_cons_zero] using A120
  have z121 : n0 ≤ h120.size := Nat.le_trans z118 (Keep.of_wr W120).1
  have n122 := Fr.snoc X120 n119 u79
  refine own_st (B := T120.setTop (mkF m 423 #[(jV arg0), sV, (iV arg1), (iV arg2), (iV v1), (iV v4), (iV v7), (iV v8), (iV v10), (iV v12), (rV b13), (rV b79), uV, uV, uV] [])) (fun t k => st120 t k) ?_
  refine own_st (B := T120.setTop (mkF m 425 #[(jV arg0), sV, (iV arg1), (iV arg2), (iV v1), (iV v4), (iV v7), (iV v8), (iV v10), (iV v12), (rV b13), (rV b79), uV, uV, uV] [(.ref b79)])) (fun t k => XS.aload X120.here hx rfl (hb hby at_423) rfl rfl k) ?_
  refine own_st (B := T120.setTop (mkF m 427 #[(jV arg0), sV, (iV arg1), (iV arg2), (iV v1), (iV v4), (iV v7), (iV v8), (iV v10), (iV v12), (rV b13), (rV b79), uV, uV, uV] [(.int (14 : Int32)), (.ref b79)])) (fun t k => XS.bipush X120.here hx rfl (hb hby at_425) k) ?_
  refine own_st (B := T120.setTop (mkF m 428 #[(jV arg0), sV, (iV arg1), (iV arg2), (iV v1), (iV v4), (iV v7), (iV v8), (iV v10), (iV v12), (rV b13), (rV b79), uV, uV, uV] [(.int arg2), (.int (14 : Int32)), (.ref b79)])) (fun t k => XS.iloadN X120.here hx rfl (hb hby at_427) rfl k) ?_
  refine own_st (B := T120.setTop (mkF m 430 #[(jV arg0), sV, (iV arg1), (iV arg2), (iV v1), (iV v4), (iV v7), (iV v8), (iV v10), (iV v12), (rV b13), (rV b79), uV, uV, uV] [(.int (14 : Int32)), (.int arg2), (.int (14 : Int32)), (.ref b79)])) (fun t k => XS.bipush X120.here hx rfl (hb hby at_428) k) ?_
  refine own_st (B := T120.setTop (mkF m 431 #[(jV arg0), sV, (iV arg1), (iV arg2), (iV v1), (iV v4), (iV v7), (iV v8), (iV v10), (iV v12), (rV b13), (rV b79), uV, uV, uV] [(.int (arg2 + (14 : Int32))), (.int (14 : Int32)), (.ref b79)])) (fun t k => XS.iadd X120.here hx rfl (hb hby at_430) rfl k) ?_
  refine own_st (B := T120.setTop (mkF m 432 #[(jV arg0), sV, (iV arg1), (iV arg2), (iV v1), (iV v4), (iV v7), (iV v8), (iV v10), (iV v12), (rV b13), (rV b79), uV, uV, uV] [(.int ((arg2 + (14 : Int32)).toInt8.toInt32)), (.int (14 : Int32)), (.ref b79)])) (fun t k => XS.i2b X120.here hx rfl (hb hby at_431) rfl k) ?_
  obtain ⟨T123, h123, X123, e123, W123, A123, st123⟩ := own_stB X120 hx hZ e120 f120_ (j := (14 : Int32)) (x := ((arg2 + (14 : Int32)).toInt8.toInt32)) (i := 14) (by decide) (show 14 < 16 from by decide) (g := (mkF m 432 #[(jV arg0), sV, (iV arg1), (iV arg2), (iV v1), (iV v4), (iV v7), (iV v8), (iV v10), (iV v12), (rV b13), (rV b79), uV, uV, uV] [(.int ((arg2 + (14 : Int32)).toInt8.toInt32)), (.int (14 : Int32)), (.ref b79)])) rfl rfl (hb hby at_432)
  have f123_ : own_A Z h123 b79 .byte [(.int (((arg2 + (0 : Int32)).toInt8.toInt32).toInt8.toInt32)), (.int (((arg2 + (1 : Int32)).toInt8.toInt32).toInt8.toInt32)), (.int (((arg2 + (2 : Int32)).toInt8.toInt32).toInt8.toInt32)), (.int (((arg2 + (3 : Int32)).toInt8.toInt32).toInt8.toInt32)), (.int (((arg2 + (4 : Int32)).toInt8.toInt32).toInt8.toInt32)), (.int (((arg2 + (5 : Int32)).toInt8.toInt32).toInt8.toInt32)), (.int (((arg2 + (6 : Int32)).toInt8.toInt32).toInt8.toInt32)), (.int (((arg2 + (7 : Int32)).toInt8.toInt32).toInt8.toInt32)), (.int (((arg2 + (8 : Int32)).toInt8.toInt32).toInt8.toInt32)), (.int (((arg2 + (9 : Int32)).toInt8.toInt32).toInt8.toInt32)), (.int (((arg2 + (10 : Int32)).toInt8.toInt32).toInt8.toInt32)), (.int (((arg2 + (11 : Int32)).toInt8.toInt32).toInt8.toInt32)), (.int (((arg2 + (12 : Int32)).toInt8.toInt32).toInt8.toInt32)), (.int (((arg2 + (13 : Int32)).toInt8.toInt32).toInt8.toInt32)), (.int (((arg2 + (14 : Int32)).toInt8.toInt32).toInt8.toInt32)), (.int (0 : Int32))] := by simpa only [List.set_cons_succ, List.set_cons_zero] using A123
  have z124 : n0 ≤ h123.size := Nat.le_trans z121 (Keep.of_wr W123).1
  have n125 := Fr.snoc X123 n122 u79
  refine own_st (B := T123.setTop (mkF m 433 #[(jV arg0), sV, (iV arg1), (iV arg2), (iV v1), (iV v4), (iV v7), (iV v8), (iV v10), (iV v12), (rV b13), (rV b79), uV, uV, uV] [])) (fun t k => st123 t k) ?_
  refine own_st (B := T123.setTop (mkF m 435 #[(jV arg0), sV, (iV arg1), (iV arg2), (iV v1), (iV v4), (iV v7), (iV v8), (iV v10), (iV v12), (rV b13), (rV b79), uV, uV, uV] [(.ref b79)])) (fun t k => XS.aload X123.here hx rfl (hb hby at_433) rfl rfl k) ?_
  refine own_st (B := T123.setTop (mkF m 437 #[(jV arg0), sV, (iV arg1), (iV arg2), (iV v1), (iV v4), (iV v7), (iV v8), (iV v10), (iV v12), (rV b13), (rV b79), uV, uV, uV] [(.int (15 : Int32)), (.ref b79)])) (fun t k => XS.bipush X123.here hx rfl (hb hby at_435) k) ?_
  refine own_st (B := T123.setTop (mkF m 438 #[(jV arg0), sV, (iV arg1), (iV arg2), (iV v1), (iV v4), (iV v7), (iV v8), (iV v10), (iV v12), (rV b13), (rV b79), uV, uV, uV] [(.int arg2), (.int (15 : Int32)), (.ref b79)])) (fun t k => XS.iloadN X123.here hx rfl (hb hby at_437) rfl k) ?_
  refine own_st (B := T123.setTop (mkF m 440 #[(jV arg0), sV, (iV arg1), (iV arg2), (iV v1), (iV v4), (iV v7), (iV v8), (iV v10), (iV v12), (rV b13), (rV b79), uV, uV, uV] [(.int (15 : Int32)), (.int arg2), (.int (15 : Int32)), (.ref b79)])) (fun t k => XS.bipush X123.here hx rfl (hb hby at_438) k) ?_
  refine own_st (B := T123.setTop (mkF m 441 #[(jV arg0), sV, (iV arg1), (iV arg2), (iV v1), (iV v4), (iV v7), (iV v8), (iV v10), (iV v12), (rV b13), (rV b79), uV, uV, uV] [(.int (arg2 + (15 : Int32))), (.int (15 : Int32)), (.ref b79)])) (fun t k => XS.iadd X123.here hx rfl (hb hby at_440) rfl k) ?_
  refine own_st (B := T123.setTop (mkF m 442 #[(jV arg0), sV, (iV arg1), (iV arg2), (iV v1), (iV v4), (iV v7), (iV v8), (iV v10), (iV v12), (rV b13), (rV b79), uV, uV, uV] [(.int ((arg2 + (15 : Int32)).toInt8.toInt32)), (.int (15 : Int32)), (.ref b79)])) (fun t k => XS.i2b X123.here hx rfl (hb hby at_441) rfl k) ?_
  obtain ⟨T126, h126, X126, e126, W126, A126, st126⟩ := own_stB X123 hx hZ e123 f123_ (j := (15 : Int32)) (x := ((arg2 + (15 : Int32)).toInt8.toInt32)) (i := 15) (by decide) (show 15 < 16 from by decide) (g := (mkF m 442 #[(jV arg0), sV, (iV arg1), (iV arg2), (iV v1), (iV v4), (iV v7), (iV v8), (iV v10), (iV v12), (rV b13), (rV b79), uV, uV, uV] [(.int ((arg2 + (15 : Int32)).toInt8.toInt32)), (.int (15 : Int32)), (.ref b79)])) rfl rfl (hb hby at_442)
  have f126_ : own_A Z h126 b79 .byte [(.int (((arg2 + (0 : Int32)).toInt8.toInt32).toInt8.toInt32)), (.int (((arg2 + (1 : Int32)).toInt8.toInt32).toInt8.toInt32)), (.int (((arg2 + (2 : Int32)).toInt8.toInt32).toInt8.toInt32)), (.int (((arg2 + (3 : Int32)).toInt8.toInt32).toInt8.toInt32)), (.int (((arg2 + (4 : Int32)).toInt8.toInt32).toInt8.toInt32)), (.int (((arg2 + (5 : Int32)).toInt8.toInt32).toInt8.toInt32)), (.int (((arg2 + (6 : Int32)).toInt8.toInt32).toInt8.toInt32)), (.int (((arg2 + (7 : Int32)).toInt8.toInt32).toInt8.toInt32)), (.int (((arg2 + (8 : Int32)).toInt8.toInt32).toInt8.toInt32)), (.int (((arg2 + (9 : Int32)).toInt8.toInt32).toInt8.toInt32)), (.int (((arg2 + (10 : Int32)).toInt8.toInt32).toInt8.toInt32)), (.int (((arg2 + (11 : Int32)).toInt8.toInt32).toInt8.toInt32)), (.int (((arg2 + (12 : Int32)).toInt8.toInt32).toInt8.toInt32)), (.int (((arg2 + (13 : Int32)).toInt8.toInt32).toInt8.toInt32)), (.int (((arg2 + (14 : Int32)).toInt8.toInt32).toInt8.toInt32)), (.int (((arg2 + (15 : Int32)).toInt8.toInt32).toInt8.toInt32))] := by simpa only [List.set_cons_succ, List.set_cons_zero] using A126
  have z127 : n0 ≤ h126.size := Nat.le_trans z124 (Keep.of_wr W126).1
  have n128 := Fr.snoc X126 n125 u79
  refine own_st (B := T126.setTop (mkF m 443 #[(jV arg0), sV, (iV arg1), (iV arg2), (iV v1), (iV v4), (iV v7), (iV v8), (iV v10), (iV v12), (rV b13), (rV b79), uV, uV, uV] [])) (fun t k => st126 t k) ?_
  refine own_st (B := T126.setTop (mkF m 445 #[(jV arg0), sV, (iV arg1), (iV arg2), (iV v1), (iV v4), (iV v7), (iV v8), (iV v10), (iV v12), (rV b13), (rV b79), uV, uV, uV] [(.int v12)])) (fun t k => XS.iload X126.here hx rfl (hb hby at_443) rfl k) ?_
  refine own_st (B := T126.setTop (mkF m 447 #[(jV arg0), sV, (iV arg1), (iV arg2), (iV v1), (iV v4), (iV v7), (iV v8), (iV v10), (iV v12), (rV b13), (rV b79), uV, uV, uV] [(.int v7), (.int v12)])) (fun t k => XS.iload X126.here hx rfl (hb hby at_445) rfl k) ?_
  refine own_st (B := T126.setTop (mkF m 449 #[(jV arg0), sV, (iV arg1), (iV arg2), (iV v1), (iV v4), (iV v7), (iV v8), (iV v10), (iV v12), (rV b13), (rV b79), uV, uV, uV] [(.int v4), (.int v7), (.int v12)])) (fun t k => XS.iload X126.here hx rfl (hb hby at_447) rfl k) ?_
  refine own_st (B := T126.setTop (mkF m 450 #[(jV arg0), sV, (iV arg1), (iV arg2), (iV v1), (iV v4), (iV v7), (iV v8), (iV v10), (iV v12), (rV b13), (rV b79), uV, uV, uV] [(.int (v7 * v4)), (.int v12)])) (fun t k => XS.imul X126.here hx rfl (hb hby at_449) rfl k) ?_
  refine own_st (B := T126.setTop (mkF m 452 #[(jV arg0), sV, (iV arg1), (iV arg2), (iV v1), (iV v4), (iV v7), (iV v8), (iV v10), (iV v12), (rV b13), (rV b79), uV, uV, uV] [(.int (7 : Int32)), (.int (v7 * v4)), (.int v12)])) (fun t k => XS.bipush X126.here hx rfl (hb hby at_450) k) ?_
  refine own_st (B := T126.setTop (mkF m 453 #[(jV arg0), sV, (iV arg1), (iV arg2), (iV v1), (iV v4), (iV v7), (iV v8), (iV v10), (iV v12), (rV b13), (rV b79), uV, uV, uV] [(.int ((v7 * v4) + (7 : Int32))), (.int v12)])) (fun t k => XS.iadd X126.here hx rfl (hb hby at_452) rfl k) ?_
  refine own_st (B := T126.setTop (mkF m 455 #[(jV arg0), sV, (iV arg1), (iV arg2), (iV v1), (iV v4), (iV v7), (iV v8), (iV v10), (iV v12), (rV b13), (rV b79), uV, uV, uV] [(.int (8 : Int32)), (.int ((v7 * v4) + (7 : Int32))), (.int v12)])) (fun t k => XS.bipush X126.here hx rfl (hb hby at_453) k) ?_
  refine own_st (B := T126.setTop (mkF m 456 #[(jV arg0), sV, (iV arg1), (iV arg2), (iV v1), (iV v4), (iV v7), (iV v8), (iV v10), (iV v12), (rV b13), (rV b79), uV, uV, uV] [(.int (((v7 * v4) + (7 : Int32)) / (8 : Int32))), (.int v12)])) (fun t k => XS.idiv X126.here hx (g := (mkF m 455 #[(jV arg0), sV, (iV arg1), (iV arg2), (iV v1), (iV v4), (iV v7), (iV v8), (iV v10), (iV v12), (rV b13), (rV b79), uV, uV, uV] [(.int (8 : Int32)), (.int ((v7 * v4) + (7 : Int32))), (.int v12)])) rfl (x := ((v7 * v4) + (7 : Int32))) (y := (8 : Int32)) (rest := [(.int v12)]) (hb hby at_455) rfl (by decide) k) ?_
  refine own_st (B := T126.setTop (mkF m 458 #[(jV arg0), sV, (iV arg1), (iV arg2), (iV v1), (iV v4), (iV v7), (iV v8), (iV v10), (iV v12), (rV b13), (rV b79), uV, uV, uV] [(.int v10), (.int (((v7 * v4) + (7 : Int32)) / (8 : Int32))), (.int v12)])) (fun t k => XS.iload X126.here hx rfl (hb hby at_456) rfl k) ?_
  refine own_st (B := T126.setTop (mkF m 459 #[(jV arg0), sV, (iV arg1), (iV arg2), (iV v1), (iV v4), (iV v7), (iV v8), (iV v10), (iV v12), (rV b13), (rV b79), uV, uV, uV] [(.int ((((v7 * v4) + (7 : Int32)) / (8 : Int32)) * v10)), (.int v12)])) (fun t k => XS.imul X126.here hx rfl (hb hby at_458) rfl k) ?_
  refine own_st (B := T126.setTop (mkF m 460 #[(jV arg0), sV, (iV arg1), (iV arg2), (iV v1), (iV v4), (iV v7), (iV v8), (iV v10), (iV v12), (rV b13), (rV b79), uV, uV, uV] [(.int (v12 + ((((v7 * v4) + (7 : Int32)) / (8 : Int32)) * v10)))])) (fun t k => XS.iadd X126.here hx rfl (hb hby at_459) rfl k) ?_
  obtain ⟨v129, ev129⟩ : ∃ z : Int32, z = (v12 + ((((v7 * v4) + (7 : Int32)) / (8 : Int32)) * v10)) := ⟨_, rfl⟩
  rw [← ev129]
  refine own_st (B := T126.setTop (mkF m 462 #[(jV arg0), sV, (iV arg1), (iV arg2), (iV v1), (iV v4), (iV v7), (iV v8), (iV v10), (iV v12), (rV b13), (rV b79), (iV v129), uV, uV] [])) (fun t k => XS.istore X126.here hx rfl (hb hby at_460) rfl (l' := #[(jV arg0), sV, (iV arg1), (iV arg2), (iV v1), (iV v4), (iV v7), (iV v8), (iV v10), (iV v12), (rV b13), (rV b79), (iV v129), uV, uV]) rfl k) ?_
  refine own_st (B := T126.setTop (mkF m 464 #[(jV arg0), sV, (iV arg1), (iV arg2), (iV v1), (iV v4), (iV v7), (iV v8), (iV v10), (iV v12), (rV b13), (rV b79), (iV v129), uV, uV] [(.ref b13)])) (fun t k => XS.aload X126.here hx rfl (hb hby at_462) rfl rfl k) ?_
  refine own_st (B := T126.setTop (mkF m 466 #[(jV arg0), sV, (iV arg1), (iV arg2), (iV v1), (iV v4), (iV v7), (iV v8), (iV v10), (iV v12), (rV b13), (rV b79), (iV v129), uV, uV] [(.int v7), (.ref b13)])) (fun t k => XS.iload X126.here hx rfl (hb hby at_464) rfl k) ?_
  refine own_st (B := T126.setTop (mkF m 468 #[(jV arg0), sV, (iV arg1), (iV arg2), (iV v1), (iV v4), (iV v7), (iV v8), (iV v10), (iV v12), (rV b13), (rV b79), (iV v129), uV, uV] [(.int v10), (.int v7), (.ref b13)])) (fun t k => XS.iload X126.here hx rfl (hb hby at_466) rfl k) ?_
  refine own_st (B := T126.setTop (mkF m 470 #[(jV arg0), sV, (iV arg1), (iV arg2), (iV v1), (iV v4), (iV v7), (iV v8), (iV v10), (iV v12), (rV b13), (rV b79), (iV v129), uV, uV] [(.int v4), (.int v10), (.int v7), (.ref b13)])) (fun t k => XS.iload X126.here hx rfl (hb hby at_468) rfl k) ?_
  refine own_st (B := T126.setTop (mkF m 472 #[(jV arg0), sV, (iV arg1), (iV arg2), (iV v1), (iV v4), (iV v7), (iV v8), (iV v10), (iV v12), (rV b13), (rV b79), (iV v129), uV, uV] [(.ref b79), (.int v4), (.int v10), (.int v7), (.ref b13)])) (fun t k => XS.aload X126.here hx rfl (hb hby at_470) rfl rfl k) ?_
  refine own_st (B := T126.setTop (mkF m 474 #[(jV arg0), sV, (iV arg1), (iV arg2), (iV v1), (iV v4), (iV v7), (iV v8), (iV v10), (iV v12), (rV b13), (rV b79), (iV v129), uV, uV] [(.int v12), (.ref b79), (.int v4), (.int v10), (.int v7), (.ref b13)])) (fun t k => XS.iload X126.here hx rfl (hb hby at_472) rfl k) ?_
  have f130 : own_A Z h126 b13 .byte [(.int (((own_idx arg0 v4 (0 : Int32)).toInt8.toInt32).toInt8.toInt32)), (.int (((own_idx arg0 v4 (1 : Int32)).toInt8.toInt32).toInt8.toInt32)), (.int (((own_idx arg0 v4 (2 : Int32)).toInt8.toInt32).toInt8.toInt32)), (.int (((own_idx arg0 v4 (3 : Int32)).toInt8.toInt32).toInt8.toInt32)), (.int (((own_idx arg0 v4 (4 : Int32)).toInt8.toInt32).toInt8.toInt32)), (.int (((own_idx arg0 v4 (5 : Int32)).toInt8.toInt32).toInt8.toInt32)), (.int (((own_idx arg0 v4 (6 : Int32)).toInt8.toInt32).toInt8.toInt32)), (.int (((own_idx arg0 v4 (7 : Int32)).toInt8.toInt32).toInt8.toInt32)), (.int (((own_idx arg0 v4 (8 : Int32)).toInt8.toInt32).toInt8.toInt32)), (.int (((own_idx arg0 v4 (9 : Int32)).toInt8.toInt32).toInt8.toInt32)), (.int (((own_idx arg0 v4 (10 : Int32)).toInt8.toInt32).toInt8.toInt32)), (.int (((own_idx arg0 v4 (11 : Int32)).toInt8.toInt32).toInt8.toInt32)), (.int (((own_idx arg0 v4 (12 : Int32)).toInt8.toInt32).toInt8.toInt32)), (.int (((own_idx arg0 v4 (13 : Int32)).toInt8.toInt32).toInt8.toInt32)), (.int (((own_idx arg0 v4 (14 : Int32)).toInt8.toInt32).toInt8.toInt32)), (.int (((own_idx arg0 v4 (15 : Int32)).toInt8.toInt32).toInt8.toInt32))] := (((((((((((((((((f76_.ext E79).other W81 q79_b13).other W84 q79_b13).other W87 q79_b13).other W90 q79_b13).other W93 q79_b13).other W96 q79_b13).other W99 q79_b13).other W102 q79_b13).other W105 q79_b13).other W108 q79_b13).other W111 q79_b13).other W114 q79_b13).other W117 q79_b13).other W120 q79_b13).other W123 q79_b13).other W126 q79_b13)
  obtain ⟨_, _, ⟨T131, L131, k131, j131⟩, -, X131, ⟨Lc131, hQ131, l131, y131_, z131_⟩, st131⟩ := Jvm.LawKit.callS X126 hx (y := (⟨"com/example/relayframe/relayframe/Palette", "pack", "([BIII[BI)I"⟩ : MethodName)) hown (mvT hZ (w_9 hw)) (mvT hZ (w_10 hw)) (mvT hZ (w_11 hw)) (mvT hZ (w_12 hw)) (by decide) (backOf (W := 0) (rm3 l Z a0 hw [] b13 b79 v7 v10 v4 v12 (own_L arg0 v4) [(((arg2 + (0 : Int32)).toInt8.toInt32).toInt8.toInt32), (((arg2 + (1 : Int32)).toInt8.toInt32).toInt8.toInt32), (((arg2 + (2 : Int32)).toInt8.toInt32).toInt8.toInt32), (((arg2 + (3 : Int32)).toInt8.toInt32).toInt8.toInt32), (((arg2 + (4 : Int32)).toInt8.toInt32).toInt8.toInt32), (((arg2 + (5 : Int32)).toInt8.toInt32).toInt8.toInt32), (((arg2 + (6 : Int32)).toInt8.toInt32).toInt8.toInt32), (((arg2 + (7 : Int32)).toInt8.toInt32).toInt8.toInt32), (((arg2 + (8 : Int32)).toInt8.toInt32).toInt8.toInt32), (((arg2 + (9 : Int32)).toInt8.toInt32).toInt8.toInt32), (((arg2 + (10 : Int32)).toInt8.toInt32).toInt8.toInt32), (((arg2 + (11 : Int32)).toInt8.toInt32).toInt8.toInt32), (((arg2 + (12 : Int32)).toInt8.toInt32).toInt8.toInt32), (((arg2 + (13 : Int32)).toInt8.toInt32).toInt8.toInt32), (((arg2 + (14 : Int32)).toInt8.toInt32).toInt8.toInt32), (((arg2 + (15 : Int32)).toInt8.toInt32).toInt8.toInt32)] (fun j => own_pin arg0 v7 v4 j.toInt32) h126 n0 z127 f130 f126_ q79_b13 u79 (own_w8r (own_w8 ev7)) (own_h2 ev8 hv10) (own_o7 ev12) rfl rfl (own_GG (own_bits hv4) (own_w8 ev7))) hZ (w_12 hw) (w_11 hw) (by decide) (by decide)) (g := (mkF m 474 #[(jV arg0), sV, (iV arg1), (iV arg2), (iV v1), (iV v4), (iV v7), (iV v8), (iV v10), (iV v12), (rV b13), (rV b79), (iV v129), uV, uV] [(.int v12), (.ref b79), (.int v4), (.int v10), (.int v7), (.ref b13)])) rfl (by rw [hml]; rfl) (argsL := [(.ref b13), (.int v7), (.int v10), (.int v4), (.ref b79), (.int v12)]) (rest := []) (lenOf own_pd6 rfl) rfl (by show 2 * 0 + _ ≤ _; exact Nat.le_of_eq rfl) (hb hby at_474) (fun _ _ => ⟨rfl, e126, (by decide : 2 + 0 ≤ _), (by decide : 32 + 0 ≤ _)⟩)
  dsimp only [Pt.U, Pt.locs, Pt.cells, Pt.slots] at X131 l131 y131_ z131_ st131 hQ131
  obtain rfl : k131 = 2 := y131_
  obtain rfl : j131 = 32 := z131_
  obtain ⟨r_131, w2_131, rfl, N131q, K131, p131_0, r131_0, r131_1⟩ := hQ131
  have N131 : Fr n0 L131 := by rw [l131]; exact Fr.app n128 N131q
  have z132 : n0 ≤ T131.heap.size := Nat.le_trans z127 K131.1
  refine own_st (B := T131.setTop (mkF m 477 #[(jV arg0), sV, (iV arg1), (iV arg2), (iV v1), (iV v4), (iV v7), (iV v8), (iV v10), (iV v12), (rV b13), (rV b79), (iV v129), uV, uV] [(.int r_131)])) (fun t k => st131 t k) ?_
  refine own_st (B := T131.setTop (mkF m 479 #[(jV arg0), sV, (iV arg1), (iV arg2), (iV v1), (iV v4), (iV v7), (iV v8), (iV v10), (iV v12), (rV b13), (rV b79), (iV v129), (iV r_131), uV] [])) (fun t k => XS.istore X131.here hx rfl (hb hby at_477) rfl (l' := #[(jV arg0), sV, (iV arg1), (iV arg2), (iV v1), (iV v4), (iV v7), (iV v8), (iV v10), (iV v12), (rV b13), (rV b79), (iV v129), (iV r_131), uV]) rfl k) ?_
  refine own_st (B := T131.setTop (mkF m 481 #[(jV arg0), sV, (iV arg1), (iV arg2), (iV v1), (iV v4), (iV v7), (iV v8), (iV v10), (iV v12), (rV b13), (rV b79), (iV v129), (iV r_131), uV] [(.int r_131)])) (fun t k => XS.iload X131.here hx rfl (hb hby at_479) rfl k) ?_
  refine own_st (B := T131.setTop (mkF m 483 #[(jV arg0), sV, (iV arg1), (iV arg2), (iV v1), (iV v4), (iV v7), (iV v8), (iV v10), (iV v12), (rV b13), (rV b79), (iV v129), (iV r_131), uV] [(.int v129), (.int r_131)])) (fun t k => XS.iload X131.here hx rfl (hb hby at_481) rfl k) ?_
  have hEN := own_en (own_bits hv4) (own_w8r (own_w8 ev7)) (own_h2 ev8 hv10) (own_o7 ev12) ev129
  have hRE : r_131.toInt = v129.toInt := by rw [hEN]; exact r131_0
  have hOW := r131_1
  have hEN2 := own_en2 (own_bits hv4) (own_w8r (own_w8 ev7)) (own_h2 ev8 hv10) hEN
  rw [hRE] at hOW
  have hc133 : r_131 = v129 := by
    exact Int32.toInt_inj.mp hRE
  refine own_st (B := T131.setTop (mkF m 486 #[(jV arg0), sV, (iV arg1), (iV arg2), (iV v1), (iV v4), (iV v7), (iV v8), (iV v10), (iV v12), (rV b13), (rV b79), (iV v129), (iV r_131), uV] [])) (fun t k => XS.icmpNo X131.here hx rfl (hb hby at_483) rfl (XT.ii_ne_f hc133) k) ?_
  refine own_st (B := T131.setTop (mkF m 487 #[(jV arg0), sV, (iV arg1), (iV arg2), (iV v1), (iV v4), (iV v7), (iV v8), (iV v10), (iV v12), (rV b13), (rV b79), (iV v129), (iV r_131), uV] [(.int (1 : Int32))])) (fun t k => XS.iconst X131.here hx rfl (hb hby at_486) k) ?_
  refine own_st (B := T131.setTop (mkF m 491 #[(jV arg0), sV, (iV arg1), (iV arg2), (iV v1), (iV v4), (iV v7), (iV v8), (iV v10), (iV v12), (rV b13), (rV b79), (iV v129), (iV r_131), uV] [(.int (1 : Int32))])) (fun t k => XS.goto X131.here hx rfl (pc0 := 487) (pc' := 491) rfl (hb hby at_487) (by decide) (by decide) k) ?_
  refine own_st (B := T131.setTop (mkF m 493 #[(jV arg0), sV, (iV arg1), (iV arg2), (iV v1), (iV v4), (iV v7), (iV v8), (iV v10), (iV v12), (rV b13), (rV b79), (iV v129), (iV r_131), (iV (1 : Int32))] [])) (fun t k => XS.istore X131.here hx rfl (hb hby at_491) rfl (l' := #[(jV arg0), sV, (iV arg1), (iV arg2), (iV v1), (iV v4), (iV v7), (iV v8), (iV v10), (iV v12), (rV b13), (rV b79), (iV v129), (iV r_131), (iV (1 : Int32))]) rfl k) ?_
  refine own_st (B := T131.setTop (mkF m 495 #[(jV arg0), sV, (iV arg1), (iV arg2), (iV v1), (iV v4), (iV v7), (iV v8), (iV v10), (iV v12), (rV b13), (rV b79), (iV v129), (iV r_131), (iV (1 : Int32))] [(.int (1 : Int32))])) (fun t k => XS.iload X131.here hx rfl (hb hby at_493) rfl k) ?_
  refine own_st (B := T131.setTop (mkF m 497 #[(jV arg0), sV, (iV arg1), (iV arg2), (iV v1), (iV v4), (iV v7), (iV v8), (iV v10), (iV v12), (rV b13), (rV b79), (iV v129), (iV r_131), (iV (1 : Int32))] [(.ref b79), (.int (1 : Int32))])) (fun t k => XS.aload X131.here hx rfl (hb hby at_495) rfl rfl k) ?_
  refine own_st (B := T131.setTop (mkF m 498 #[(jV arg0), sV, (iV arg1), (iV arg2), (iV v1), (iV v4), (iV v7), (iV v8), (iV v10), (iV v12), (rV b13), (rV b79), (iV v129), (iV r_131), (iV (1 : Int32))] [(.int (0 : Int32)), (.ref b79), (.int (1 : Int32))])) (fun t k => XS.iconst X131.here hx rfl (hb hby at_497) k) ?_
  refine own_st (B := T131.setTop (mkF m 499 #[(jV arg0), sV, (iV arg1), (iV arg2), (iV v1), (iV v4), (iV v7), (iV v8), (iV v10), (iV v12), (rV b13), (rV b79), (iV v129), (iV r_131), (iV (1 : Int32))] [(.long arg0), (.int (0 : Int32)), (.ref b79), (.int (1 : Int32))])) (fun t k => XS.lloadN X131.here hx rfl (hb hby at_498) rfl k) ?_
  refine own_st (B := T131.setTop (mkF m 501 #[(jV arg0), sV, (iV arg1), (iV arg2), (iV v1), (iV v4), (iV v7), (iV v8), (iV v10), (iV v12), (rV b13), (rV b79), (iV v129), (iV r_131), (iV (1 : Int32))] [(.int v7), (.long arg0), (.int (0 : Int32)), (.ref b79), (.int (1 : Int32))])) (fun t k => XS.iload X131.here hx rfl (hb hby at_499) rfl k) ?_
  refine own_st (B := T131.setTop (mkF m 503 #[(jV arg0), sV, (iV arg1), (iV arg2), (iV v1), (iV v4), (iV v7), (iV v8), (iV v10), (iV v12), (rV b13), (rV b79), (iV v129), (iV r_131), (iV (1 : Int32))] [(.int v4), (.int v7), (.long arg0), (.int (0 : Int32)), (.ref b79), (.int (1 : Int32))])) (fun t k => XS.iload X131.here hx rfl (hb hby at_501) rfl k) ?_
  refine own_st (B := T131.setTop (mkF m 505 #[(jV arg0), sV, (iV arg1), (iV arg2), (iV v1), (iV v4), (iV v7), (iV v8), (iV v10), (iV v12), (rV b13), (rV b79), (iV v129), (iV r_131), (iV (1 : Int32))] [(.int v12), (.int v4), (.int v7), (.long arg0), (.int (0 : Int32)), (.ref b79), (.int (1 : Int32))])) (fun t k => XS.iload X131.here hx rfl (hb hby at_503) rfl k) ?_
  refine own_st (B := T131.setTop (mkF m 507 #[(jV arg0), sV, (iV arg1), (iV arg2), (iV v1), (iV v4), (iV v7), (iV v8), (iV v10), (iV v12), (rV b13), (rV b79), (iV v129), (iV r_131), (iV (1 : Int32))] [(.int v129), (.int v12), (.int v4), (.int v7), (.long arg0), (.int (0 : Int32)), (.ref b79), (.int (1 : Int32))])) (fun t k => XS.iload X131.here hx rfl (hb hby at_505) rfl k) ?_
  refine own_st (B := T131.setTop (mkF m 508 #[(jV arg0), sV, (iV arg1), (iV arg2), (iV v1), (iV v4), (iV v7), (iV v8), (iV v10), (iV v12), (rV b13), (rV b79), (iV v129), (iV r_131), (iV (1 : Int32))] [(.int arg2), (.int v129), (.int v12), (.int v4), (.int v7), (.long arg0), (.int (0 : Int32)), (.ref b79), (.int (1 : Int32))])) (fun t k => XS.iloadN X131.here hx rfl (hb hby at_507) rfl k) ?_
  obtain ⟨_, _, ⟨T134, L134, k134, j134⟩, -, X134, ⟨Lc134, hQ134, l134, y134_, z134_⟩, st134⟩ := Jvm.LawKit.callS X131 hx (y := (⟨"com/example/relayframe/relayframe/PalettePackPinLaw", "same", "([BIJIIIII)Z"⟩ : MethodName)) hown (mvT hZ (w_13 hw)) (mvT hZ (w_14 hw)) (mvT hZ (w_7 hw)) (mvT hZ (w_15 hw)) (by decide) (backOf (W := 1) (rm4 l Z a0 hw [] b79 (0 : Int32) arg0 v7 v4 v12 v129 arg2 w2_131 0 T131.heap n0 z132 p131_0 (show (0 : Int32).toInt = (0 : Int) by decide) (own_b0 (own_bits hv4)) (own_nz (own_bits hv4) (own_w8r (own_w8 ev7)) hEN) (own_he (show (0 : Int32).toInt = ((0 : Nat) : Int) by decide) (by decide) (own_o7 ev12) hEN2 hOW rfl)) hZ (w_15 hw) (w_7 hw) (by decide) (by decide)) (g := (mkF m 508 #[(jV arg0), sV, (iV arg1), (iV arg2), (iV v1), (iV v4), (iV v7), (iV v8), (iV v10), (iV v12), (rV b13), (rV b79), (iV v129), (iV r_131), (iV (1 : Int32))] [(.int arg2), (.int v129), (.int v12), (.int v4), (.int v7), (.long arg0), (.int (0 : Int32)), (.ref b79), (.int (1 : Int32))])) rfl (by rw [hml]; rfl) (argsL := [(.ref b79), (.int (0 : Int32)), (.long arg0), (.int v7), (.int v4), (.int v12), (.int v129), (.int arg2)]) (rest := [(.int (1 : Int32))]) (lenOf own_pd7 rfl) rfl (by show 2 * 0 + _ ≤ _; exact Nat.le_of_eq rfl) (hb hby at_508) (fun _ _ => ⟨rfl, rfl, (by decide : 2 + 0 ≤ _), (by decide : 32 + 0 ≤ _)⟩)
  dsimp only [Pt.U, Pt.locs, Pt.cells, Pt.slots] at X134 l134 y134_ z134_ st134 hQ134
  obtain rfl : k134 = 2 := y134_
  obtain rfl : j134 = 32 := z134_
  obtain ⟨rfl, N134q, e134q⟩ := hQ134
  have N134 : Fr n0 L134 := by rw [l134]; exact Fr.app N131 N134q
  refine own_st (B := T134.setTop (mkF m 511 #[(jV arg0), sV, (iV arg1), (iV arg2), (iV v1), (iV v4), (iV v7), (iV v8), (iV v10), (iV v12), (rV b13), (rV b79), (iV v129), (iV r_131), (iV (1 : Int32))] [(.int (1 : Int32)), (.int (1 : Int32))])) (fun t k => st134 t k) ?_
  refine own_st (B := T134.setTop (mkF m 512 #[(jV arg0), sV, (iV arg1), (iV arg2), (iV v1), (iV v4), (iV v7), (iV v8), (iV v10), (iV v12), (rV b13), (rV b79), (iV v129), (iV r_131), (iV (1 : Int32))] [(.int ((1 : Int32) &&& (1 : Int32)))])) (fun t k => XS.iand X134.here hx rfl (hb hby at_511) rfl k) ?_
  rw [show ((1 : Int32) &&& (1 : Int32)) = (1 : Int32) from by decide]
  refine own_st (B := T134.setTop (mkF m 514 #[(jV arg0), sV, (iV arg1), (iV arg2), (iV v1), (iV v4), (iV v7), (iV v8), (iV v10), (iV v12), (rV b13), (rV b79), (iV v129), (iV r_131), (iV (1 : Int32))] [])) (fun t k => XS.istore X134.here hx rfl (hb hby at_512) rfl (l' := #[(jV arg0), sV, (iV arg1), (iV arg2), (iV v1), (iV v4), (iV v7), (iV v8), (iV v10), (iV v12), (rV b13), (rV b79), (iV v129), (iV r_131), (iV (1 : Int32))]) rfl k) ?_
  refine own_st (B := T134.setTop (mkF m 516 #[(jV arg0), sV, (iV arg1), (iV arg2), (iV v1), (iV v4), (iV v7), (iV v8), (iV v10), (iV v12), (rV b13), (rV b79), (iV v129), (iV r_131), (iV (1 : Int32))] [(.int (1 : Int32))])) (fun t k => XS.iload X134.here hx rfl (hb hby at_514) rfl k) ?_
  refine own_st (B := T134.setTop (mkF m 518 #[(jV arg0), sV, (iV arg1), (iV arg2), (iV v1), (iV v4), (iV v7), (iV v8), (iV v10), (iV v12), (rV b13), (rV b79), (iV v129), (iV r_131), (iV (1 : Int32))] [(.ref b79), (.int (1 : Int32))])) (fun t k => XS.aload X134.here hx rfl (hb hby at_516) rfl rfl k) ?_
  refine own_st (B := T134.setTop (mkF m 519 #[(jV arg0), sV, (iV arg1), (iV arg2), (iV v1), (iV v4), (iV v7), (iV v8), (iV v10), (iV v12), (rV b13), (rV b79), (iV v129), (iV r_131), (iV (1 : Int32))] [(.int (1 : Int32)), (.ref b79), (.int (1 : Int32))])) (fun t k => XS.iconst X134.here hx rfl (hb hby at_518) k) ?_
  refine own_st (B := T134.setTop (mkF m 520 #[(jV arg0), sV, (iV arg1), (iV arg2), (iV v1), (iV v4), (iV v7), (iV v8), (iV v10), (iV v12), (rV b13), (rV b79), (iV v129), (iV r_131), (iV (1 : Int32))] [(.long arg0), (.int (1 : Int32)), (.ref b79), (.int (1 : Int32))])) (fun t k => XS.lloadN X134.here hx rfl (hb hby at_519) rfl k) ?_
  refine own_st (B := T134.setTop (mkF m 522 #[(jV arg0), sV, (iV arg1), (iV arg2), (iV v1), (iV v4), (iV v7), (iV v8), (iV v10), (iV v12), (rV b13), (rV b79), (iV v129), (iV r_131), (iV (1 : Int32))] [(.int v7), (.long arg0), (.int (1 : Int32)), (.ref b79), (.int (1 : Int32))])) (fun t k => XS.iload X134.here hx rfl (hb hby at_520) rfl k) ?_
  refine own_st (B := T134.setTop (mkF m 524 #[(jV arg0), sV, (iV arg1), (iV arg2), (iV v1), (iV v4), (iV v7), (iV v8), (iV v10), (iV v12), (rV b13), (rV b79), (iV v129), (iV r_131), (iV (1 : Int32))] [(.int v4), (.int v7), (.long arg0), (.int (1 : Int32)), (.ref b79), (.int (1 : Int32))])) (fun t k => XS.iload X134.here hx rfl (hb hby at_522) rfl k) ?_
  refine own_st (B := T134.setTop (mkF m 526 #[(jV arg0), sV, (iV arg1), (iV arg2), (iV v1), (iV v4), (iV v7), (iV v8), (iV v10), (iV v12), (rV b13), (rV b79), (iV v129), (iV r_131), (iV (1 : Int32))] [(.int v12), (.int v4), (.int v7), (.long arg0), (.int (1 : Int32)), (.ref b79), (.int (1 : Int32))])) (fun t k => XS.iload X134.here hx rfl (hb hby at_524) rfl k) ?_
  refine own_st (B := T134.setTop (mkF m 528 #[(jV arg0), sV, (iV arg1), (iV arg2), (iV v1), (iV v4), (iV v7), (iV v8), (iV v10), (iV v12), (rV b13), (rV b79), (iV v129), (iV r_131), (iV (1 : Int32))] [(.int v129), (.int v12), (.int v4), (.int v7), (.long arg0), (.int (1 : Int32)), (.ref b79), (.int (1 : Int32))])) (fun t k => XS.iload X134.here hx rfl (hb hby at_526) rfl k) ?_
  refine own_st (B := T134.setTop (mkF m 529 #[(jV arg0), sV, (iV arg1), (iV arg2), (iV v1), (iV v4), (iV v7), (iV v8), (iV v10), (iV v12), (rV b13), (rV b79), (iV v129), (iV r_131), (iV (1 : Int32))] [(.int arg2), (.int v129), (.int v12), (.int v4), (.int v7), (.long arg0), (.int (1 : Int32)), (.ref b79), (.int (1 : Int32))])) (fun t k => XS.iloadN X134.here hx rfl (hb hby at_528) rfl k) ?_
  obtain ⟨_, _, ⟨T135, L135, k135, j135⟩, -, X135, ⟨Lc135, hQ135, l135, y135_, z135_⟩, st135⟩ := Jvm.LawKit.callS X134 hx (y := (⟨"com/example/relayframe/relayframe/PalettePackPinLaw", "same", "([BIJIIIII)Z"⟩ : MethodName)) hown (mvT hZ (w_13 hw)) (mvT hZ (w_14 hw)) (mvT hZ (w_7 hw)) (mvT hZ (w_15 hw)) (by decide) (backOf (W := 1) (rm4 l Z a0 hw [] b79 (1 : Int32) arg0 v7 v4 v12 v129 arg2 w2_131 1 T131.heap n0 z132 p131_0 (show (1 : Int32).toInt = (1 : Int) by decide) (own_b0 (own_bits hv4)) (own_nz (own_bits hv4) (own_w8r (own_w8 ev7)) hEN) (own_he (show (1 : Int32).toInt = ((1 : Nat) : Int) by decide) (by decide) (own_o7 ev12) hEN2 hOW rfl)) hZ (w_15 hw) (w_7 hw) (by decide) (by decide)) (g := (mkF m 529 #[(jV arg0), sV, (iV arg1), (iV arg2), (iV v1), (iV v4), (iV v7), (iV v8), (iV v10), (iV v12), (rV b13), (rV b79), (iV v129), (iV r_131), (iV (1 : Int32))] [(.int arg2), (.int v129), (.int v12), (.int v4), (.int v7), (.long arg0), (.int (1 : Int32)), (.ref b79), (.int (1 : Int32))])) rfl (by rw [hml]; rfl) (argsL := [(.ref b79), (.int (1 : Int32)), (.long arg0), (.int v7), (.int v4), (.int v12), (.int v129), (.int arg2)]) (rest := [(.int (1 : Int32))]) (lenOf own_pd7 rfl) rfl (by show 2 * 0 + _ ≤ _; exact Nat.le_of_eq rfl) (hb hby at_529) (fun _ _ => ⟨rfl, e134q, (by decide : 2 + 0 ≤ _), (by decide : 32 + 0 ≤ _)⟩)
  dsimp only [Pt.U, Pt.locs, Pt.cells, Pt.slots] at X135 l135 y135_ z135_ st135 hQ135
  obtain rfl : k135 = 2 := y135_
  obtain rfl : j135 = 32 := z135_
  obtain ⟨rfl, N135q, e135q⟩ := hQ135
  have N135 : Fr n0 L135 := by rw [l135]; exact Fr.app N134 N135q
  refine own_st (B := T135.setTop (mkF m 532 #[(jV arg0), sV, (iV arg1), (iV arg2), (iV v1), (iV v4), (iV v7), (iV v8), (iV v10), (iV v12), (rV b13), (rV b79), (iV v129), (iV r_131), (iV (1 : Int32))] [(.int (1 : Int32)), (.int (1 : Int32))])) (fun t k => st135 t k) ?_
  refine own_st (B := T135.setTop (mkF m 533 #[(jV arg0), sV, (iV arg1), (iV arg2), (iV v1), (iV v4), (iV v7), (iV v8), (iV v10), (iV v12), (rV b13), (rV b79), (iV v129), (iV r_131), (iV (1 : Int32))] [(.int ((1 : Int32) &&& (1 : Int32)))])) (fun t k => XS.iand X135.here hx rfl (hb hby at_532) rfl k) ?_
  rw [show ((1 : Int32) &&& (1 : Int32)) = (1 : Int32) from by decide]
  refine own_st (B := T135.setTop (mkF m 535 #[(jV arg0), sV, (iV arg1), (iV arg2), (iV v1), (iV v4), (iV v7), (iV v8), (iV v10), (iV v12), (rV b13), (rV b79), (iV v129), (iV r_131), (iV (1 : Int32))] [])) (fun t k => XS.istore X135.here hx rfl (hb hby at_533) rfl (l' := #[(jV arg0), sV, (iV arg1), (iV arg2), (iV v1), (iV v4), (iV v7), (iV v8), (iV v10), (iV v12), (rV b13), (rV b79), (iV v129), (iV r_131), (iV (1 : Int32))]) rfl k) ?_
  refine own_st (B := T135.setTop (mkF m 537 #[(jV arg0), sV, (iV arg1), (iV arg2), (iV v1), (iV v4), (iV v7), (iV v8), (iV v10), (iV v12), (rV b13), (rV b79), (iV v129), (iV r_131), (iV (1 : Int32))] [(.int (1 : Int32))])) (fun t k => XS.iload X135.here hx rfl (hb hby at_535) rfl k) ?_
  refine own_st (B := T135.setTop (mkF m 539 #[(jV arg0), sV, (iV arg1), (iV arg2), (iV v1), (iV v4), (iV v7), (iV v8), (iV v10), (iV v12), (rV b13), (rV b79), (iV v129), (iV r_131), (iV (1 : Int32))] [(.ref b79), (.int (1 : Int32))])) (fun t k => XS.aload X135.here hx rfl (hb hby at_537) rfl rfl k) ?_
  refine own_st (B := T135.setTop (mkF m 540 #[(jV arg0), sV, (iV arg1), (iV arg2), (iV v1), (iV v4), (iV v7), (iV v8), (iV v10), (iV v12), (rV b13), (rV b79), (iV v129), (iV r_131), (iV (1 : Int32))] [(.int (2 : Int32)), (.ref b79), (.int (1 : Int32))])) (fun t k => XS.iconst X135.here hx rfl (hb hby at_539) k) ?_
  refine own_st (B := T135.setTop (mkF m 541 #[(jV arg0), sV, (iV arg1), (iV arg2), (iV v1), (iV v4), (iV v7), (iV v8), (iV v10), (iV v12), (rV b13), (rV b79), (iV v129), (iV r_131), (iV (1 : Int32))] [(.long arg0), (.int (2 : Int32)), (.ref b79), (.int (1 : Int32))])) (fun t k => XS.lloadN X135.here hx rfl (hb hby at_540) rfl k) ?_
  refine own_st (B := T135.setTop (mkF m 543 #[(jV arg0), sV, (iV arg1), (iV arg2), (iV v1), (iV v4), (iV v7), (iV v8), (iV v10), (iV v12), (rV b13), (rV b79), (iV v129), (iV r_131), (iV (1 : Int32))] [(.int v7), (.long arg0), (.int (2 : Int32)), (.ref b79), (.int (1 : Int32))])) (fun t k => XS.iload X135.here hx rfl (hb hby at_541) rfl k) ?_
  refine own_st (B := T135.setTop (mkF m 545 #[(jV arg0), sV, (iV arg1), (iV arg2), (iV v1), (iV v4), (iV v7), (iV v8), (iV v10), (iV v12), (rV b13), (rV b79), (iV v129), (iV r_131), (iV (1 : Int32))] [(.int v4), (.int v7), (.long arg0), (.int (2 : Int32)), (.ref b79), (.int (1 : Int32))])) (fun t k => XS.iload X135.here hx rfl (hb hby at_543) rfl k) ?_
  refine own_st (B := T135.setTop (mkF m 547 #[(jV arg0), sV, (iV arg1), (iV arg2), (iV v1), (iV v4), (iV v7), (iV v8), (iV v10), (iV v12), (rV b13), (rV b79), (iV v129), (iV r_131), (iV (1 : Int32))] [(.int v12), (.int v4), (.int v7), (.long arg0), (.int (2 : Int32)), (.ref b79), (.int (1 : Int32))])) (fun t k => XS.iload X135.here hx rfl (hb hby at_545) rfl k) ?_
  refine own_st (B := T135.setTop (mkF m 549 #[(jV arg0), sV, (iV arg1), (iV arg2), (iV v1), (iV v4), (iV v7), (iV v8), (iV v10), (iV v12), (rV b13), (rV b79), (iV v129), (iV r_131), (iV (1 : Int32))] [(.int v129), (.int v12), (.int v4), (.int v7), (.long arg0), (.int (2 : Int32)), (.ref b79), (.int (1 : Int32))])) (fun t k => XS.iload X135.here hx rfl (hb hby at_547) rfl k) ?_
  refine own_st (B := T135.setTop (mkF m 550 #[(jV arg0), sV, (iV arg1), (iV arg2), (iV v1), (iV v4), (iV v7), (iV v8), (iV v10), (iV v12), (rV b13), (rV b79), (iV v129), (iV r_131), (iV (1 : Int32))] [(.int arg2), (.int v129), (.int v12), (.int v4), (.int v7), (.long arg0), (.int (2 : Int32)), (.ref b79), (.int (1 : Int32))])) (fun t k => XS.iloadN X135.here hx rfl (hb hby at_549) rfl k) ?_
  obtain ⟨_, _, ⟨T136, L136, k136, j136⟩, -, X136, ⟨Lc136, hQ136, l136, y136_, z136_⟩, st136⟩ := Jvm.LawKit.callS X135 hx (y := (⟨"com/example/relayframe/relayframe/PalettePackPinLaw", "same", "([BIJIIIII)Z"⟩ : MethodName)) hown (mvT hZ (w_13 hw)) (mvT hZ (w_14 hw)) (mvT hZ (w_7 hw)) (mvT hZ (w_15 hw)) (by decide) (backOf (W := 1) (rm4 l Z a0 hw [] b79 (2 : Int32) arg0 v7 v4 v12 v129 arg2 w2_131 2 T131.heap n0 z132 p131_0 (show (2 : Int32).toInt = (2 : Int) by decide) (own_b0 (own_bits hv4)) (own_nz (own_bits hv4) (own_w8r (own_w8 ev7)) hEN) (own_he (show (2 : Int32).toInt = ((2 : Nat) : Int) by decide) (by decide) (own_o7 ev12) hEN2 hOW rfl)) hZ (w_15 hw) (w_7 hw) (by decide) (by decide)) (g := (mkF m 550 #[(jV arg0), sV, (iV arg1), (iV arg2), (iV v1), (iV v4), (iV v7), (iV v8), (iV v10), (iV v12), (rV b13), (rV b79), (iV v129), (iV r_131), (iV (1 : Int32))] [(.int arg2), (.int v129), (.int v12), (.int v4), (.int v7), (.long arg0), (.int (2 : Int32)), (.ref b79), (.int (1 : Int32))])) rfl (by rw [hml]; rfl) (argsL := [(.ref b79), (.int (2 : Int32)), (.long arg0), (.int v7), (.int v4), (.int v12), (.int v129), (.int arg2)]) (rest := [(.int (1 : Int32))]) (lenOf own_pd7 rfl) rfl (by show 2 * 0 + _ ≤ _; exact Nat.le_of_eq rfl) (hb hby at_550) (fun _ _ => ⟨rfl, e135q, (by decide : 2 + 0 ≤ _), (by decide : 32 + 0 ≤ _)⟩)
  dsimp only [Pt.U, Pt.locs, Pt.cells, Pt.slots] at X136 l136 y136_ z136_ st136 hQ136
  obtain rfl : k136 = 2 := y136_
  obtain rfl : j136 = 32 := z136_
  obtain ⟨rfl, N136q, e136q⟩ := hQ136
  have N136 : Fr n0 L136 := by rw [l136]; exact Fr.app N135 N136q
  refine own_st (B := T136.setTop (mkF m 553 #[(jV arg0), sV, (iV arg1), (iV arg2), (iV v1), (iV v4), (iV v7), (iV v8), (iV v10), (iV v12), (rV b13), (rV b79), (iV v129), (iV r_131), (iV (1 : Int32))] [(.int (1 : Int32)), (.int (1 : Int32))])) (fun t k => st136 t k) ?_
  refine own_st (B := T136.setTop (mkF m 554 #[(jV arg0), sV, (iV arg1), (iV arg2), (iV v1), (iV v4), (iV v7), (iV v8), (iV v10), (iV v12), (rV b13), (rV b79), (iV v129), (iV r_131), (iV (1 : Int32))] [(.int ((1 : Int32) &&& (1 : Int32)))])) (fun t k => XS.iand X136.here hx rfl (hb hby at_553) rfl k) ?_
  rw [show ((1 : Int32) &&& (1 : Int32)) = (1 : Int32) from by decide]
  refine own_st (B := T136.setTop (mkF m 556 #[(jV arg0), sV, (iV arg1), (iV arg2), (iV v1), (iV v4), (iV v7), (iV v8), (iV v10), (iV v12), (rV b13), (rV b79), (iV v129), (iV r_131), (iV (1 : Int32))] [])) (fun t k => XS.istore X136.here hx rfl (hb hby at_554) rfl (l' := #[(jV arg0), sV, (iV arg1), (iV arg2), (iV v1), (iV v4), (iV v7), (iV v8), (iV v10), (iV v12), (rV b13), (rV b79), (iV v129), (iV r_131), (iV (1 : Int32))]) rfl k) ?_
  refine own_st (B := T136.setTop (mkF m 558 #[(jV arg0), sV, (iV arg1), (iV arg2), (iV v1), (iV v4), (iV v7), (iV v8), (iV v10), (iV v12), (rV b13), (rV b79), (iV v129), (iV r_131), (iV (1 : Int32))] [(.int (1 : Int32))])) (fun t k => XS.iload X136.here hx rfl (hb hby at_556) rfl k) ?_
  refine own_st (B := T136.setTop (mkF m 560 #[(jV arg0), sV, (iV arg1), (iV arg2), (iV v1), (iV v4), (iV v7), (iV v8), (iV v10), (iV v12), (rV b13), (rV b79), (iV v129), (iV r_131), (iV (1 : Int32))] [(.ref b79), (.int (1 : Int32))])) (fun t k => XS.aload X136.here hx rfl (hb hby at_558) rfl rfl k) ?_
  refine own_st (B := T136.setTop (mkF m 561 #[(jV arg0), sV, (iV arg1), (iV arg2), (iV v1), (iV v4), (iV v7), (iV v8), (iV v10), (iV v12), (rV b13), (rV b79), (iV v129), (iV r_131), (iV (1 : Int32))] [(.int (3 : Int32)), (.ref b79), (.int (1 : Int32))])) (fun t k => XS.iconst X136.here hx rfl (hb hby at_560) k) ?_
  refine own_st (B := T136.setTop (mkF m 562 #[(jV arg0), sV, (iV arg1), (iV arg2), (iV v1), (iV v4), (iV v7), (iV v8), (iV v10), (iV v12), (rV b13), (rV b79), (iV v129), (iV r_131), (iV (1 : Int32))] [(.long arg0), (.int (3 : Int32)), (.ref b79), (.int (1 : Int32))])) (fun t k => XS.lloadN X136.here hx rfl (hb hby at_561) rfl k) ?_
  refine own_st (B := T136.setTop (mkF m 564 #[(jV arg0), sV, (iV arg1), (iV arg2), (iV v1), (iV v4), (iV v7), (iV v8), (iV v10), (iV v12), (rV b13), (rV b79), (iV v129), (iV r_131), (iV (1 : Int32))] [(.int v7), (.long arg0), (.int (3 : Int32)), (.ref b79), (.int (1 : Int32))])) (fun t k => XS.iload X136.here hx rfl (hb hby at_562) rfl k) ?_
  refine own_st (B := T136.setTop (mkF m 566 #[(jV arg0), sV, (iV arg1), (iV arg2), (iV v1), (iV v4), (iV v7), (iV v8), (iV v10), (iV v12), (rV b13), (rV b79), (iV v129), (iV r_131), (iV (1 : Int32))] [(.int v4), (.int v7), (.long arg0), (.int (3 : Int32)), (.ref b79), (.int (1 : Int32))])) (fun t k => XS.iload X136.here hx rfl (hb hby at_564) rfl k) ?_
  refine own_st (B := T136.setTop (mkF m 568 #[(jV arg0), sV, (iV arg1), (iV arg2), (iV v1), (iV v4), (iV v7), (iV v8), (iV v10), (iV v12), (rV b13), (rV b79), (iV v129), (iV r_131), (iV (1 : Int32))] [(.int v12), (.int v4), (.int v7), (.long arg0), (.int (3 : Int32)), (.ref b79), (.int (1 : Int32))])) (fun t k => XS.iload X136.here hx rfl (hb hby at_566) rfl k) ?_
  refine own_st (B := T136.setTop (mkF m 570 #[(jV arg0), sV, (iV arg1), (iV arg2), (iV v1), (iV v4), (iV v7), (iV v8), (iV v10), (iV v12), (rV b13), (rV b79), (iV v129), (iV r_131), (iV (1 : Int32))] [(.int v129), (.int v12), (.int v4), (.int v7), (.long arg0), (.int (3 : Int32)), (.ref b79), (.int (1 : Int32))])) (fun t k => XS.iload X136.here hx rfl (hb hby at_568) rfl k) ?_
  refine own_st (B := T136.setTop (mkF m 571 #[(jV arg0), sV, (iV arg1), (iV arg2), (iV v1), (iV v4), (iV v7), (iV v8), (iV v10), (iV v12), (rV b13), (rV b79), (iV v129), (iV r_131), (iV (1 : Int32))] [(.int arg2), (.int v129), (.int v12), (.int v4), (.int v7), (.long arg0), (.int (3 : Int32)), (.ref b79), (.int (1 : Int32))])) (fun t k => XS.iloadN X136.here hx rfl (hb hby at_570) rfl k) ?_
  obtain ⟨_, _, ⟨T137, L137, k137, j137⟩, -, X137, ⟨Lc137, hQ137, l137, y137_, z137_⟩, st137⟩ := Jvm.LawKit.callS X136 hx (y := (⟨"com/example/relayframe/relayframe/PalettePackPinLaw", "same", "([BIJIIIII)Z"⟩ : MethodName)) hown (mvT hZ (w_13 hw)) (mvT hZ (w_14 hw)) (mvT hZ (w_7 hw)) (mvT hZ (w_15 hw)) (by decide) (backOf (W := 1) (rm4 l Z a0 hw [] b79 (3 : Int32) arg0 v7 v4 v12 v129 arg2 w2_131 3 T131.heap n0 z132 p131_0 (show (3 : Int32).toInt = (3 : Int) by decide) (own_b0 (own_bits hv4)) (own_nz (own_bits hv4) (own_w8r (own_w8 ev7)) hEN) (own_he (show (3 : Int32).toInt = ((3 : Nat) : Int) by decide) (by decide) (own_o7 ev12) hEN2 hOW rfl)) hZ (w_15 hw) (w_7 hw) (by decide) (by decide)) (g := (mkF m 571 #[(jV arg0), sV, (iV arg1), (iV arg2), (iV v1), (iV v4), (iV v7), (iV v8), (iV v10), (iV v12), (rV b13), (rV b79), (iV v129), (iV r_131), (iV (1 : Int32))] [(.int arg2), (.int v129), (.int v12), (.int v4), (.int v7), (.long arg0), (.int (3 : Int32)), (.ref b79), (.int (1 : Int32))])) rfl (by rw [hml]; rfl) (argsL := [(.ref b79), (.int (3 : Int32)), (.long arg0), (.int v7), (.int v4), (.int v12), (.int v129), (.int arg2)]) (rest := [(.int (1 : Int32))]) (lenOf own_pd7 rfl) rfl (by show 2 * 0 + _ ≤ _; exact Nat.le_of_eq rfl) (hb hby at_571) (fun _ _ => ⟨rfl, e136q, (by decide : 2 + 0 ≤ _), (by decide : 32 + 0 ≤ _)⟩)
  dsimp only [Pt.U, Pt.locs, Pt.cells, Pt.slots] at X137 l137 y137_ z137_ st137 hQ137
  obtain rfl : k137 = 2 := y137_
  obtain rfl : j137 = 32 := z137_
  obtain ⟨rfl, N137q, e137q⟩ := hQ137
  have N137 : Fr n0 L137 := by rw [l137]; exact Fr.app N136 N137q
  refine own_st (B := T137.setTop (mkF m 574 #[(jV arg0), sV, (iV arg1), (iV arg2), (iV v1), (iV v4), (iV v7), (iV v8), (iV v10), (iV v12), (rV b13), (rV b79), (iV v129), (iV r_131), (iV (1 : Int32))] [(.int (1 : Int32)), (.int (1 : Int32))])) (fun t k => st137 t k) ?_
  refine own_st (B := T137.setTop (mkF m 575 #[(jV arg0), sV, (iV arg1), (iV arg2), (iV v1), (iV v4), (iV v7), (iV v8), (iV v10), (iV v12), (rV b13), (rV b79), (iV v129), (iV r_131), (iV (1 : Int32))] [(.int ((1 : Int32) &&& (1 : Int32)))])) (fun t k => XS.iand X137.here hx rfl (hb hby at_574) rfl k) ?_
  rw [show ((1 : Int32) &&& (1 : Int32)) = (1 : Int32) from by decide]
  refine own_st (B := T137.setTop (mkF m 577 #[(jV arg0), sV, (iV arg1), (iV arg2), (iV v1), (iV v4), (iV v7), (iV v8), (iV v10), (iV v12), (rV b13), (rV b79), (iV v129), (iV r_131), (iV (1 : Int32))] [])) (fun t k => XS.istore X137.here hx rfl (hb hby at_575) rfl (l' := #[(jV arg0), sV, (iV arg1), (iV arg2), (iV v1), (iV v4), (iV v7), (iV v8), (iV v10), (iV v12), (rV b13), (rV b79), (iV v129), (iV r_131), (iV (1 : Int32))]) rfl k) ?_
  refine own_st (B := T137.setTop (mkF m 579 #[(jV arg0), sV, (iV arg1), (iV arg2), (iV v1), (iV v4), (iV v7), (iV v8), (iV v10), (iV v12), (rV b13), (rV b79), (iV v129), (iV r_131), (iV (1 : Int32))] [(.int (1 : Int32))])) (fun t k => XS.iload X137.here hx rfl (hb hby at_577) rfl k) ?_
  refine own_st (B := T137.setTop (mkF m 581 #[(jV arg0), sV, (iV arg1), (iV arg2), (iV v1), (iV v4), (iV v7), (iV v8), (iV v10), (iV v12), (rV b13), (rV b79), (iV v129), (iV r_131), (iV (1 : Int32))] [(.ref b79), (.int (1 : Int32))])) (fun t k => XS.aload X137.here hx rfl (hb hby at_579) rfl rfl k) ?_
  refine own_st (B := T137.setTop (mkF m 582 #[(jV arg0), sV, (iV arg1), (iV arg2), (iV v1), (iV v4), (iV v7), (iV v8), (iV v10), (iV v12), (rV b13), (rV b79), (iV v129), (iV r_131), (iV (1 : Int32))] [(.int (4 : Int32)), (.ref b79), (.int (1 : Int32))])) (fun t k => XS.iconst X137.here hx rfl (hb hby at_581) k) ?_
  refine own_st (B := T137.setTop (mkF m 583 #[(jV arg0), sV, (iV arg1), (iV arg2), (iV v1), (iV v4), (iV v7), (iV v8), (iV v10), (iV v12), (rV b13), (rV b79), (iV v129), (iV r_131), (iV (1 : Int32))] [(.long arg0), (.int (4 : Int32)), (.ref b79), (.int (1 : Int32))])) (fun t k => XS.lloadN X137.here hx rfl (hb hby at_582) rfl k) ?_
  refine own_st (B := T137.setTop (mkF m 585 #[(jV arg0), sV, (iV arg1), (iV arg2), (iV v1), (iV v4), (iV v7), (iV v8), (iV v10), (iV v12), (rV b13), (rV b79), (iV v129), (iV r_131), (iV (1 : Int32))] [(.int v7), (.long arg0), (.int (4 : Int32)), (.ref b79), (.int (1 : Int32))])) (fun t k => XS.iload X137.here hx rfl (hb hby at_583) rfl k) ?_
  refine own_st (B := T137.setTop (mkF m 587 #[(jV arg0), sV, (iV arg1), (iV arg2), (iV v1), (iV v4), (iV v7), (iV v8), (iV v10), (iV v12), (rV b13), (rV b79), (iV v129), (iV r_131), (iV (1 : Int32))] [(.int v4), (.int v7), (.long arg0), (.int (4 : Int32)), (.ref b79), (.int (1 : Int32))])) (fun t k => XS.iload X137.here hx rfl (hb hby at_585) rfl k) ?_
  refine own_st (B := T137.setTop (mkF m 589 #[(jV arg0), sV, (iV arg1), (iV arg2), (iV v1), (iV v4), (iV v7), (iV v8), (iV v10), (iV v12), (rV b13), (rV b79), (iV v129), (iV r_131), (iV (1 : Int32))] [(.int v12), (.int v4), (.int v7), (.long arg0), (.int (4 : Int32)), (.ref b79), (.int (1 : Int32))])) (fun t k => XS.iload X137.here hx rfl (hb hby at_587) rfl k) ?_
  refine own_st (B := T137.setTop (mkF m 591 #[(jV arg0), sV, (iV arg1), (iV arg2), (iV v1), (iV v4), (iV v7), (iV v8), (iV v10), (iV v12), (rV b13), (rV b79), (iV v129), (iV r_131), (iV (1 : Int32))] [(.int v129), (.int v12), (.int v4), (.int v7), (.long arg0), (.int (4 : Int32)), (.ref b79), (.int (1 : Int32))])) (fun t k => XS.iload X137.here hx rfl (hb hby at_589) rfl k) ?_
  refine own_st (B := T137.setTop (mkF m 592 #[(jV arg0), sV, (iV arg1), (iV arg2), (iV v1), (iV v4), (iV v7), (iV v8), (iV v10), (iV v12), (rV b13), (rV b79), (iV v129), (iV r_131), (iV (1 : Int32))] [(.int arg2), (.int v129), (.int v12), (.int v4), (.int v7), (.long arg0), (.int (4 : Int32)), (.ref b79), (.int (1 : Int32))])) (fun t k => XS.iloadN X137.here hx rfl (hb hby at_591) rfl k) ?_
  obtain ⟨_, _, ⟨T138, L138, k138, j138⟩, -, X138, ⟨Lc138, hQ138, l138, y138_, z138_⟩, st138⟩ := Jvm.LawKit.callS X137 hx (y := (⟨"com/example/relayframe/relayframe/PalettePackPinLaw", "same", "([BIJIIIII)Z"⟩ : MethodName)) hown (mvT hZ (w_13 hw)) (mvT hZ (w_14 hw)) (mvT hZ (w_7 hw)) (mvT hZ (w_15 hw)) (by decide) (backOf (W := 1) (rm4 l Z a0 hw [] b79 (4 : Int32) arg0 v7 v4 v12 v129 arg2 w2_131 4 T131.heap n0 z132 p131_0 (show (4 : Int32).toInt = (4 : Int) by decide) (own_b0 (own_bits hv4)) (own_nz (own_bits hv4) (own_w8r (own_w8 ev7)) hEN) (own_he (show (4 : Int32).toInt = ((4 : Nat) : Int) by decide) (by decide) (own_o7 ev12) hEN2 hOW rfl)) hZ (w_15 hw) (w_7 hw) (by decide) (by decide)) (g := (mkF m 592 #[(jV arg0), sV, (iV arg1), (iV arg2), (iV v1), (iV v4), (iV v7), (iV v8), (iV v10), (iV v12), (rV b13), (rV b79), (iV v129), (iV r_131), (iV (1 : Int32))] [(.int arg2), (.int v129), (.int v12), (.int v4), (.int v7), (.long arg0), (.int (4 : Int32)), (.ref b79), (.int (1 : Int32))])) rfl (by rw [hml]; rfl) (argsL := [(.ref b79), (.int (4 : Int32)), (.long arg0), (.int v7), (.int v4), (.int v12), (.int v129), (.int arg2)]) (rest := [(.int (1 : Int32))]) (lenOf own_pd7 rfl) rfl (by show 2 * 0 + _ ≤ _; exact Nat.le_of_eq rfl) (hb hby at_592) (fun _ _ => ⟨rfl, e137q, (by decide : 2 + 0 ≤ _), (by decide : 32 + 0 ≤ _)⟩)
  dsimp only [Pt.U, Pt.locs, Pt.cells, Pt.slots] at X138 l138 y138_ z138_ st138 hQ138
  obtain rfl : k138 = 2 := y138_
  obtain rfl : j138 = 32 := z138_
  obtain ⟨rfl, N138q, e138q⟩ := hQ138
  have N138 : Fr n0 L138 := by rw [l138]; exact Fr.app N137 N138q
  refine own_st (B := T138.setTop (mkF m 595 #[(jV arg0), sV, (iV arg1), (iV arg2), (iV v1), (iV v4), (iV v7), (iV v8), (iV v10), (iV v12), (rV b13), (rV b79), (iV v129), (iV r_131), (iV (1 : Int32))] [(.int (1 : Int32)), (.int (1 : Int32))])) (fun t k => st138 t k) ?_
  refine own_st (B := T138.setTop (mkF m 596 #[(jV arg0), sV, (iV arg1), (iV arg2), (iV v1), (iV v4), (iV v7), (iV v8), (iV v10), (iV v12), (rV b13), (rV b79), (iV v129), (iV r_131), (iV (1 : Int32))] [(.int ((1 : Int32) &&& (1 : Int32)))])) (fun t k => XS.iand X138.here hx rfl (hb hby at_595) rfl k) ?_
  rw [show ((1 : Int32) &&& (1 : Int32)) = (1 : Int32) from by decide]
  refine own_st (B := T138.setTop (mkF m 598 #[(jV arg0), sV, (iV arg1), (iV arg2), (iV v1), (iV v4), (iV v7), (iV v8), (iV v10), (iV v12), (rV b13), (rV b79), (iV v129), (iV r_131), (iV (1 : Int32))] [])) (fun t k => XS.istore X138.here hx rfl (hb hby at_596) rfl (l' := #[(jV arg0), sV, (iV arg1), (iV arg2), (iV v1), (iV v4), (iV v7), (iV v8), (iV v10), (iV v12), (rV b13), (rV b79), (iV v129), (iV r_131), (iV (1 : Int32))]) rfl k) ?_
  refine own_st (B := T138.setTop (mkF m 600 #[(jV arg0), sV, (iV arg1), (iV arg2), (iV v1), (iV v4), (iV v7), (iV v8), (iV v10), (iV v12), (rV b13), (rV b79), (iV v129), (iV r_131), (iV (1 : Int32))] [(.int (1 : Int32))])) (fun t k => XS.iload X138.here hx rfl (hb hby at_598) rfl k) ?_
  refine own_st (B := T138.setTop (mkF m 602 #[(jV arg0), sV, (iV arg1), (iV arg2), (iV v1), (iV v4), (iV v7), (iV v8), (iV v10), (iV v12), (rV b13), (rV b79), (iV v129), (iV r_131), (iV (1 : Int32))] [(.ref b79), (.int (1 : Int32))])) (fun t k => XS.aload X138.here hx rfl (hb hby at_600) rfl rfl k) ?_
  refine own_st (B := T138.setTop (mkF m 603 #[(jV arg0), sV, (iV arg1), (iV arg2), (iV v1), (iV v4), (iV v7), (iV v8), (iV v10), (iV v12), (rV b13), (rV b79), (iV v129), (iV r_131), (iV (1 : Int32))] [(.int (5 : Int32)), (.ref b79), (.int (1 : Int32))])) (fun t k => XS.iconst X138.here hx rfl (hb hby at_602) k) ?_
  refine own_st (B := T138.setTop (mkF m 604 #[(jV arg0), sV, (iV arg1), (iV arg2), (iV v1), (iV v4), (iV v7), (iV v8), (iV v10), (iV v12), (rV b13), (rV b79), (iV v129), (iV r_131), (iV (1 : Int32))] [(.long arg0), (.int (5 : Int32)), (.ref b79), (.int (1 : Int32))])) (fun t k => XS.lloadN X138.here hx rfl (hb hby at_603) rfl k) ?_
  refine own_st (B := T138.setTop (mkF m 606 #[(jV arg0), sV, (iV arg1), (iV arg2), (iV v1), (iV v4), (iV v7), (iV v8), (iV v10), (iV v12), (rV b13), (rV b79), (iV v129), (iV r_131), (iV (1 : Int32))] [(.int v7), (.long arg0), (.int (5 : Int32)), (.ref b79), (.int (1 : Int32))])) (fun t k => XS.iload X138.here hx rfl (hb hby at_604) rfl k) ?_
  refine own_st (B := T138.setTop (mkF m 608 #[(jV arg0), sV, (iV arg1), (iV arg2), (iV v1), (iV v4), (iV v7), (iV v8), (iV v10), (iV v12), (rV b13), (rV b79), (iV v129), (iV r_131), (iV (1 : Int32))] [(.int v4), (.int v7), (.long arg0), (.int (5 : Int32)), (.ref b79), (.int (1 : Int32))])) (fun t k => XS.iload X138.here hx rfl (hb hby at_606) rfl k) ?_
  refine own_st (B := T138.setTop (mkF m 610 #[(jV arg0), sV, (iV arg1), (iV arg2), (iV v1), (iV v4), (iV v7), (iV v8), (iV v10), (iV v12), (rV b13), (rV b79), (iV v129), (iV r_131), (iV (1 : Int32))] [(.int v12), (.int v4), (.int v7), (.long arg0), (.int (5 : Int32)), (.ref b79), (.int (1 : Int32))])) (fun t k => XS.iload X138.here hx rfl (hb hby at_608) rfl k) ?_
  refine own_st (B := T138.setTop (mkF m 612 #[(jV arg0), sV, (iV arg1), (iV arg2), (iV v1), (iV v4), (iV v7), (iV v8), (iV v10), (iV v12), (rV b13), (rV b79), (iV v129), (iV r_131), (iV (1 : Int32))] [(.int v129), (.int v12), (.int v4), (.int v7), (.long arg0), (.int (5 : Int32)), (.ref b79), (.int (1 : Int32))])) (fun t k => XS.iload X138.here hx rfl (hb hby at_610) rfl k) ?_
  refine own_st (B := T138.setTop (mkF m 613 #[(jV arg0), sV, (iV arg1), (iV arg2), (iV v1), (iV v4), (iV v7), (iV v8), (iV v10), (iV v12), (rV b13), (rV b79), (iV v129), (iV r_131), (iV (1 : Int32))] [(.int arg2), (.int v129), (.int v12), (.int v4), (.int v7), (.long arg0), (.int (5 : Int32)), (.ref b79), (.int (1 : Int32))])) (fun t k => XS.iloadN X138.here hx rfl (hb hby at_612) rfl k) ?_
  obtain ⟨_, _, ⟨T139, L139, k139, j139⟩, -, X139, ⟨Lc139, hQ139, l139, y139_, z139_⟩, st139⟩ := Jvm.LawKit.callS X138 hx (y := (⟨"com/example/relayframe/relayframe/PalettePackPinLaw", "same", "([BIJIIIII)Z"⟩ : MethodName)) hown (mvT hZ (w_13 hw)) (mvT hZ (w_14 hw)) (mvT hZ (w_7 hw)) (mvT hZ (w_15 hw)) (by decide) (backOf (W := 1) (rm4 l Z a0 hw [] b79 (5 : Int32) arg0 v7 v4 v12 v129 arg2 w2_131 5 T131.heap n0 z132 p131_0 (show (5 : Int32).toInt = (5 : Int) by decide) (own_b0 (own_bits hv4)) (own_nz (own_bits hv4) (own_w8r (own_w8 ev7)) hEN) (own_he (show (5 : Int32).toInt = ((5 : Nat) : Int) by decide) (by decide) (own_o7 ev12) hEN2 hOW rfl)) hZ (w_15 hw) (w_7 hw) (by decide) (by decide)) (g := (mkF m 613 #[(jV arg0), sV, (iV arg1), (iV arg2), (iV v1), (iV v4), (iV v7), (iV v8), (iV v10), (iV v12), (rV b13), (rV b79), (iV v129), (iV r_131), (iV (1 : Int32))] [(.int arg2), (.int v129), (.int v12), (.int v4), (.int v7), (.long arg0), (.int (5 : Int32)), (.ref b79), (.int (1 : Int32))])) rfl (by rw [hml]; rfl) (argsL := [(.ref b79), (.int (5 : Int32)), (.long arg0), (.int v7), (.int v4), (.int v12), (.int v129), (.int arg2)]) (rest := [(.int (1 : Int32))]) (lenOf own_pd7 rfl) rfl (by show 2 * 0 + _ ≤ _; exact Nat.le_of_eq rfl) (hb hby at_613) (fun _ _ => ⟨rfl, e138q, (by decide : 2 + 0 ≤ _), (by decide : 32 + 0 ≤ _)⟩)
  dsimp only [Pt.U, Pt.locs, Pt.cells, Pt.slots] at X139 l139 y139_ z139_ st139 hQ139
  obtain rfl : k139 = 2 := y139_
  obtain rfl : j139 = 32 := z139_
  obtain ⟨rfl, N139q, e139q⟩ := hQ139
  have N139 : Fr n0 L139 := by rw [l139]; exact Fr.app N138 N139q
  refine own_st (B := T139.setTop (mkF m 616 #[(jV arg0), sV, (iV arg1), (iV arg2), (iV v1), (iV v4), (iV v7), (iV v8), (iV v10), (iV v12), (rV b13), (rV b79), (iV v129), (iV r_131), (iV (1 : Int32))] [(.int (1 : Int32)), (.int (1 : Int32))])) (fun t k => st139 t k) ?_
  refine own_st (B := T139.setTop (mkF m 617 #[(jV arg0), sV, (iV arg1), (iV arg2), (iV v1), (iV v4), (iV v7), (iV v8), (iV v10), (iV v12), (rV b13), (rV b79), (iV v129), (iV r_131), (iV (1 : Int32))] [(.int ((1 : Int32) &&& (1 : Int32)))])) (fun t k => XS.iand X139.here hx rfl (hb hby at_616) rfl k) ?_
  rw [show ((1 : Int32) &&& (1 : Int32)) = (1 : Int32) from by decide]
  refine own_st (B := T139.setTop (mkF m 619 #[(jV arg0), sV, (iV arg1), (iV arg2), (iV v1), (iV v4), (iV v7), (iV v8), (iV v10), (iV v12), (rV b13), (rV b79), (iV v129), (iV r_131), (iV (1 : Int32))] [])) (fun t k => XS.istore X139.here hx rfl (hb hby at_617) rfl (l' := #[(jV arg0), sV, (iV arg1), (iV arg2), (iV v1), (iV v4), (iV v7), (iV v8), (iV v10), (iV v12), (rV b13), (rV b79), (iV v129), (iV r_131), (iV (1 : Int32))]) rfl k) ?_
  refine own_st (B := T139.setTop (mkF m 621 #[(jV arg0), sV, (iV arg1), (iV arg2), (iV v1), (iV v4), (iV v7), (iV v8), (iV v10), (iV v12), (rV b13), (rV b79), (iV v129), (iV r_131), (iV (1 : Int32))] [(.int (1 : Int32))])) (fun t k => XS.iload X139.here hx rfl (hb hby at_619) rfl k) ?_
  refine own_st (B := T139.setTop (mkF m 623 #[(jV arg0), sV, (iV arg1), (iV arg2), (iV v1), (iV v4), (iV v7), (iV v8), (iV v10), (iV v12), (rV b13), (rV b79), (iV v129), (iV r_131), (iV (1 : Int32))] [(.ref b79), (.int (1 : Int32))])) (fun t k => XS.aload X139.here hx rfl (hb hby at_621) rfl rfl k) ?_
  refine own_st (B := T139.setTop (mkF m 625 #[(jV arg0), sV, (iV arg1), (iV arg2), (iV v1), (iV v4), (iV v7), (iV v8), (iV v10), (iV v12), (rV b13), (rV b79), (iV v129), (iV r_131), (iV (1 : Int32))] [(.int (6 : Int32)), (.ref b79), (.int (1 : Int32))])) (fun t k => XS.bipush X139.here hx rfl (hb hby at_623) k) ?_
  refine own_st (B := T139.setTop (mkF m 626 #[(jV arg0), sV, (iV arg1), (iV arg2), (iV v1), (iV v4), (iV v7), (iV v8), (iV v10), (iV v12), (rV b13), (rV b79), (iV v129), (iV r_131), (iV (1 : Int32))] [(.long arg0), (.int (6 : Int32)), (.ref b79), (.int (1 : Int32))])) (fun t k => XS.lloadN X139.here hx rfl (hb hby at_625) rfl k) ?_
  refine own_st (B := T139.setTop (mkF m 628 #[(jV arg0), sV, (iV arg1), (iV arg2), (iV v1), (iV v4), (iV v7), (iV v8), (iV v10), (iV v12), (rV b13), (rV b79), (iV v129), (iV r_131), (iV (1 : Int32))] [(.int v7), (.long arg0), (.int (6 : Int32)), (.ref b79), (.int (1 : Int32))])) (fun t k => XS.iload X139.here hx rfl (hb hby at_626) rfl k) ?_
  refine own_st (B := T139.setTop (mkF m 630 #[(jV arg0), sV, (iV arg1), (iV arg2), (iV v1), (iV v4), (iV v7), (iV v8), (iV v10), (iV v12), (rV b13), (rV b79), (iV v129), (iV r_131), (iV (1 : Int32))] [(.int v4), (.int v7), (.long arg0), (.int (6 : Int32)), (.ref b79), (.int (1 : Int32))])) (fun t k => XS.iload X139.here hx rfl (hb hby at_628) rfl k) ?_
  refine own_st (B := T139.setTop (mkF m 632 #[(jV arg0), sV, (iV arg1), (iV arg2), (iV v1), (iV v4), (iV v7), (iV v8), (iV v10), (iV v12), (rV b13), (rV b79), (iV v129), (iV r_131), (iV (1 : Int32))] [(.int v12), (.int v4), (.int v7), (.long arg0), (.int (6 : Int32)), (.ref b79), (.int (1 : Int32))])) (fun t k => XS.iload X139.here hx rfl (hb hby at_630) rfl k) ?_
  refine own_st (B := T139.setTop (mkF m 634 #[(jV arg0), sV, (iV arg1), (iV arg2), (iV v1), (iV v4), (iV v7), (iV v8), (iV v10), (iV v12), (rV b13), (rV b79), (iV v129), (iV r_131), (iV (1 : Int32))] [(.int v129), (.int v12), (.int v4), (.int v7), (.long arg0), (.int (6 : Int32)), (.ref b79), (.int (1 : Int32))])) (fun t k => XS.iload X139.here hx rfl (hb hby at_632) rfl k) ?_
  refine own_st (B := T139.setTop (mkF m 635 #[(jV arg0), sV, (iV arg1), (iV arg2), (iV v1), (iV v4), (iV v7), (iV v8), (iV v10), (iV v12), (rV b13), (rV b79), (iV v129), (iV r_131), (iV (1 : Int32))] [(.int arg2), (.int v129), (.int v12), (.int v4), (.int v7), (.long arg0), (.int (6 : Int32)), (.ref b79), (.int (1 : Int32))])) (fun t k => XS.iloadN X139.here hx rfl (hb hby at_634) rfl k) ?_
  obtain ⟨_, _, ⟨T140, L140, k140, j140⟩, -, X140, ⟨Lc140, hQ140, l140, y140_, z140_⟩, st140⟩ := Jvm.LawKit.callS X139 hx (y := (⟨"com/example/relayframe/relayframe/PalettePackPinLaw", "same", "([BIJIIIII)Z"⟩ : MethodName)) hown (mvT hZ (w_13 hw)) (mvT hZ (w_14 hw)) (mvT hZ (w_7 hw)) (mvT hZ (w_15 hw)) (by decide) (backOf (W := 1) (rm4 l Z a0 hw [] b79 (6 : Int32) arg0 v7 v4 v12 v129 arg2 w2_131 6 T131.heap n0 z132 p131_0 (show (6 : Int32).toInt = (6 : Int) by decide) (own_b0 (own_bits hv4)) (own_nz (own_bits hv4) (own_w8r (own_w8 ev7)) hEN) (own_he (show (6 : Int32).toInt = ((6 : Nat) : Int) by decide) (by decide) (own_o7 ev12) hEN2 hOW rfl)) hZ (w_15 hw) (w_7 hw) (by decide) (by decide)) (g := (mkF m 635 #[(jV arg0), sV, (iV arg1), (iV arg2), (iV v1), (iV v4), (iV v7), (iV v8), (iV v10), (iV v12), (rV b13), (rV b79), (iV v129), (iV r_131), (iV (1 : Int32))] [(.int arg2), (.int v129), (.int v12), (.int v4), (.int v7), (.long arg0), (.int (6 : Int32)), (.ref b79), (.int (1 : Int32))])) rfl (by rw [hml]; rfl) (argsL := [(.ref b79), (.int (6 : Int32)), (.long arg0), (.int v7), (.int v4), (.int v12), (.int v129), (.int arg2)]) (rest := [(.int (1 : Int32))]) (lenOf own_pd7 rfl) rfl (by show 2 * 0 + _ ≤ _; exact Nat.le_of_eq rfl) (hb hby at_635) (fun _ _ => ⟨rfl, e139q, (by decide : 2 + 0 ≤ _), (by decide : 32 + 0 ≤ _)⟩)
  dsimp only [Pt.U, Pt.locs, Pt.cells, Pt.slots] at X140 l140 y140_ z140_ st140 hQ140
  obtain rfl : k140 = 2 := y140_
  obtain rfl : j140 = 32 := z140_
  obtain ⟨rfl, N140q, e140q⟩ := hQ140
  have N140 : Fr n0 L140 := by rw [l140]; exact Fr.app N139 N140q
  refine own_st (B := T140.setTop (mkF m 638 #[(jV arg0), sV, (iV arg1), (iV arg2), (iV v1), (iV v4), (iV v7), (iV v8), (iV v10), (iV v12), (rV b13), (rV b79), (iV v129), (iV r_131), (iV (1 : Int32))] [(.int (1 : Int32)), (.int (1 : Int32))])) (fun t k => st140 t k) ?_
  refine own_st (B := T140.setTop (mkF m 639 #[(jV arg0), sV, (iV arg1), (iV arg2), (iV v1), (iV v4), (iV v7), (iV v8), (iV v10), (iV v12), (rV b13), (rV b79), (iV v129), (iV r_131), (iV (1 : Int32))] [(.int ((1 : Int32) &&& (1 : Int32)))])) (fun t k => XS.iand X140.here hx rfl (hb hby at_638) rfl k) ?_
  rw [show ((1 : Int32) &&& (1 : Int32)) = (1 : Int32) from by decide]
  refine own_st (B := T140.setTop (mkF m 641 #[(jV arg0), sV, (iV arg1), (iV arg2), (iV v1), (iV v4), (iV v7), (iV v8), (iV v10), (iV v12), (rV b13), (rV b79), (iV v129), (iV r_131), (iV (1 : Int32))] [])) (fun t k => XS.istore X140.here hx rfl (hb hby at_639) rfl (l' := #[(jV arg0), sV, (iV arg1), (iV arg2), (iV v1), (iV v4), (iV v7), (iV v8), (iV v10), (iV v12), (rV b13), (rV b79), (iV v129), (iV r_131), (iV (1 : Int32))]) rfl k) ?_
  refine own_st (B := T140.setTop (mkF m 643 #[(jV arg0), sV, (iV arg1), (iV arg2), (iV v1), (iV v4), (iV v7), (iV v8), (iV v10), (iV v12), (rV b13), (rV b79), (iV v129), (iV r_131), (iV (1 : Int32))] [(.int (1 : Int32))])) (fun t k => XS.iload X140.here hx rfl (hb hby at_641) rfl k) ?_
  refine own_st (B := T140.setTop (mkF m 645 #[(jV arg0), sV, (iV arg1), (iV arg2), (iV v1), (iV v4), (iV v7), (iV v8), (iV v10), (iV v12), (rV b13), (rV b79), (iV v129), (iV r_131), (iV (1 : Int32))] [(.ref b79), (.int (1 : Int32))])) (fun t k => XS.aload X140.here hx rfl (hb hby at_643) rfl rfl k) ?_
  refine own_st (B := T140.setTop (mkF m 647 #[(jV arg0), sV, (iV arg1), (iV arg2), (iV v1), (iV v4), (iV v7), (iV v8), (iV v10), (iV v12), (rV b13), (rV b79), (iV v129), (iV r_131), (iV (1 : Int32))] [(.int (7 : Int32)), (.ref b79), (.int (1 : Int32))])) (fun t k => XS.bipush X140.here hx rfl (hb hby at_645) k) ?_
  refine own_st (B := T140.setTop (mkF m 648 #[(jV arg0), sV, (iV arg1), (iV arg2), (iV v1), (iV v4), (iV v7), (iV v8), (iV v10), (iV v12), (rV b13), (rV b79), (iV v129), (iV r_131), (iV (1 : Int32))] [(.long arg0), (.int (7 : Int32)), (.ref b79), (.int (1 : Int32))])) (fun t k => XS.lloadN X140.here hx rfl (hb hby at_647) rfl k) ?_
  refine own_st (B := T140.setTop (mkF m 650 #[(jV arg0), sV, (iV arg1), (iV arg2), (iV v1), (iV v4), (iV v7), (iV v8), (iV v10), (iV v12), (rV b13), (rV b79), (iV v129), (iV r_131), (iV (1 : Int32))] [(.int v7), (.long arg0), (.int (7 : Int32)), (.ref b79), (.int (1 : Int32))])) (fun t k => XS.iload X140.here hx rfl (hb hby at_648) rfl k) ?_
  refine own_st (B := T140.setTop (mkF m 652 #[(jV arg0), sV, (iV arg1), (iV arg2), (iV v1), (iV v4), (iV v7), (iV v8), (iV v10), (iV v12), (rV b13), (rV b79), (iV v129), (iV r_131), (iV (1 : Int32))] [(.int v4), (.int v7), (.long arg0), (.int (7 : Int32)), (.ref b79), (.int (1 : Int32))])) (fun t k => XS.iload X140.here hx rfl (hb hby at_650) rfl k) ?_
  refine own_st (B := T140.setTop (mkF m 654 #[(jV arg0), sV, (iV arg1), (iV arg2), (iV v1), (iV v4), (iV v7), (iV v8), (iV v10), (iV v12), (rV b13), (rV b79), (iV v129), (iV r_131), (iV (1 : Int32))] [(.int v12), (.int v4), (.int v7), (.long arg0), (.int (7 : Int32)), (.ref b79), (.int (1 : Int32))])) (fun t k => XS.iload X140.here hx rfl (hb hby at_652) rfl k) ?_
  refine own_st (B := T140.setTop (mkF m 656 #[(jV arg0), sV, (iV arg1), (iV arg2), (iV v1), (iV v4), (iV v7), (iV v8), (iV v10), (iV v12), (rV b13), (rV b79), (iV v129), (iV r_131), (iV (1 : Int32))] [(.int v129), (.int v12), (.int v4), (.int v7), (.long arg0), (.int (7 : Int32)), (.ref b79), (.int (1 : Int32))])) (fun t k => XS.iload X140.here hx rfl (hb hby at_654) rfl k) ?_
  refine own_st (B := T140.setTop (mkF m 657 #[(jV arg0), sV, (iV arg1), (iV arg2), (iV v1), (iV v4), (iV v7), (iV v8), (iV v10), (iV v12), (rV b13), (rV b79), (iV v129), (iV r_131), (iV (1 : Int32))] [(.int arg2), (.int v129), (.int v12), (.int v4), (.int v7), (.long arg0), (.int (7 : Int32)), (.ref b79), (.int (1 : Int32))])) (fun t k => XS.iloadN X140.here hx rfl (hb hby at_656) rfl k) ?_
  obtain ⟨_, _, ⟨T141, L141, k141, j141⟩, -, X141, ⟨Lc141, hQ141, l141, y141_, z141_⟩, st141⟩ := Jvm.LawKit.callS X140 hx (y := (⟨"com/example/relayframe/relayframe/PalettePackPinLaw", "same", "([BIJIIIII)Z"⟩ : MethodName)) hown (mvT hZ (w_13 hw)) (mvT hZ (w_14 hw)) (mvT hZ (w_7 hw)) (mvT hZ (w_15 hw)) (by decide) (backOf (W := 1) (rm4 l Z a0 hw [] b79 (7 : Int32) arg0 v7 v4 v12 v129 arg2 w2_131 7 T131.heap n0 z132 p131_0 (show (7 : Int32).toInt = (7 : Int) by decide) (own_b0 (own_bits hv4)) (own_nz (own_bits hv4) (own_w8r (own_w8 ev7)) hEN) (own_he (show (7 : Int32).toInt = ((7 : Nat) : Int) by decide) (by decide) (own_o7 ev12) hEN2 hOW rfl)) hZ (w_15 hw) (w_7 hw) (by decide) (by decide)) (g := (mkF m 657 #[(jV arg0), sV, (iV arg1), (iV arg2), (iV v1), (iV v4), (iV v7), (iV v8), (iV v10), (iV v12), (rV b13), (rV b79), (iV v129), (iV r_131), (iV (1 : Int32))] [(.int arg2), (.int v129), (.int v12), (.int v4), (.int v7), (.long arg0), (.int (7 : Int32)), (.ref b79), (.int (1 : Int32))])) rfl (by rw [hml]; rfl) (argsL := [(.ref b79), (.int (7 : Int32)), (.long arg0), (.int v7), (.int v4), (.int v12), (.int v129), (.int arg2)]) (rest := [(.int (1 : Int32))]) (lenOf own_pd7 rfl) rfl (by show 2 * 0 + _ ≤ _; exact Nat.le_of_eq rfl) (hb hby at_657) (fun _ _ => ⟨rfl, e140q, (by decide : 2 + 0 ≤ _), (by decide : 32 + 0 ≤ _)⟩)
  dsimp only [Pt.U, Pt.locs, Pt.cells, Pt.slots] at X141 l141 y141_ z141_ st141 hQ141
  obtain rfl : k141 = 2 := y141_
  obtain rfl : j141 = 32 := z141_
  obtain ⟨rfl, N141q, e141q⟩ := hQ141
  have N141 : Fr n0 L141 := by rw [l141]; exact Fr.app N140 N141q
  refine own_st (B := T141.setTop (mkF m 660 #[(jV arg0), sV, (iV arg1), (iV arg2), (iV v1), (iV v4), (iV v7), (iV v8), (iV v10), (iV v12), (rV b13), (rV b79), (iV v129), (iV r_131), (iV (1 : Int32))] [(.int (1 : Int32)), (.int (1 : Int32))])) (fun t k => st141 t k) ?_
  refine own_st (B := T141.setTop (mkF m 661 #[(jV arg0), sV, (iV arg1), (iV arg2), (iV v1), (iV v4), (iV v7), (iV v8), (iV v10), (iV v12), (rV b13), (rV b79), (iV v129), (iV r_131), (iV (1 : Int32))] [(.int ((1 : Int32) &&& (1 : Int32)))])) (fun t k => XS.iand X141.here hx rfl (hb hby at_660) rfl k) ?_
  rw [show ((1 : Int32) &&& (1 : Int32)) = (1 : Int32) from by decide]
  refine own_st (B := T141.setTop (mkF m 663 #[(jV arg0), sV, (iV arg1), (iV arg2), (iV v1), (iV v4), (iV v7), (iV v8), (iV v10), (iV v12), (rV b13), (rV b79), (iV v129), (iV r_131), (iV (1 : Int32))] [])) (fun t k => XS.istore X141.here hx rfl (hb hby at_661) rfl (l' := #[(jV arg0), sV, (iV arg1), (iV arg2), (iV v1), (iV v4), (iV v7), (iV v8), (iV v10), (iV v12), (rV b13), (rV b79), (iV v129), (iV r_131), (iV (1 : Int32))]) rfl k) ?_
  refine own_st (B := T141.setTop (mkF m 665 #[(jV arg0), sV, (iV arg1), (iV arg2), (iV v1), (iV v4), (iV v7), (iV v8), (iV v10), (iV v12), (rV b13), (rV b79), (iV v129), (iV r_131), (iV (1 : Int32))] [(.int (1 : Int32))])) (fun t k => XS.iload X141.here hx rfl (hb hby at_663) rfl k) ?_
  refine own_st (B := T141.setTop (mkF m 667 #[(jV arg0), sV, (iV arg1), (iV arg2), (iV v1), (iV v4), (iV v7), (iV v8), (iV v10), (iV v12), (rV b13), (rV b79), (iV v129), (iV r_131), (iV (1 : Int32))] [(.ref b79), (.int (1 : Int32))])) (fun t k => XS.aload X141.here hx rfl (hb hby at_665) rfl rfl k) ?_
  refine own_st (B := T141.setTop (mkF m 669 #[(jV arg0), sV, (iV arg1), (iV arg2), (iV v1), (iV v4), (iV v7), (iV v8), (iV v10), (iV v12), (rV b13), (rV b79), (iV v129), (iV r_131), (iV (1 : Int32))] [(.int (8 : Int32)), (.ref b79), (.int (1 : Int32))])) (fun t k => XS.bipush X141.here hx rfl (hb hby at_667) k) ?_
  refine own_st (B := T141.setTop (mkF m 670 #[(jV arg0), sV, (iV arg1), (iV arg2), (iV v1), (iV v4), (iV v7), (iV v8), (iV v10), (iV v12), (rV b13), (rV b79), (iV v129), (iV r_131), (iV (1 : Int32))] [(.long arg0), (.int (8 : Int32)), (.ref b79), (.int (1 : Int32))])) (fun t k => XS.lloadN X141.here hx rfl (hb hby at_669) rfl k) ?_
  refine own_st (B := T141.setTop (mkF m 672 #[(jV arg0), sV, (iV arg1), (iV arg2), (iV v1), (iV v4), (iV v7), (iV v8), (iV v10), (iV v12), (rV b13), (rV b79), (iV v129), (iV r_131), (iV (1 : Int32))] [(.int v7), (.long arg0), (.int (8 : Int32)), (.ref b79), (.int (1 : Int32))])) (fun t k => XS.iload X141.here hx rfl (hb hby at_670) rfl k) ?_
  refine own_st (B := T141.setTop (mkF m 674 #[(jV arg0), sV, (iV arg1), (iV arg2), (iV v1), (iV v4), (iV v7), (iV v8), (iV v10), (iV v12), (rV b13), (rV b79), (iV v129), (iV r_131), (iV (1 : Int32))] [(.int v4), (.int v7), (.long arg0), (.int (8 : Int32)), (.ref b79), (.int (1 : Int32))])) (fun t k => XS.iload X141.here hx rfl (hb hby at_672) rfl k) ?_
  refine own_st (B := T141.setTop (mkF m 676 #[(jV arg0), sV, (iV arg1), (iV arg2), (iV v1), (iV v4), (iV v7), (iV v8), (iV v10), (iV v12), (rV b13), (rV b79), (iV v129), (iV r_131), (iV (1 : Int32))] [(.int v12), (.int v4), (.int v7), (.long arg0), (.int (8 : Int32)), (.ref b79), (.int (1 : Int32))])) (fun t k => XS.iload X141.here hx rfl (hb hby at_674) rfl k) ?_
  refine own_st (B := T141.setTop (mkF m 678 #[(jV arg0), sV, (iV arg1), (iV arg2), (iV v1), (iV v4), (iV v7), (iV v8), (iV v10), (iV v12), (rV b13), (rV b79), (iV v129), (iV r_131), (iV (1 : Int32))] [(.int v129), (.int v12), (.int v4), (.int v7), (.long arg0), (.int (8 : Int32)), (.ref b79), (.int (1 : Int32))])) (fun t k => XS.iload X141.here hx rfl (hb hby at_676) rfl k) ?_
  refine own_st (B := T141.setTop (mkF m 679 #[(jV arg0), sV, (iV arg1), (iV arg2), (iV v1), (iV v4), (iV v7), (iV v8), (iV v10), (iV v12), (rV b13), (rV b79), (iV v129), (iV r_131), (iV (1 : Int32))] [(.int arg2), (.int v129), (.int v12), (.int v4), (.int v7), (.long arg0), (.int (8 : Int32)), (.ref b79), (.int (1 : Int32))])) (fun t k => XS.iloadN X141.here hx rfl (hb hby at_678) rfl k) ?_
  obtain ⟨_, _, ⟨T142, L142, k142, j142⟩, -, X142, ⟨Lc142, hQ142, l142, y142_, z142_⟩, st142⟩ := Jvm.LawKit.callS X141 hx (y := (⟨"com/example/relayframe/relayframe/PalettePackPinLaw", "same", "([BIJIIIII)Z"⟩ : MethodName)) hown (mvT hZ (w_13 hw)) (mvT hZ (w_14 hw)) (mvT hZ (w_7 hw)) (mvT hZ (w_15 hw)) (by decide) (backOf (W := 1) (rm4 l Z a0 hw [] b79 (8 : Int32) arg0 v7 v4 v12 v129 arg2 w2_131 8 T131.heap n0 z132 p131_0 (show (8 : Int32).toInt = (8 : Int) by decide) (own_b0 (own_bits hv4)) (own_nz (own_bits hv4) (own_w8r (own_w8 ev7)) hEN) (own_he (show (8 : Int32).toInt = ((8 : Nat) : Int) by decide) (by decide) (own_o7 ev12) hEN2 hOW rfl)) hZ (w_15 hw) (w_7 hw) (by decide) (by decide)) (g := (mkF m 679 #[(jV arg0), sV, (iV arg1), (iV arg2), (iV v1), (iV v4), (iV v7), (iV v8), (iV v10), (iV v12), (rV b13), (rV b79), (iV v129), (iV r_131), (iV (1 : Int32))] [(.int arg2), (.int v129), (.int v12), (.int v4), (.int v7), (.long arg0), (.int (8 : Int32)), (.ref b79), (.int (1 : Int32))])) rfl (by rw [hml]; rfl) (argsL := [(.ref b79), (.int (8 : Int32)), (.long arg0), (.int v7), (.int v4), (.int v12), (.int v129), (.int arg2)]) (rest := [(.int (1 : Int32))]) (lenOf own_pd7 rfl) rfl (by show 2 * 0 + _ ≤ _; exact Nat.le_of_eq rfl) (hb hby at_679) (fun _ _ => ⟨rfl, e141q, (by decide : 2 + 0 ≤ _), (by decide : 32 + 0 ≤ _)⟩)
  dsimp only [Pt.U, Pt.locs, Pt.cells, Pt.slots] at X142 l142 y142_ z142_ st142 hQ142
  obtain rfl : k142 = 2 := y142_
  obtain rfl : j142 = 32 := z142_
  obtain ⟨rfl, N142q, e142q⟩ := hQ142
  have N142 : Fr n0 L142 := by rw [l142]; exact Fr.app N141 N142q
  refine own_st (B := T142.setTop (mkF m 682 #[(jV arg0), sV, (iV arg1), (iV arg2), (iV v1), (iV v4), (iV v7), (iV v8), (iV v10), (iV v12), (rV b13), (rV b79), (iV v129), (iV r_131), (iV (1 : Int32))] [(.int (1 : Int32)), (.int (1 : Int32))])) (fun t k => st142 t k) ?_
  refine own_st (B := T142.setTop (mkF m 683 #[(jV arg0), sV, (iV arg1), (iV arg2), (iV v1), (iV v4), (iV v7), (iV v8), (iV v10), (iV v12), (rV b13), (rV b79), (iV v129), (iV r_131), (iV (1 : Int32))] [(.int ((1 : Int32) &&& (1 : Int32)))])) (fun t k => XS.iand X142.here hx rfl (hb hby at_682) rfl k) ?_
  rw [show ((1 : Int32) &&& (1 : Int32)) = (1 : Int32) from by decide]
  refine own_st (B := T142.setTop (mkF m 685 #[(jV arg0), sV, (iV arg1), (iV arg2), (iV v1), (iV v4), (iV v7), (iV v8), (iV v10), (iV v12), (rV b13), (rV b79), (iV v129), (iV r_131), (iV (1 : Int32))] [])) (fun t k => XS.istore X142.here hx rfl (hb hby at_683) rfl (l' := #[(jV arg0), sV, (iV arg1), (iV arg2), (iV v1), (iV v4), (iV v7), (iV v8), (iV v10), (iV v12), (rV b13), (rV b79), (iV v129), (iV r_131), (iV (1 : Int32))]) rfl k) ?_
  refine own_st (B := T142.setTop (mkF m 687 #[(jV arg0), sV, (iV arg1), (iV arg2), (iV v1), (iV v4), (iV v7), (iV v8), (iV v10), (iV v12), (rV b13), (rV b79), (iV v129), (iV r_131), (iV (1 : Int32))] [(.int (1 : Int32))])) (fun t k => XS.iload X142.here hx rfl (hb hby at_685) rfl k) ?_
  refine own_st (B := T142.setTop (mkF m 689 #[(jV arg0), sV, (iV arg1), (iV arg2), (iV v1), (iV v4), (iV v7), (iV v8), (iV v10), (iV v12), (rV b13), (rV b79), (iV v129), (iV r_131), (iV (1 : Int32))] [(.ref b79), (.int (1 : Int32))])) (fun t k => XS.aload X142.here hx rfl (hb hby at_687) rfl rfl k) ?_
  refine own_st (B := T142.setTop (mkF m 691 #[(jV arg0), sV, (iV arg1), (iV arg2), (iV v1), (iV v4), (iV v7), (iV v8), (iV v10), (iV v12), (rV b13), (rV b79), (iV v129), (iV r_131), (iV (1 : Int32))] [(.int (9 : Int32)), (.ref b79), (.int (1 : Int32))])) (fun t k => XS.bipush X142.here hx rfl (hb hby at_689) k) ?_
  refine own_st (B := T142.setTop (mkF m 692 #[(jV arg0), sV, (iV arg1), (iV arg2), (iV v1), (iV v4), (iV v7), (iV v8), (iV v10), (iV v12), (rV b13), (rV b79), (iV v129), (iV r_131), (iV (1 : Int32))] [(.long arg0), (.int (9 : Int32)), (.ref b79), (.int (1 : Int32))])) (fun t k => XS.lloadN X142.here hx rfl (hb hby at_691) rfl k) ?_
  refine own_st (B := T142.setTop (mkF m 694 #[(jV arg0), sV, (iV arg1), (iV arg2), (iV v1), (iV v4), (iV v7), (iV v8), (iV v10), (iV v12), (rV b13), (rV b79), (iV v129), (iV r_131), (iV (1 : Int32))] [(.int v7), (.long arg0), (.int (9 : Int32)), (.ref b79), (.int (1 : Int32))])) (fun t k => XS.iload X142.here hx rfl (hb hby at_692) rfl k) ?_
  refine own_st (B := T142.setTop (mkF m 696 #[(jV arg0), sV, (iV arg1), (iV arg2), (iV v1), (iV v4), (iV v7), (iV v8), (iV v10), (iV v12), (rV b13), (rV b79), (iV v129), (iV r_131), (iV (1 : Int32))] [(.int v4), (.int v7), (.long arg0), (.int (9 : Int32)), (.ref b79), (.int (1 : Int32))])) (fun t k => XS.iload X142.here hx rfl (hb hby at_694) rfl k) ?_
  refine own_st (B := T142.setTop (mkF m 698 #[(jV arg0), sV, (iV arg1), (iV arg2), (iV v1), (iV v4), (iV v7), (iV v8), (iV v10), (iV v12), (rV b13), (rV b79), (iV v129), (iV r_131), (iV (1 : Int32))] [(.int v12), (.int v4), (.int v7), (.long arg0), (.int (9 : Int32)), (.ref b79), (.int (1 : Int32))])) (fun t k => XS.iload X142.here hx rfl (hb hby at_696) rfl k) ?_
  refine own_st (B := T142.setTop (mkF m 700 #[(jV arg0), sV, (iV arg1), (iV arg2), (iV v1), (iV v4), (iV v7), (iV v8), (iV v10), (iV v12), (rV b13), (rV b79), (iV v129), (iV r_131), (iV (1 : Int32))] [(.int v129), (.int v12), (.int v4), (.int v7), (.long arg0), (.int (9 : Int32)), (.ref b79), (.int (1 : Int32))])) (fun t k => XS.iload X142.here hx rfl (hb hby at_698) rfl k) ?_
  refine own_st (B := T142.setTop (mkF m 701 #[(jV arg0), sV, (iV arg1), (iV arg2), (iV v1), (iV v4), (iV v7), (iV v8), (iV v10), (iV v12), (rV b13), (rV b79), (iV v129), (iV r_131), (iV (1 : Int32))] [(.int arg2), (.int v129), (.int v12), (.int v4), (.int v7), (.long arg0), (.int (9 : Int32)), (.ref b79), (.int (1 : Int32))])) (fun t k => XS.iloadN X142.here hx rfl (hb hby at_700) rfl k) ?_
  obtain ⟨_, _, ⟨T143, L143, k143, j143⟩, -, X143, ⟨Lc143, hQ143, l143, y143_, z143_⟩, st143⟩ := Jvm.LawKit.callS X142 hx (y := (⟨"com/example/relayframe/relayframe/PalettePackPinLaw", "same", "([BIJIIIII)Z"⟩ : MethodName)) hown (mvT hZ (w_13 hw)) (mvT hZ (w_14 hw)) (mvT hZ (w_7 hw)) (mvT hZ (w_15 hw)) (by decide) (backOf (W := 1) (rm4 l Z a0 hw [] b79 (9 : Int32) arg0 v7 v4 v12 v129 arg2 w2_131 9 T131.heap n0 z132 p131_0 (show (9 : Int32).toInt = (9 : Int) by decide) (own_b0 (own_bits hv4)) (own_nz (own_bits hv4) (own_w8r (own_w8 ev7)) hEN) (own_he (show (9 : Int32).toInt = ((9 : Nat) : Int) by decide) (by decide) (own_o7 ev12) hEN2 hOW rfl)) hZ (w_15 hw) (w_7 hw) (by decide) (by decide)) (g := (mkF m 701 #[(jV arg0), sV, (iV arg1), (iV arg2), (iV v1), (iV v4), (iV v7), (iV v8), (iV v10), (iV v12), (rV b13), (rV b79), (iV v129), (iV r_131), (iV (1 : Int32))] [(.int arg2), (.int v129), (.int v12), (.int v4), (.int v7), (.long arg0), (.int (9 : Int32)), (.ref b79), (.int (1 : Int32))])) rfl (by rw [hml]; rfl) (argsL := [(.ref b79), (.int (9 : Int32)), (.long arg0), (.int v7), (.int v4), (.int v12), (.int v129), (.int arg2)]) (rest := [(.int (1 : Int32))]) (lenOf own_pd7 rfl) rfl (by show 2 * 0 + _ ≤ _; exact Nat.le_of_eq rfl) (hb hby at_701) (fun _ _ => ⟨rfl, e142q, (by decide : 2 + 0 ≤ _), (by decide : 32 + 0 ≤ _)⟩)
  dsimp only [Pt.U, Pt.locs, Pt.cells, Pt.slots] at X143 l143 y143_ z143_ st143 hQ143
  obtain rfl : k143 = 2 := y143_
  obtain rfl : j143 = 32 := z143_
  obtain ⟨rfl, N143q, e143q⟩ := hQ143
  have N143 : Fr n0 L143 := by rw [l143]; exact Fr.app N142 N143q
  refine own_st (B := T143.setTop (mkF m 704 #[(jV arg0), sV, (iV arg1), (iV arg2), (iV v1), (iV v4), (iV v7), (iV v8), (iV v10), (iV v12), (rV b13), (rV b79), (iV v129), (iV r_131), (iV (1 : Int32))] [(.int (1 : Int32)), (.int (1 : Int32))])) (fun t k => st143 t k) ?_
  refine own_st (B := T143.setTop (mkF m 705 #[(jV arg0), sV, (iV arg1), (iV arg2), (iV v1), (iV v4), (iV v7), (iV v8), (iV v10), (iV v12), (rV b13), (rV b79), (iV v129), (iV r_131), (iV (1 : Int32))] [(.int ((1 : Int32) &&& (1 : Int32)))])) (fun t k => XS.iand X143.here hx rfl (hb hby at_704) rfl k) ?_
  rw [show ((1 : Int32) &&& (1 : Int32)) = (1 : Int32) from by decide]
  refine own_st (B := T143.setTop (mkF m 707 #[(jV arg0), sV, (iV arg1), (iV arg2), (iV v1), (iV v4), (iV v7), (iV v8), (iV v10), (iV v12), (rV b13), (rV b79), (iV v129), (iV r_131), (iV (1 : Int32))] [])) (fun t k => XS.istore X143.here hx rfl (hb hby at_705) rfl (l' := #[(jV arg0), sV, (iV arg1), (iV arg2), (iV v1), (iV v4), (iV v7), (iV v8), (iV v10), (iV v12), (rV b13), (rV b79), (iV v129), (iV r_131), (iV (1 : Int32))]) rfl k) ?_
  refine own_st (B := T143.setTop (mkF m 709 #[(jV arg0), sV, (iV arg1), (iV arg2), (iV v1), (iV v4), (iV v7), (iV v8), (iV v10), (iV v12), (rV b13), (rV b79), (iV v129), (iV r_131), (iV (1 : Int32))] [(.int (1 : Int32))])) (fun t k => XS.iload X143.here hx rfl (hb hby at_707) rfl k) ?_
  refine own_st (B := T143.setTop (mkF m 711 #[(jV arg0), sV, (iV arg1), (iV arg2), (iV v1), (iV v4), (iV v7), (iV v8), (iV v10), (iV v12), (rV b13), (rV b79), (iV v129), (iV r_131), (iV (1 : Int32))] [(.ref b79), (.int (1 : Int32))])) (fun t k => XS.aload X143.here hx rfl (hb hby at_709) rfl rfl k) ?_
  refine own_st (B := T143.setTop (mkF m 713 #[(jV arg0), sV, (iV arg1), (iV arg2), (iV v1), (iV v4), (iV v7), (iV v8), (iV v10), (iV v12), (rV b13), (rV b79), (iV v129), (iV r_131), (iV (1 : Int32))] [(.int (10 : Int32)), (.ref b79), (.int (1 : Int32))])) (fun t k => XS.bipush X143.here hx rfl (hb hby at_711) k) ?_
  refine own_st (B := T143.setTop (mkF m 714 #[(jV arg0), sV, (iV arg1), (iV arg2), (iV v1), (iV v4), (iV v7), (iV v8), (iV v10), (iV v12), (rV b13), (rV b79), (iV v129), (iV r_131), (iV (1 : Int32))] [(.long arg0), (.int (10 : Int32)), (.ref b79), (.int (1 : Int32))])) (fun t k => XS.lloadN X143.here hx rfl (hb hby at_713) rfl k) ?_
  refine own_st (B := T143.setTop (mkF m 716 #[(jV arg0), sV, (iV arg1), (iV arg2), (iV v1), (iV v4), (iV v7), (iV v8), (iV v10), (iV v12), (rV b13), (rV b79), (iV v129), (iV r_131), (iV (1 : Int32))] [(.int v7), (.long arg0), (.int (10 : Int32)), (.ref b79), (.int (1 : Int32))])) (fun t k => XS.iload X143.here hx rfl (hb hby at_714) rfl k) ?_
  refine own_st (B := T143.setTop (mkF m 718 #[(jV arg0), sV, (iV arg1), (iV arg2), (iV v1), (iV v4), (iV v7), (iV v8), (iV v10), (iV v12), (rV b13), (rV b79), (iV v129), (iV r_131), (iV (1 : Int32))] [(.int v4), (.int v7), (.long arg0), (.int (10 : Int32)), (.ref b79), (.int (1 : Int32))])) (fun t k => XS.iload X143.here hx rfl (hb hby at_716) rfl k) ?_
  refine own_st (B := T143.setTop (mkF m 720 #[(jV arg0), sV, (iV arg1), (iV arg2), (iV v1), (iV v4), (iV v7), (iV v8), (iV v10), (iV v12), (rV b13), (rV b79), (iV v129), (iV r_131), (iV (1 : Int32))] [(.int v12), (.int v4), (.int v7), (.long arg0), (.int (10 : Int32)), (.ref b79), (.int (1 : Int32))])) (fun t k => XS.iload X143.here hx rfl (hb hby at_718) rfl k) ?_
  refine own_st (B := T143.setTop (mkF m 722 #[(jV arg0), sV, (iV arg1), (iV arg2), (iV v1), (iV v4), (iV v7), (iV v8), (iV v10), (iV v12), (rV b13), (rV b79), (iV v129), (iV r_131), (iV (1 : Int32))] [(.int v129), (.int v12), (.int v4), (.int v7), (.long arg0), (.int (10 : Int32)), (.ref b79), (.int (1 : Int32))])) (fun t k => XS.iload X143.here hx rfl (hb hby at_720) rfl k) ?_
  refine own_st (B := T143.setTop (mkF m 723 #[(jV arg0), sV, (iV arg1), (iV arg2), (iV v1), (iV v4), (iV v7), (iV v8), (iV v10), (iV v12), (rV b13), (rV b79), (iV v129), (iV r_131), (iV (1 : Int32))] [(.int arg2), (.int v129), (.int v12), (.int v4), (.int v7), (.long arg0), (.int (10 : Int32)), (.ref b79), (.int (1 : Int32))])) (fun t k => XS.iloadN X143.here hx rfl (hb hby at_722) rfl k) ?_
  obtain ⟨_, _, ⟨T144, L144, k144, j144⟩, -, X144, ⟨Lc144, hQ144, l144, y144_, z144_⟩, st144⟩ := Jvm.LawKit.callS X143 hx (y := (⟨"com/example/relayframe/relayframe/PalettePackPinLaw", "same", "([BIJIIIII)Z"⟩ : MethodName)) hown (mvT hZ (w_13 hw)) (mvT hZ (w_14 hw)) (mvT hZ (w_7 hw)) (mvT hZ (w_15 hw)) (by decide) (backOf (W := 1) (rm4 l Z a0 hw [] b79 (10 : Int32) arg0 v7 v4 v12 v129 arg2 w2_131 10 T131.heap n0 z132 p131_0 (show (10 : Int32).toInt = (10 : Int) by decide) (own_b0 (own_bits hv4)) (own_nz (own_bits hv4) (own_w8r (own_w8 ev7)) hEN) (own_he (show (10 : Int32).toInt = ((10 : Nat) : Int) by decide) (by decide) (own_o7 ev12) hEN2 hOW rfl)) hZ (w_15 hw) (w_7 hw) (by decide) (by decide)) (g := (mkF m 723 #[(jV arg0), sV, (iV arg1), (iV arg2), (iV v1), (iV v4), (iV v7), (iV v8), (iV v10), (iV v12), (rV b13), (rV b79), (iV v129), (iV r_131), (iV (1 : Int32))] [(.int arg2), (.int v129), (.int v12), (.int v4), (.int v7), (.long arg0), (.int (10 : Int32)), (.ref b79), (.int (1 : Int32))])) rfl (by rw [hml]; rfl) (argsL := [(.ref b79), (.int (10 : Int32)), (.long arg0), (.int v7), (.int v4), (.int v12), (.int v129), (.int arg2)]) (rest := [(.int (1 : Int32))]) (lenOf own_pd7 rfl) rfl (by show 2 * 0 + _ ≤ _; exact Nat.le_of_eq rfl) (hb hby at_723) (fun _ _ => ⟨rfl, e143q, (by decide : 2 + 0 ≤ _), (by decide : 32 + 0 ≤ _)⟩)
  dsimp only [Pt.U, Pt.locs, Pt.cells, Pt.slots] at X144 l144 y144_ z144_ st144 hQ144
  obtain rfl : k144 = 2 := y144_
  obtain rfl : j144 = 32 := z144_
  obtain ⟨rfl, N144q, e144q⟩ := hQ144
  have N144 : Fr n0 L144 := by rw [l144]; exact Fr.app N143 N144q
  refine own_st (B := T144.setTop (mkF m 726 #[(jV arg0), sV, (iV arg1), (iV arg2), (iV v1), (iV v4), (iV v7), (iV v8), (iV v10), (iV v12), (rV b13), (rV b79), (iV v129), (iV r_131), (iV (1 : Int32))] [(.int (1 : Int32)), (.int (1 : Int32))])) (fun t k => st144 t k) ?_
  refine own_st (B := T144.setTop (mkF m 727 #[(jV arg0), sV, (iV arg1), (iV arg2), (iV v1), (iV v4), (iV v7), (iV v8), (iV v10), (iV v12), (rV b13), (rV b79), (iV v129), (iV r_131), (iV (1 : Int32))] [(.int ((1 : Int32) &&& (1 : Int32)))])) (fun t k => XS.iand X144.here hx rfl (hb hby at_726) rfl k) ?_
  rw [show ((1 : Int32) &&& (1 : Int32)) = (1 : Int32) from by decide]
  refine own_st (B := T144.setTop (mkF m 729 #[(jV arg0), sV, (iV arg1), (iV arg2), (iV v1), (iV v4), (iV v7), (iV v8), (iV v10), (iV v12), (rV b13), (rV b79), (iV v129), (iV r_131), (iV (1 : Int32))] [])) (fun t k => XS.istore X144.here hx rfl (hb hby at_727) rfl (l' := #[(jV arg0), sV, (iV arg1), (iV arg2), (iV v1), (iV v4), (iV v7), (iV v8), (iV v10), (iV v12), (rV b13), (rV b79), (iV v129), (iV r_131), (iV (1 : Int32))]) rfl k) ?_
  refine own_st (B := T144.setTop (mkF m 731 #[(jV arg0), sV, (iV arg1), (iV arg2), (iV v1), (iV v4), (iV v7), (iV v8), (iV v10), (iV v12), (rV b13), (rV b79), (iV v129), (iV r_131), (iV (1 : Int32))] [(.int (1 : Int32))])) (fun t k => XS.iload X144.here hx rfl (hb hby at_729) rfl k) ?_
  refine own_st (B := T144.setTop (mkF m 733 #[(jV arg0), sV, (iV arg1), (iV arg2), (iV v1), (iV v4), (iV v7), (iV v8), (iV v10), (iV v12), (rV b13), (rV b79), (iV v129), (iV r_131), (iV (1 : Int32))] [(.ref b79), (.int (1 : Int32))])) (fun t k => XS.aload X144.here hx rfl (hb hby at_731) rfl rfl k) ?_
  refine own_st (B := T144.setTop (mkF m 735 #[(jV arg0), sV, (iV arg1), (iV arg2), (iV v1), (iV v4), (iV v7), (iV v8), (iV v10), (iV v12), (rV b13), (rV b79), (iV v129), (iV r_131), (iV (1 : Int32))] [(.int (11 : Int32)), (.ref b79), (.int (1 : Int32))])) (fun t k => XS.bipush X144.here hx rfl (hb hby at_733) k) ?_
  refine own_st (B := T144.setTop (mkF m 736 #[(jV arg0), sV, (iV arg1), (iV arg2), (iV v1), (iV v4), (iV v7), (iV v8), (iV v10), (iV v12), (rV b13), (rV b79), (iV v129), (iV r_131), (iV (1 : Int32))] [(.long arg0), (.int (11 : Int32)), (.ref b79), (.int (1 : Int32))])) (fun t k => XS.lloadN X144.here hx rfl (hb hby at_735) rfl k) ?_
  refine own_st (B := T144.setTop (mkF m 738 #[(jV arg0), sV, (iV arg1), (iV arg2), (iV v1), (iV v4), (iV v7), (iV v8), (iV v10), (iV v12), (rV b13), (rV b79), (iV v129), (iV r_131), (iV (1 : Int32))] [(.int v7), (.long arg0), (.int (11 : Int32)), (.ref b79), (.int (1 : Int32))])) (fun t k => XS.iload X144.here hx rfl (hb hby at_736) rfl k) ?_
  refine own_st (B := T144.setTop (mkF m 740 #[(jV arg0), sV, (iV arg1), (iV arg2), (iV v1), (iV v4), (iV v7), (iV v8), (iV v10), (iV v12), (rV b13), (rV b79), (iV v129), (iV r_131), (iV (1 : Int32))] [(.int v4), (.int v7), (.long arg0), (.int (11 : Int32)), (.ref b79), (.int (1 : Int32))])) (fun t k => XS.iload X144.here hx rfl (hb hby at_738) rfl k) ?_
  refine own_st (B := T144.setTop (mkF m 742 #[(jV arg0), sV, (iV arg1), (iV arg2), (iV v1), (iV v4), (iV v7), (iV v8), (iV v10), (iV v12), (rV b13), (rV b79), (iV v129), (iV r_131), (iV (1 : Int32))] [(.int v12), (.int v4), (.int v7), (.long arg0), (.int (11 : Int32)), (.ref b79), (.int (1 : Int32))])) (fun t k => XS.iload X144.here hx rfl (hb hby at_740) rfl k) ?_
  refine own_st (B := T144.setTop (mkF m 744 #[(jV arg0), sV, (iV arg1), (iV arg2), (iV v1), (iV v4), (iV v7), (iV v8), (iV v10), (iV v12), (rV b13), (rV b79), (iV v129), (iV r_131), (iV (1 : Int32))] [(.int v129), (.int v12), (.int v4), (.int v7), (.long arg0), (.int (11 : Int32)), (.ref b79), (.int (1 : Int32))])) (fun t k => XS.iload X144.here hx rfl (hb hby at_742) rfl k) ?_
  refine own_st (B := T144.setTop (mkF m 745 #[(jV arg0), sV, (iV arg1), (iV arg2), (iV v1), (iV v4), (iV v7), (iV v8), (iV v10), (iV v12), (rV b13), (rV b79), (iV v129), (iV r_131), (iV (1 : Int32))] [(.int arg2), (.int v129), (.int v12), (.int v4), (.int v7), (.long arg0), (.int (11 : Int32)), (.ref b79), (.int (1 : Int32))])) (fun t k => XS.iloadN X144.here hx rfl (hb hby at_744) rfl k) ?_
  obtain ⟨_, _, ⟨T145, L145, k145, j145⟩, -, X145, ⟨Lc145, hQ145, l145, y145_, z145_⟩, st145⟩ := Jvm.LawKit.callS X144 hx (y := (⟨"com/example/relayframe/relayframe/PalettePackPinLaw", "same", "([BIJIIIII)Z"⟩ : MethodName)) hown (mvT hZ (w_13 hw)) (mvT hZ (w_14 hw)) (mvT hZ (w_7 hw)) (mvT hZ (w_15 hw)) (by decide) (backOf (W := 1) (rm4 l Z a0 hw [] b79 (11 : Int32) arg0 v7 v4 v12 v129 arg2 w2_131 11 T131.heap n0 z132 p131_0 (show (11 : Int32).toInt = (11 : Int) by decide) (own_b0 (own_bits hv4)) (own_nz (own_bits hv4) (own_w8r (own_w8 ev7)) hEN) (own_he (show (11 : Int32).toInt = ((11 : Nat) : Int) by decide) (by decide) (own_o7 ev12) hEN2 hOW rfl)) hZ (w_15 hw) (w_7 hw) (by decide) (by decide)) (g := (mkF m 745 #[(jV arg0), sV, (iV arg1), (iV arg2), (iV v1), (iV v4), (iV v7), (iV v8), (iV v10), (iV v12), (rV b13), (rV b79), (iV v129), (iV r_131), (iV (1 : Int32))] [(.int arg2), (.int v129), (.int v12), (.int v4), (.int v7), (.long arg0), (.int (11 : Int32)), (.ref b79), (.int (1 : Int32))])) rfl (by rw [hml]; rfl) (argsL := [(.ref b79), (.int (11 : Int32)), (.long arg0), (.int v7), (.int v4), (.int v12), (.int v129), (.int arg2)]) (rest := [(.int (1 : Int32))]) (lenOf own_pd7 rfl) rfl (by show 2 * 0 + _ ≤ _; exact Nat.le_of_eq rfl) (hb hby at_745) (fun _ _ => ⟨rfl, e144q, (by decide : 2 + 0 ≤ _), (by decide : 32 + 0 ≤ _)⟩)
  dsimp only [Pt.U, Pt.locs, Pt.cells, Pt.slots] at X145 l145 y145_ z145_ st145 hQ145
  obtain rfl : k145 = 2 := y145_
  obtain rfl : j145 = 32 := z145_
  obtain ⟨rfl, N145q, e145q⟩ := hQ145
  have N145 : Fr n0 L145 := by rw [l145]; exact Fr.app N144 N145q
  refine own_st (B := T145.setTop (mkF m 748 #[(jV arg0), sV, (iV arg1), (iV arg2), (iV v1), (iV v4), (iV v7), (iV v8), (iV v10), (iV v12), (rV b13), (rV b79), (iV v129), (iV r_131), (iV (1 : Int32))] [(.int (1 : Int32)), (.int (1 : Int32))])) (fun t k => st145 t k) ?_
  refine own_st (B := T145.setTop (mkF m 749 #[(jV arg0), sV, (iV arg1), (iV arg2), (iV v1), (iV v4), (iV v7), (iV v8), (iV v10), (iV v12), (rV b13), (rV b79), (iV v129), (iV r_131), (iV (1 : Int32))] [(.int ((1 : Int32) &&& (1 : Int32)))])) (fun t k => XS.iand X145.here hx rfl (hb hby at_748) rfl k) ?_
  rw [show ((1 : Int32) &&& (1 : Int32)) = (1 : Int32) from by decide]
  refine own_st (B := T145.setTop (mkF m 751 #[(jV arg0), sV, (iV arg1), (iV arg2), (iV v1), (iV v4), (iV v7), (iV v8), (iV v10), (iV v12), (rV b13), (rV b79), (iV v129), (iV r_131), (iV (1 : Int32))] [])) (fun t k => XS.istore X145.here hx rfl (hb hby at_749) rfl (l' := #[(jV arg0), sV, (iV arg1), (iV arg2), (iV v1), (iV v4), (iV v7), (iV v8), (iV v10), (iV v12), (rV b13), (rV b79), (iV v129), (iV r_131), (iV (1 : Int32))]) rfl k) ?_
  refine own_st (B := T145.setTop (mkF m 753 #[(jV arg0), sV, (iV arg1), (iV arg2), (iV v1), (iV v4), (iV v7), (iV v8), (iV v10), (iV v12), (rV b13), (rV b79), (iV v129), (iV r_131), (iV (1 : Int32))] [(.int (1 : Int32))])) (fun t k => XS.iload X145.here hx rfl (hb hby at_751) rfl k) ?_
  refine own_st (B := T145.setTop (mkF m 755 #[(jV arg0), sV, (iV arg1), (iV arg2), (iV v1), (iV v4), (iV v7), (iV v8), (iV v10), (iV v12), (rV b13), (rV b79), (iV v129), (iV r_131), (iV (1 : Int32))] [(.ref b79), (.int (1 : Int32))])) (fun t k => XS.aload X145.here hx rfl (hb hby at_753) rfl rfl k) ?_
  refine own_st (B := T145.setTop (mkF m 757 #[(jV arg0), sV, (iV arg1), (iV arg2), (iV v1), (iV v4), (iV v7), (iV v8), (iV v10), (iV v12), (rV b13), (rV b79), (iV v129), (iV r_131), (iV (1 : Int32))] [(.int (12 : Int32)), (.ref b79), (.int (1 : Int32))])) (fun t k => XS.bipush X145.here hx rfl (hb hby at_755) k) ?_
  refine own_st (B := T145.setTop (mkF m 758 #[(jV arg0), sV, (iV arg1), (iV arg2), (iV v1), (iV v4), (iV v7), (iV v8), (iV v10), (iV v12), (rV b13), (rV b79), (iV v129), (iV r_131), (iV (1 : Int32))] [(.long arg0), (.int (12 : Int32)), (.ref b79), (.int (1 : Int32))])) (fun t k => XS.lloadN X145.here hx rfl (hb hby at_757) rfl k) ?_
  refine own_st (B := T145.setTop (mkF m 760 #[(jV arg0), sV, (iV arg1), (iV arg2), (iV v1), (iV v4), (iV v7), (iV v8), (iV v10), (iV v12), (rV b13), (rV b79), (iV v129), (iV r_131), (iV (1 : Int32))] [(.int v7), (.long arg0), (.int (12 : Int32)), (.ref b79), (.int (1 : Int32))])) (fun t k => XS.iload X145.here hx rfl (hb hby at_758) rfl k) ?_
  refine own_st (B := T145.setTop (mkF m 762 #[(jV arg0), sV, (iV arg1), (iV arg2), (iV v1), (iV v4), (iV v7), (iV v8), (iV v10), (iV v12), (rV b13), (rV b79), (iV v129), (iV r_131), (iV (1 : Int32))] [(.int v4), (.int v7), (.long arg0), (.int (12 : Int32)), (.ref b79), (.int (1 : Int32))])) (fun t k => XS.iload X145.here hx rfl (hb hby at_760) rfl k) ?_
  refine own_st (B := T145.setTop (mkF m 764 #[(jV arg0), sV, (iV arg1), (iV arg2), (iV v1), (iV v4), (iV v7), (iV v8), (iV v10), (iV v12), (rV b13), (rV b79), (iV v129), (iV r_131), (iV (1 : Int32))] [(.int v12), (.int v4), (.int v7), (.long arg0), (.int (12 : Int32)), (.ref b79), (.int (1 : Int32))])) (fun t k => XS.iload X145.here hx rfl (hb hby at_762) rfl k) ?_
  refine own_st (B := T145.setTop (mkF m 766 #[(jV arg0), sV, (iV arg1), (iV arg2), (iV v1), (iV v4), (iV v7), (iV v8), (iV v10), (iV v12), (rV b13), (rV b79), (iV v129), (iV r_131), (iV (1 : Int32))] [(.int v129), (.int v12), (.int v4), (.int v7), (.long arg0), (.int (12 : Int32)), (.ref b79), (.int (1 : Int32))])) (fun t k => XS.iload X145.here hx rfl (hb hby at_764) rfl k) ?_
  refine own_st (B := T145.setTop (mkF m 767 #[(jV arg0), sV, (iV arg1), (iV arg2), (iV v1), (iV v4), (iV v7), (iV v8), (iV v10), (iV v12), (rV b13), (rV b79), (iV v129), (iV r_131), (iV (1 : Int32))] [(.int arg2), (.int v129), (.int v12), (.int v4), (.int v7), (.long arg0), (.int (12 : Int32)), (.ref b79), (.int (1 : Int32))])) (fun t k => XS.iloadN X145.here hx rfl (hb hby at_766) rfl k) ?_
  obtain ⟨_, _, ⟨T146, L146, k146, j146⟩, -, X146, ⟨Lc146, hQ146, l146, y146_, z146_⟩, st146⟩ := Jvm.LawKit.callS X145 hx (y := (⟨"com/example/relayframe/relayframe/PalettePackPinLaw", "same", "([BIJIIIII)Z"⟩ : MethodName)) hown (mvT hZ (w_13 hw)) (mvT hZ (w_14 hw)) (mvT hZ (w_7 hw)) (mvT hZ (w_15 hw)) (by decide) (backOf (W := 1) (rm4 l Z a0 hw [] b79 (12 : Int32) arg0 v7 v4 v12 v129 arg2 w2_131 12 T131.heap n0 z132 p131_0 (show (12 : Int32).toInt = (12 : Int) by decide) (own_b0 (own_bits hv4)) (own_nz (own_bits hv4) (own_w8r (own_w8 ev7)) hEN) (own_he (show (12 : Int32).toInt = ((12 : Nat) : Int) by decide) (by decide) (own_o7 ev12) hEN2 hOW rfl)) hZ (w_15 hw) (w_7 hw) (by decide) (by decide)) (g := (mkF m 767 #[(jV arg0), sV, (iV arg1), (iV arg2), (iV v1), (iV v4), (iV v7), (iV v8), (iV v10), (iV v12), (rV b13), (rV b79), (iV v129), (iV r_131), (iV (1 : Int32))] [(.int arg2), (.int v129), (.int v12), (.int v4), (.int v7), (.long arg0), (.int (12 : Int32)), (.ref b79), (.int (1 : Int32))])) rfl (by rw [hml]; rfl) (argsL := [(.ref b79), (.int (12 : Int32)), (.long arg0), (.int v7), (.int v4), (.int v12), (.int v129), (.int arg2)]) (rest := [(.int (1 : Int32))]) (lenOf own_pd7 rfl) rfl (by show 2 * 0 + _ ≤ _; exact Nat.le_of_eq rfl) (hb hby at_767) (fun _ _ => ⟨rfl, e145q, (by decide : 2 + 0 ≤ _), (by decide : 32 + 0 ≤ _)⟩)
  dsimp only [Pt.U, Pt.locs, Pt.cells, Pt.slots] at X146 l146 y146_ z146_ st146 hQ146
  obtain rfl : k146 = 2 := y146_
  obtain rfl : j146 = 32 := z146_
  obtain ⟨rfl, N146q, e146q⟩ := hQ146
  have N146 : Fr n0 L146 := by rw [l146]; exact Fr.app N145 N146q
  refine own_st (B := T146.setTop (mkF m 770 #[(jV arg0), sV, (iV arg1), (iV arg2), (iV v1), (iV v4), (iV v7), (iV v8), (iV v10), (iV v12), (rV b13), (rV b79), (iV v129), (iV r_131), (iV (1 : Int32))] [(.int (1 : Int32)), (.int (1 : Int32))])) (fun t k => st146 t k) ?_
  refine own_st (B := T146.setTop (mkF m 771 #[(jV arg0), sV, (iV arg1), (iV arg2), (iV v1), (iV v4), (iV v7), (iV v8), (iV v10), (iV v12), (rV b13), (rV b79), (iV v129), (iV r_131), (iV (1 : Int32))] [(.int ((1 : Int32) &&& (1 : Int32)))])) (fun t k => XS.iand X146.here hx rfl (hb hby at_770) rfl k) ?_
  rw [show ((1 : Int32) &&& (1 : Int32)) = (1 : Int32) from by decide]
  refine own_st (B := T146.setTop (mkF m 773 #[(jV arg0), sV, (iV arg1), (iV arg2), (iV v1), (iV v4), (iV v7), (iV v8), (iV v10), (iV v12), (rV b13), (rV b79), (iV v129), (iV r_131), (iV (1 : Int32))] [])) (fun t k => XS.istore X146.here hx rfl (hb hby at_771) rfl (l' := #[(jV arg0), sV, (iV arg1), (iV arg2), (iV v1), (iV v4), (iV v7), (iV v8), (iV v10), (iV v12), (rV b13), (rV b79), (iV v129), (iV r_131), (iV (1 : Int32))]) rfl k) ?_
  refine own_st (B := T146.setTop (mkF m 775 #[(jV arg0), sV, (iV arg1), (iV arg2), (iV v1), (iV v4), (iV v7), (iV v8), (iV v10), (iV v12), (rV b13), (rV b79), (iV v129), (iV r_131), (iV (1 : Int32))] [(.int (1 : Int32))])) (fun t k => XS.iload X146.here hx rfl (hb hby at_773) rfl k) ?_
  refine own_st (B := T146.setTop (mkF m 777 #[(jV arg0), sV, (iV arg1), (iV arg2), (iV v1), (iV v4), (iV v7), (iV v8), (iV v10), (iV v12), (rV b13), (rV b79), (iV v129), (iV r_131), (iV (1 : Int32))] [(.ref b79), (.int (1 : Int32))])) (fun t k => XS.aload X146.here hx rfl (hb hby at_775) rfl rfl k) ?_
  refine own_st (B := T146.setTop (mkF m 779 #[(jV arg0), sV, (iV arg1), (iV arg2), (iV v1), (iV v4), (iV v7), (iV v8), (iV v10), (iV v12), (rV b13), (rV b79), (iV v129), (iV r_131), (iV (1 : Int32))] [(.int (13 : Int32)), (.ref b79), (.int (1 : Int32))])) (fun t k => XS.bipush X146.here hx rfl (hb hby at_777) k) ?_
  refine own_st (B := T146.setTop (mkF m 780 #[(jV arg0), sV, (iV arg1), (iV arg2), (iV v1), (iV v4), (iV v7), (iV v8), (iV v10), (iV v12), (rV b13), (rV b79), (iV v129), (iV r_131), (iV (1 : Int32))] [(.long arg0), (.int (13 : Int32)), (.ref b79), (.int (1 : Int32))])) (fun t k => XS.lloadN X146.here hx rfl (hb hby at_779) rfl k) ?_
  refine own_st (B := T146.setTop (mkF m 782 #[(jV arg0), sV, (iV arg1), (iV arg2), (iV v1), (iV v4), (iV v7), (iV v8), (iV v10), (iV v12), (rV b13), (rV b79), (iV v129), (iV r_131), (iV (1 : Int32))] [(.int v7), (.long arg0), (.int (13 : Int32)), (.ref b79), (.int (1 : Int32))])) (fun t k => XS.iload X146.here hx rfl (hb hby at_780) rfl k) ?_
  refine own_st (B := T146.setTop (mkF m 784 #[(jV arg0), sV, (iV arg1), (iV arg2), (iV v1), (iV v4), (iV v7), (iV v8), (iV v10), (iV v12), (rV b13), (rV b79), (iV v129), (iV r_131), (iV (1 : Int32))] [(.int v4), (.int v7), (.long arg0), (.int (13 : Int32)), (.ref b79), (.int (1 : Int32))])) (fun t k => XS.iload X146.here hx rfl (hb hby at_782) rfl k) ?_
  refine own_st (B := T146.setTop (mkF m 786 #[(jV arg0), sV, (iV arg1), (iV arg2), (iV v1), (iV v4), (iV v7), (iV v8), (iV v10), (iV v12), (rV b13), (rV b79), (iV v129), (iV r_131), (iV (1 : Int32))] [(.int v12), (.int v4), (.int v7), (.long arg0), (.int (13 : Int32)), (.ref b79), (.int (1 : Int32))])) (fun t k => XS.iload X146.here hx rfl (hb hby at_784) rfl k) ?_
  refine own_st (B := T146.setTop (mkF m 788 #[(jV arg0), sV, (iV arg1), (iV arg2), (iV v1), (iV v4), (iV v7), (iV v8), (iV v10), (iV v12), (rV b13), (rV b79), (iV v129), (iV r_131), (iV (1 : Int32))] [(.int v129), (.int v12), (.int v4), (.int v7), (.long arg0), (.int (13 : Int32)), (.ref b79), (.int (1 : Int32))])) (fun t k => XS.iload X146.here hx rfl (hb hby at_786) rfl k) ?_
  refine own_st (B := T146.setTop (mkF m 789 #[(jV arg0), sV, (iV arg1), (iV arg2), (iV v1), (iV v4), (iV v7), (iV v8), (iV v10), (iV v12), (rV b13), (rV b79), (iV v129), (iV r_131), (iV (1 : Int32))] [(.int arg2), (.int v129), (.int v12), (.int v4), (.int v7), (.long arg0), (.int (13 : Int32)), (.ref b79), (.int (1 : Int32))])) (fun t k => XS.iloadN X146.here hx rfl (hb hby at_788) rfl k) ?_
  obtain ⟨_, _, ⟨T147, L147, k147, j147⟩, -, X147, ⟨Lc147, hQ147, l147, y147_, z147_⟩, st147⟩ := Jvm.LawKit.callS X146 hx (y := (⟨"com/example/relayframe/relayframe/PalettePackPinLaw", "same", "([BIJIIIII)Z"⟩ : MethodName)) hown (mvT hZ (w_13 hw)) (mvT hZ (w_14 hw)) (mvT hZ (w_7 hw)) (mvT hZ (w_15 hw)) (by decide) (backOf (W := 1) (rm4 l Z a0 hw [] b79 (13 : Int32) arg0 v7 v4 v12 v129 arg2 w2_131 13 T131.heap n0 z132 p131_0 (show (13 : Int32).toInt = (13 : Int) by decide) (own_b0 (own_bits hv4)) (own_nz (own_bits hv4) (own_w8r (own_w8 ev7)) hEN) (own_he (show (13 : Int32).toInt = ((13 : Nat) : Int) by decide) (by decide) (own_o7 ev12) hEN2 hOW rfl)) hZ (w_15 hw) (w_7 hw) (by decide) (by decide)) (g := (mkF m 789 #[(jV arg0), sV, (iV arg1), (iV arg2), (iV v1), (iV v4), (iV v7), (iV v8), (iV v10), (iV v12), (rV b13), (rV b79), (iV v129), (iV r_131), (iV (1 : Int32))] [(.int arg2), (.int v129), (.int v12), (.int v4), (.int v7), (.long arg0), (.int (13 : Int32)), (.ref b79), (.int (1 : Int32))])) rfl (by rw [hml]; rfl) (argsL := [(.ref b79), (.int (13 : Int32)), (.long arg0), (.int v7), (.int v4), (.int v12), (.int v129), (.int arg2)]) (rest := [(.int (1 : Int32))]) (lenOf own_pd7 rfl) rfl (by show 2 * 0 + _ ≤ _; exact Nat.le_of_eq rfl) (hb hby at_789) (fun _ _ => ⟨rfl, e146q, (by decide : 2 + 0 ≤ _), (by decide : 32 + 0 ≤ _)⟩)
  dsimp only [Pt.U, Pt.locs, Pt.cells, Pt.slots] at X147 l147 y147_ z147_ st147 hQ147
  obtain rfl : k147 = 2 := y147_
  obtain rfl : j147 = 32 := z147_
  obtain ⟨rfl, N147q, e147q⟩ := hQ147
  have N147 : Fr n0 L147 := by rw [l147]; exact Fr.app N146 N147q
  refine own_st (B := T147.setTop (mkF m 792 #[(jV arg0), sV, (iV arg1), (iV arg2), (iV v1), (iV v4), (iV v7), (iV v8), (iV v10), (iV v12), (rV b13), (rV b79), (iV v129), (iV r_131), (iV (1 : Int32))] [(.int (1 : Int32)), (.int (1 : Int32))])) (fun t k => st147 t k) ?_
  refine own_st (B := T147.setTop (mkF m 793 #[(jV arg0), sV, (iV arg1), (iV arg2), (iV v1), (iV v4), (iV v7), (iV v8), (iV v10), (iV v12), (rV b13), (rV b79), (iV v129), (iV r_131), (iV (1 : Int32))] [(.int ((1 : Int32) &&& (1 : Int32)))])) (fun t k => XS.iand X147.here hx rfl (hb hby at_792) rfl k) ?_
  rw [show ((1 : Int32) &&& (1 : Int32)) = (1 : Int32) from by decide]
  refine own_st (B := T147.setTop (mkF m 795 #[(jV arg0), sV, (iV arg1), (iV arg2), (iV v1), (iV v4), (iV v7), (iV v8), (iV v10), (iV v12), (rV b13), (rV b79), (iV v129), (iV r_131), (iV (1 : Int32))] [])) (fun t k => XS.istore X147.here hx rfl (hb hby at_793) rfl (l' := #[(jV arg0), sV, (iV arg1), (iV arg2), (iV v1), (iV v4), (iV v7), (iV v8), (iV v10), (iV v12), (rV b13), (rV b79), (iV v129), (iV r_131), (iV (1 : Int32))]) rfl k) ?_
  refine own_st (B := T147.setTop (mkF m 797 #[(jV arg0), sV, (iV arg1), (iV arg2), (iV v1), (iV v4), (iV v7), (iV v8), (iV v10), (iV v12), (rV b13), (rV b79), (iV v129), (iV r_131), (iV (1 : Int32))] [(.int (1 : Int32))])) (fun t k => XS.iload X147.here hx rfl (hb hby at_795) rfl k) ?_
  refine own_st (B := T147.setTop (mkF m 799 #[(jV arg0), sV, (iV arg1), (iV arg2), (iV v1), (iV v4), (iV v7), (iV v8), (iV v10), (iV v12), (rV b13), (rV b79), (iV v129), (iV r_131), (iV (1 : Int32))] [(.ref b79), (.int (1 : Int32))])) (fun t k => XS.aload X147.here hx rfl (hb hby at_797) rfl rfl k) ?_
  refine own_st (B := T147.setTop (mkF m 801 #[(jV arg0), sV, (iV arg1), (iV arg2), (iV v1), (iV v4), (iV v7), (iV v8), (iV v10), (iV v12), (rV b13), (rV b79), (iV v129), (iV r_131), (iV (1 : Int32))] [(.int (14 : Int32)), (.ref b79), (.int (1 : Int32))])) (fun t k => XS.bipush X147.here hx rfl (hb hby at_799) k) ?_
  refine own_st (B := T147.setTop (mkF m 802 #[(jV arg0), sV, (iV arg1), (iV arg2), (iV v1), (iV v4), (iV v7), (iV v8), (iV v10), (iV v12), (rV b13), (rV b79), (iV v129), (iV r_131), (iV (1 : Int32))] [(.long arg0), (.int (14 : Int32)), (.ref b79), (.int (1 : Int32))])) (fun t k => XS.lloadN X147.here hx rfl (hb hby at_801) rfl k) ?_
  refine own_st (B := T147.setTop (mkF m 804 #[(jV arg0), sV, (iV arg1), (iV arg2), (iV v1), (iV v4), (iV v7), (iV v8), (iV v10), (iV v12), (rV b13), (rV b79), (iV v129), (iV r_131), (iV (1 : Int32))] [(.int v7), (.long arg0), (.int (14 : Int32)), (.ref b79), (.int (1 : Int32))])) (fun t k => XS.iload X147.here hx rfl (hb hby at_802) rfl k) ?_
  refine own_st (B := T147.setTop (mkF m 806 #[(jV arg0), sV, (iV arg1), (iV arg2), (iV v1), (iV v4), (iV v7), (iV v8), (iV v10), (iV v12), (rV b13), (rV b79), (iV v129), (iV r_131), (iV (1 : Int32))] [(.int v4), (.int v7), (.long arg0), (.int (14 : Int32)), (.ref b79), (.int (1 : Int32))])) (fun t k => XS.iload X147.here hx rfl (hb hby at_804) rfl k) ?_
  refine own_st (B := T147.setTop (mkF m 808 #[(jV arg0), sV, (iV arg1), (iV arg2), (iV v1), (iV v4), (iV v7), (iV v8), (iV v10), (iV v12), (rV b13), (rV b79), (iV v129), (iV r_131), (iV (1 : Int32))] [(.int v12), (.int v4), (.int v7), (.long arg0), (.int (14 : Int32)), (.ref b79), (.int (1 : Int32))])) (fun t k => XS.iload X147.here hx rfl (hb hby at_806) rfl k) ?_
  refine own_st (B := T147.setTop (mkF m 810 #[(jV arg0), sV, (iV arg1), (iV arg2), (iV v1), (iV v4), (iV v7), (iV v8), (iV v10), (iV v12), (rV b13), (rV b79), (iV v129), (iV r_131), (iV (1 : Int32))] [(.int v129), (.int v12), (.int v4), (.int v7), (.long arg0), (.int (14 : Int32)), (.ref b79), (.int (1 : Int32))])) (fun t k => XS.iload X147.here hx rfl (hb hby at_808) rfl k) ?_
  refine own_st (B := T147.setTop (mkF m 811 #[(jV arg0), sV, (iV arg1), (iV arg2), (iV v1), (iV v4), (iV v7), (iV v8), (iV v10), (iV v12), (rV b13), (rV b79), (iV v129), (iV r_131), (iV (1 : Int32))] [(.int arg2), (.int v129), (.int v12), (.int v4), (.int v7), (.long arg0), (.int (14 : Int32)), (.ref b79), (.int (1 : Int32))])) (fun t k => XS.iloadN X147.here hx rfl (hb hby at_810) rfl k) ?_
  obtain ⟨_, _, ⟨T148, L148, k148, j148⟩, -, X148, ⟨Lc148, hQ148, l148, y148_, z148_⟩, st148⟩ := Jvm.LawKit.callS X147 hx (y := (⟨"com/example/relayframe/relayframe/PalettePackPinLaw", "same", "([BIJIIIII)Z"⟩ : MethodName)) hown (mvT hZ (w_13 hw)) (mvT hZ (w_14 hw)) (mvT hZ (w_7 hw)) (mvT hZ (w_15 hw)) (by decide) (backOf (W := 1) (rm4 l Z a0 hw [] b79 (14 : Int32) arg0 v7 v4 v12 v129 arg2 w2_131 14 T131.heap n0 z132 p131_0 (show (14 : Int32).toInt = (14 : Int) by decide) (own_b0 (own_bits hv4)) (own_nz (own_bits hv4) (own_w8r (own_w8 ev7)) hEN) (own_he (show (14 : Int32).toInt = ((14 : Nat) : Int) by decide) (by decide) (own_o7 ev12) hEN2 hOW rfl)) hZ (w_15 hw) (w_7 hw) (by decide) (by decide)) (g := (mkF m 811 #[(jV arg0), sV, (iV arg1), (iV arg2), (iV v1), (iV v4), (iV v7), (iV v8), (iV v10), (iV v12), (rV b13), (rV b79), (iV v129), (iV r_131), (iV (1 : Int32))] [(.int arg2), (.int v129), (.int v12), (.int v4), (.int v7), (.long arg0), (.int (14 : Int32)), (.ref b79), (.int (1 : Int32))])) rfl (by rw [hml]; rfl) (argsL := [(.ref b79), (.int (14 : Int32)), (.long arg0), (.int v7), (.int v4), (.int v12), (.int v129), (.int arg2)]) (rest := [(.int (1 : Int32))]) (lenOf own_pd7 rfl) rfl (by show 2 * 0 + _ ≤ _; exact Nat.le_of_eq rfl) (hb hby at_811) (fun _ _ => ⟨rfl, e147q, (by decide : 2 + 0 ≤ _), (by decide : 32 + 0 ≤ _)⟩)
  dsimp only [Pt.U, Pt.locs, Pt.cells, Pt.slots] at X148 l148 y148_ z148_ st148 hQ148
  obtain rfl : k148 = 2 := y148_
  obtain rfl : j148 = 32 := z148_
  obtain ⟨rfl, N148q, e148q⟩ := hQ148
  have N148 : Fr n0 L148 := by rw [l148]; exact Fr.app N147 N148q
  refine own_st (B := T148.setTop (mkF m 814 #[(jV arg0), sV, (iV arg1), (iV arg2), (iV v1), (iV v4), (iV v7), (iV v8), (iV v10), (iV v12), (rV b13), (rV b79), (iV v129), (iV r_131), (iV (1 : Int32))] [(.int (1 : Int32)), (.int (1 : Int32))])) (fun t k => st148 t k) ?_
  refine own_st (B := T148.setTop (mkF m 815 #[(jV arg0), sV, (iV arg1), (iV arg2), (iV v1), (iV v4), (iV v7), (iV v8), (iV v10), (iV v12), (rV b13), (rV b79), (iV v129), (iV r_131), (iV (1 : Int32))] [(.int ((1 : Int32) &&& (1 : Int32)))])) (fun t k => XS.iand X148.here hx rfl (hb hby at_814) rfl k) ?_
  rw [show ((1 : Int32) &&& (1 : Int32)) = (1 : Int32) from by decide]
  refine own_st (B := T148.setTop (mkF m 817 #[(jV arg0), sV, (iV arg1), (iV arg2), (iV v1), (iV v4), (iV v7), (iV v8), (iV v10), (iV v12), (rV b13), (rV b79), (iV v129), (iV r_131), (iV (1 : Int32))] [])) (fun t k => XS.istore X148.here hx rfl (hb hby at_815) rfl (l' := #[(jV arg0), sV, (iV arg1), (iV arg2), (iV v1), (iV v4), (iV v7), (iV v8), (iV v10), (iV v12), (rV b13), (rV b79), (iV v129), (iV r_131), (iV (1 : Int32))]) rfl k) ?_
  refine own_st (B := T148.setTop (mkF m 819 #[(jV arg0), sV, (iV arg1), (iV arg2), (iV v1), (iV v4), (iV v7), (iV v8), (iV v10), (iV v12), (rV b13), (rV b79), (iV v129), (iV r_131), (iV (1 : Int32))] [(.int (1 : Int32))])) (fun t k => XS.iload X148.here hx rfl (hb hby at_817) rfl k) ?_
  refine own_st (B := T148.setTop (mkF m 821 #[(jV arg0), sV, (iV arg1), (iV arg2), (iV v1), (iV v4), (iV v7), (iV v8), (iV v10), (iV v12), (rV b13), (rV b79), (iV v129), (iV r_131), (iV (1 : Int32))] [(.ref b79), (.int (1 : Int32))])) (fun t k => XS.aload X148.here hx rfl (hb hby at_819) rfl rfl k) ?_
  refine own_st (B := T148.setTop (mkF m 823 #[(jV arg0), sV, (iV arg1), (iV arg2), (iV v1), (iV v4), (iV v7), (iV v8), (iV v10), (iV v12), (rV b13), (rV b79), (iV v129), (iV r_131), (iV (1 : Int32))] [(.int (15 : Int32)), (.ref b79), (.int (1 : Int32))])) (fun t k => XS.bipush X148.here hx rfl (hb hby at_821) k) ?_
  refine own_st (B := T148.setTop (mkF m 824 #[(jV arg0), sV, (iV arg1), (iV arg2), (iV v1), (iV v4), (iV v7), (iV v8), (iV v10), (iV v12), (rV b13), (rV b79), (iV v129), (iV r_131), (iV (1 : Int32))] [(.long arg0), (.int (15 : Int32)), (.ref b79), (.int (1 : Int32))])) (fun t k => XS.lloadN X148.here hx rfl (hb hby at_823) rfl k) ?_
  refine own_st (B := T148.setTop (mkF m 826 #[(jV arg0), sV, (iV arg1), (iV arg2), (iV v1), (iV v4), (iV v7), (iV v8), (iV v10), (iV v12), (rV b13), (rV b79), (iV v129), (iV r_131), (iV (1 : Int32))] [(.int v7), (.long arg0), (.int (15 : Int32)), (.ref b79), (.int (1 : Int32))])) (fun t k => XS.iload X148.here hx rfl (hb hby at_824) rfl k) ?_
  refine own_st (B := T148.setTop (mkF m 828 #[(jV arg0), sV, (iV arg1), (iV arg2), (iV v1), (iV v4), (iV v7), (iV v8), (iV v10), (iV v12), (rV b13), (rV b79), (iV v129), (iV r_131), (iV (1 : Int32))] [(.int v4), (.int v7), (.long arg0), (.int (15 : Int32)), (.ref b79), (.int (1 : Int32))])) (fun t k => XS.iload X148.here hx rfl (hb hby at_826) rfl k) ?_
  refine own_st (B := T148.setTop (mkF m 830 #[(jV arg0), sV, (iV arg1), (iV arg2), (iV v1), (iV v4), (iV v7), (iV v8), (iV v10), (iV v12), (rV b13), (rV b79), (iV v129), (iV r_131), (iV (1 : Int32))] [(.int v12), (.int v4), (.int v7), (.long arg0), (.int (15 : Int32)), (.ref b79), (.int (1 : Int32))])) (fun t k => XS.iload X148.here hx rfl (hb hby at_828) rfl k) ?_
  refine own_st (B := T148.setTop (mkF m 832 #[(jV arg0), sV, (iV arg1), (iV arg2), (iV v1), (iV v4), (iV v7), (iV v8), (iV v10), (iV v12), (rV b13), (rV b79), (iV v129), (iV r_131), (iV (1 : Int32))] [(.int v129), (.int v12), (.int v4), (.int v7), (.long arg0), (.int (15 : Int32)), (.ref b79), (.int (1 : Int32))])) (fun t k => XS.iload X148.here hx rfl (hb hby at_830) rfl k) ?_
  refine own_st (B := T148.setTop (mkF m 833 #[(jV arg0), sV, (iV arg1), (iV arg2), (iV v1), (iV v4), (iV v7), (iV v8), (iV v10), (iV v12), (rV b13), (rV b79), (iV v129), (iV r_131), (iV (1 : Int32))] [(.int arg2), (.int v129), (.int v12), (.int v4), (.int v7), (.long arg0), (.int (15 : Int32)), (.ref b79), (.int (1 : Int32))])) (fun t k => XS.iloadN X148.here hx rfl (hb hby at_832) rfl k) ?_
  obtain ⟨_, _, ⟨T149, L149, k149, j149⟩, -, X149, ⟨Lc149, hQ149, l149, y149_, z149_⟩, st149⟩ := Jvm.LawKit.callS X148 hx (y := (⟨"com/example/relayframe/relayframe/PalettePackPinLaw", "same", "([BIJIIIII)Z"⟩ : MethodName)) hown (mvT hZ (w_13 hw)) (mvT hZ (w_14 hw)) (mvT hZ (w_7 hw)) (mvT hZ (w_15 hw)) (by decide) (backOf (W := 1) (rm4 l Z a0 hw [] b79 (15 : Int32) arg0 v7 v4 v12 v129 arg2 w2_131 15 T131.heap n0 z132 p131_0 (show (15 : Int32).toInt = (15 : Int) by decide) (own_b0 (own_bits hv4)) (own_nz (own_bits hv4) (own_w8r (own_w8 ev7)) hEN) (own_he (show (15 : Int32).toInt = ((15 : Nat) : Int) by decide) (by decide) (own_o7 ev12) hEN2 hOW rfl)) hZ (w_15 hw) (w_7 hw) (by decide) (by decide)) (g := (mkF m 833 #[(jV arg0), sV, (iV arg1), (iV arg2), (iV v1), (iV v4), (iV v7), (iV v8), (iV v10), (iV v12), (rV b13), (rV b79), (iV v129), (iV r_131), (iV (1 : Int32))] [(.int arg2), (.int v129), (.int v12), (.int v4), (.int v7), (.long arg0), (.int (15 : Int32)), (.ref b79), (.int (1 : Int32))])) rfl (by rw [hml]; rfl) (argsL := [(.ref b79), (.int (15 : Int32)), (.long arg0), (.int v7), (.int v4), (.int v12), (.int v129), (.int arg2)]) (rest := [(.int (1 : Int32))]) (lenOf own_pd7 rfl) rfl (by show 2 * 0 + _ ≤ _; exact Nat.le_of_eq rfl) (hb hby at_833) (fun _ _ => ⟨rfl, e148q, (by decide : 2 + 0 ≤ _), (by decide : 32 + 0 ≤ _)⟩)
  dsimp only [Pt.U, Pt.locs, Pt.cells, Pt.slots] at X149 l149 y149_ z149_ st149 hQ149
  obtain rfl : k149 = 2 := y149_
  obtain rfl : j149 = 32 := z149_
  obtain ⟨rfl, N149q, e149q⟩ := hQ149
  have N149 : Fr n0 L149 := by rw [l149]; exact Fr.app N148 N149q
  refine own_st (B := T149.setTop (mkF m 836 #[(jV arg0), sV, (iV arg1), (iV arg2), (iV v1), (iV v4), (iV v7), (iV v8), (iV v10), (iV v12), (rV b13), (rV b79), (iV v129), (iV r_131), (iV (1 : Int32))] [(.int (1 : Int32)), (.int (1 : Int32))])) (fun t k => st149 t k) ?_
  refine own_st (B := T149.setTop (mkF m 837 #[(jV arg0), sV, (iV arg1), (iV arg2), (iV v1), (iV v4), (iV v7), (iV v8), (iV v10), (iV v12), (rV b13), (rV b79), (iV v129), (iV r_131), (iV (1 : Int32))] [(.int ((1 : Int32) &&& (1 : Int32)))])) (fun t k => XS.iand X149.here hx rfl (hb hby at_836) rfl k) ?_
  rw [show ((1 : Int32) &&& (1 : Int32)) = (1 : Int32) from by decide]
  refine own_st (B := T149.setTop (mkF m 839 #[(jV arg0), sV, (iV arg1), (iV arg2), (iV v1), (iV v4), (iV v7), (iV v8), (iV v10), (iV v12), (rV b13), (rV b79), (iV v129), (iV r_131), (iV (1 : Int32))] [])) (fun t k => XS.istore X149.here hx rfl (hb hby at_837) rfl (l' := #[(jV arg0), sV, (iV arg1), (iV arg2), (iV v1), (iV v4), (iV v7), (iV v8), (iV v10), (iV v12), (rV b13), (rV b79), (iV v129), (iV r_131), (iV (1 : Int32))]) rfl k) ?_
  refine own_st (B := T149.setTop (mkF m 841 #[(jV arg0), sV, (iV arg1), (iV arg2), (iV v1), (iV v4), (iV v7), (iV v8), (iV v10), (iV v12), (rV b13), (rV b79), (iV v129), (iV r_131), (iV (1 : Int32))] [(.int (1 : Int32))])) (fun t k => XS.iload X149.here hx rfl (hb hby at_839) rfl k) ?_
  refine own_retN X149 hx hlk (t := .boolean) Bd.returns (by simp) (z' := (1 : Int32)) rfl (hb hby at_841) (by decide) (by decide) ?_
  show Q0 Z arg0 arg1 arg2 h0 n0 _ T149.heap _
  rw [e149q]
  exact ⟨rfl, N149⟩
set_option maxHeartbeats 40000000 in
theorem comes_1 {Post : Tables → Env → Array Value → State → Outcome → State → Prop} (hpost : ∀ tb e args s v u, (limb_1_1.after args s (.returned v) u = true ∧ limb_1_2.after args s (.returned v) u = true ∧ True) → FrameEnd s (.returned v) u (Jvm.fieldLocs frame_1_writes args s ++ Jvm.arrayLocs frame_1_arrays args s ++ Jvm.staticLocs frame_1_statics s) 16 128 → Post tb e args s (.returned v) u) :
    ArmFor flags0 classFile x code maxLocals ret World_1 tables_1 room_1 Calls_1 rest_1 Pre_1 Post := by
  intro l hfl _ _ p e ha hc hk s m args below hf hA hF happ hP
  obtain ⟨hcalls, hrest, hpre⟩ := hP
  obtain ⟨-, -, -, hnamed, -, -, -, hat⟩ := (Spec.applies_iff hf).mp happ
  obtain ⟨hg, hn⟩ := and_e (Cond.before_iff.mp (show (Jvm.Cond.and given_1 narrow_1).before args s = true from hpre))
  obtain ⟨g1a, g1b⟩ := and_e hg
  obtain ⟨g2a, g2b⟩ := and_e g1b
  obtain ⟨g3a, g3b⟩ := and_e g2b
  obtain ⟨w0, w1, w2, rfl⟩ : ∃ w0 w1 w2 : Value, args = #[w0, w1, w2] := by
    have hs : args.size = 3 := by simpa [Cond.value, given_1] using g1a
    obtain ⟨L⟩ := args
    match L, hs with
    | [w0, w1, w2], _ => exact ⟨w0, w1, w2, rfl⟩
  have hw := fun d (hd : d ∈ tables_1) => atoms_spec (ws := Jvm.Cond.code x code maxLocals ret :: tables_1) hat d (List.mem_cons_of_mem _ hd)
  have hfit : Fit s := fun {y c} hc i hi => by
    obtain ⟨ha, rfl⟩ := Array.getElem?_eq_some_iff.mp hc
    have q := List.all_eq_true.mp ((Array.all_eq_true_iff_forall_mem.mp hF) _ (Array.getElem_mem ha)) i (List.mem_range.mpr hi)
    simpa [Array.getElem?_eq_getElem hi] using q
  obtain ⟨i0, ei0⟩ := isL_v g2a
  obtain rfl : w0 = (.long i0) := Option.some.inj ei0
  obtain ⟨i1, ei1⟩ := is_v g3a
  obtain rfl : w1 = (.int i1) := Option.some.inj ei1
  obtain ⟨i2, ei2⟩ := is_v g3b
  obtain rfl : w2 = (.int i2) := Option.some.inj ei2
  obtain ⟨n, o, h1, h2, h3, _, L, rfl, ⟨rfl, N⟩, hq⟩ := rm0 l s _ hw tables_1 i0 i1 i2 s.heap s.heap.size (Nat.le_refl _)  p e ha hc hk s m _ below hf ((Spec.applies_iff_loose hf).mp happ).1 ⟨rfl, State.Warmed39.refl s, rfl⟩ trivial
  refine ⟨n, _, h1, h2, h3, hpost _ _ _ _ _ _ ⟨Cond.after_iff.mpr rfl, Cond.after_iff.mpr (eq_i res_at (Term.int_eval (1)) rfl), trivial⟩ ⟨hq.1, hq.2.1, (hq.2.2.sift fun y hy => Or.inr (N y hy)).mono (by decide) (by decide)⟩⟩
theorem main_1_1 : Claimed_1_1 := comes_1 fun _ _ _ _ _ _ h hF => ⟨h.1, hF⟩
theorem main_1_2 : Claimed_1_2 := comes_1 fun _ _ _ _ _ _ h hF => ⟨h.2.1, hF⟩
end Jvm.Pilot.@@N@@
namespace Jvm.Pilot.@@N@@
open Jvm Jvm.ClassFile Sem Op Lib Jvm.Free Jvm.Stand Jvm.Pilot.@@N@@.Jvm.D
/-! MADE BY PROGRAM (witnessworld.py) out of the Statement's table words and the real class files: 10 classes; the members and pool entries that the words name. The judged class is class 1, her method 1. -/
namespace start1
open Jvm.ClassFile
def u (s : String) : CpInfo := .utf8 (stringToUtf16 s)
/-- a pool by its gaps: so many unusable entries, then the entry; so many at the end -/
def gap : Nat → List CpInfo → List CpInfo
  | 0, r => r
  | n + 1, r => .unusable :: gap n r
def poolList (es : List (Nat × CpInfo)) (last : Nat) : List CpInfo := es.foldr (fun e r => gap e.1 (e.2 :: r)) (gap last [])
def pool (es : List (Nat × CpInfo)) (last : Nat) : Array CpInfo := ⟨poolList es last⟩
def fileOf (pool : Array CpInfo) (this : Nat) (attrs : Array Attribute := #[]) (ms : Array MethodInfo := #[]) (fl : Nat := 33) (sup : Nat := 0) (ifs : Array Nat := #[]) (fds : Array FieldInfo := #[]) : ClassFile where
  minorVersion := 0
  majorVersion := 65
  constantPool := pool
  accessFlags := fl
  thisClass := this
  superClass := sup
  interfaces := ifs
  fields := fds
  methods := ms
  attributes := attrs
def plain (name : String) (sup : Option ClassId) : Class where
  name := name
  kind := .ordinary
  loader := none
  accessFlags := 33
  super := sup
  interfaces := #[]
  cf := none
  fields := #[]
  methods := #[]
  instanceTypes := #[]
  staticTypes := #[]
  resolved := #[]
  callSites := []
  init := .initialized
  statics := none
  mirror := none

def pool0 : Array CpInfo := pool [(5, u "<init>"), (0, u "()V"), (1, .class_ 10), (1, u "java/lang/Object")] 113

def k0m0 : Method := { name := "<init>", desc := "()V", sig := { parameters := [], returnType := none }, accessFlags := 1, code := none }
/-- java/lang/Object -/
def k0 : Class := { plain "java/lang/Object" none with
  accessFlags := 33
  interfaces := #[]
  cf := some (fileOf pool0 8 #[] #[{ accessFlags := 1, nameIndex := 5, descriptorIndex := 6, attributes := #[] }] 33 0 #[] #[])
  fields := #[]
  methods := #[k0m0]
  instanceTypes := #[]
  staticTypes := #[]
  resolved := Array.replicate 124 none
  statics := none }

def pool1 : Array CpInfo := pool [(2, .class_ 4), (1, u "java/lang/Object"), (0, u "<init>"), (0, u "()V"), (0, .methodref 8 9), (0, .class_ 10), (0, .nameAndType 11 12), (0, u "java/lang/Math"), (0, u "min"), (0, u "(II)I"), (0, .methodref 14 15), (0, .class_ 16), (0, .nameAndType 17 18), (0, u "com/example/relayframe/relayframe/PalettePackPinLaw"), (0, u "idx"), (0, u "(JII)I"), (0, .methodref 20 21), (0, .class_ 22), (0, .nameAndType 23 24), (0, u "com/example/relayframe/relayframe/Palette"), (0, u "pack"), (0, u "([BIII[BI)I"), (0, .methodref 14 26), (0, .nameAndType 27 28), (0, u "same"), (0, u "([BIJIIIII)Z"), (0, .methodref 14 30), (0, .nameAndType 31 32), (0, u "expectedByte"), (0, u "(JIIIIII)B"), (0, .methodref 14 34), (0, .nameAndType 35 36), (0, u "term"), (0, u "(JIIIIII)I"), (2, u "law"), (0, u "(JII)Z")] 5

def k1m0 : Method := { name := "<init>", desc := "()V", sig := { parameters := [], returnType := none }, accessFlags := 1, code := none }
def k1c1 : Code := { maxStack := 10, maxLocals := 15, code := code, exceptionTable := #[], attributes := #[] }
def k1m1 : Method := { name := "law", desc := "(JII)Z", sig := { parameters := [.long, .int, .int], returnType := some .boolean }, accessFlags := 9, code := some k1c1 }
def k1c2 : Code := { maxStack := 4, maxLocals := 4, code := method_3_code, exceptionTable := #[], attributes := #[] }
def k1m2 : Method := { name := "idx", desc := "(JII)I", sig := { parameters := [.long, .int, .int], returnType := some .int }, accessFlags := 10, code := some k1c2 }
def k1c3 : Code := { maxStack := 9, maxLocals := 9, code := method_4_code, exceptionTable := #[], attributes := #[] }
def k1m3 : Method := { name := "same", desc := "([BIJIIIII)Z", sig := { parameters := [(.array .byte), .int, .long, .int, .int, .int, .int, .int], returnType := some .boolean }, accessFlags := 10, code := some k1c3 }
def k1c4 : Code := { maxStack := 9, maxLocals := 14, code := method_5_code, exceptionTable := #[], attributes := #[] }
def k1m4 : Method := { name := "expectedByte", desc := "(JIIIIII)B", sig := { parameters := [.long, .int, .int, .int, .int, .int, .int], returnType := some .byte }, accessFlags := 10, code := some k1c4 }
def k1c5 : Code := { maxStack := 5, maxLocals := 9, code := method_6_code, exceptionTable := #[], attributes := #[] }
def k1m5 : Method := { name := "term", desc := "(JIIIIII)I", sig := { parameters := [.long, .int, .int, .int, .int, .int, .int], returnType := some .int }, accessFlags := 10, code := some k1c5 }
/-- com/example/relayframe/relayframe/PalettePackPinLaw -/
def k1 : Class := { plain "com/example/relayframe/relayframe/PalettePackPinLaw" (some 0) with
  accessFlags := 49
  interfaces := #[]
  cf := some (fileOf pool1 14 #[] #[{ accessFlags := 1, nameIndex := 5, descriptorIndex := 6, attributes := #[] }, { accessFlags := 9, nameIndex := 39, descriptorIndex := 40, attributes := #[] }, { accessFlags := 10, nameIndex := 17, descriptorIndex := 18, attributes := #[] }, { accessFlags := 10, nameIndex := 27, descriptorIndex := 28, attributes := #[] }, { accessFlags := 10, nameIndex := 31, descriptorIndex := 32, attributes := #[] }, { accessFlags := 10, nameIndex := 35, descriptorIndex := 36, attributes := #[] }] 49 2 #[] #[])
  fields := #[]
  methods := #[k1m0, k1m1, k1m2, k1m3, k1m4, k1m5]
  instanceTypes := #[]
  staticTypes := #[]
  resolved := Array.replicate 46 none
  statics := none }

def pool2 : Array CpInfo := pool [(1, .class_ 2), (0, u "java/lang/Math"), (1, .class_ 6), (1, u "java/lang/Object"), (0, u "<init>"), (0, u "()V"), (89, .class_ 100), (1, u "java/lang/Math$RandomNumberGeneratorHolder"), (71, u "negativeZeroFloatBits"), (0, u "J"), (2, u "negativeZeroDoubleBits"), (24, u "min"), (43, u "$assertionsDisabled"), (0, u "Z"), (88, u "(II)I"), (2, u "twoToTheDoubleScaleDown"), (0, u "D"), (4, u "twoToTheDoubleScaleUp"), (9, u "E"), (3, u "PI"), (2, u "TAU"), (2, u "DEGREES_TO_RADIANS"), (0, u "RADIANS_TO_DEGREES")] 94

def k2m0 : Method := { name := "<init>", desc := "()V", sig := { parameters := [], returnType := none }, accessFlags := 2, code := none }
def k2c1 : Code := { maxStack := 2, maxLocals := 2, code := jdk_29_method_69_code, exceptionTable := #[], attributes := #[] }
def k2m1 : Method := { name := "min", desc := "(II)I", sig := { parameters := [.int, .int], returnType := some .int }, accessFlags := 9, code := some k2c1 }
/-- java/lang/Math -/
def k2 : Class := { plain "java/lang/Math" (some 0) with
  accessFlags := 49
  interfaces := #[]
  cf := some (fileOf pool2 1 #[.nestMembers #[98]] #[{ accessFlags := 2, nameIndex := 7, descriptorIndex := 8, attributes := #[] }, { accessFlags := 9, nameIndex := 201, descriptorIndex := 335, attributes := #[] }] 49 4 #[] #[{ accessFlags := 25, nameIndex := 354, descriptorIndex := 339, attributes := #[] }, { accessFlags := 25, nameIndex := 358, descriptorIndex := 339, attributes := #[] }, { accessFlags := 25, nameIndex := 361, descriptorIndex := 339, attributes := #[] }, { accessFlags := 26, nameIndex := 364, descriptorIndex := 339, attributes := #[] }, { accessFlags := 26, nameIndex := 365, descriptorIndex := 339, attributes := #[] }, { accessFlags := 26, nameIndex := 172, descriptorIndex := 173, attributes := #[] }, { accessFlags := 26, nameIndex := 176, descriptorIndex := 173, attributes := #[] }, { accessFlags := 8, nameIndex := 344, descriptorIndex := 339, attributes := #[] }, { accessFlags := 8, nameIndex := 338, descriptorIndex := 339, attributes := #[] }, { accessFlags := 4120, nameIndex := 245, descriptorIndex := 246, attributes := #[] }])
  fields := #[{ name := "E", type := .double, accessFlags := 25, slot := 0, constantValue := 0 }, { name := "PI", type := .double, accessFlags := 25, slot := 1, constantValue := 0 }, { name := "TAU", type := .double, accessFlags := 25, slot := 2, constantValue := 0 }, { name := "DEGREES_TO_RADIANS", type := .double, accessFlags := 26, slot := 3, constantValue := 0 }, { name := "RADIANS_TO_DEGREES", type := .double, accessFlags := 26, slot := 4, constantValue := 0 }, { name := "negativeZeroFloatBits", type := .long, accessFlags := 26, slot := 5, constantValue := 0 }, { name := "negativeZeroDoubleBits", type := .long, accessFlags := 26, slot := 6, constantValue := 0 }, { name := "twoToTheDoubleScaleUp", type := .double, accessFlags := 8, slot := 7, constantValue := 0 }, { name := "twoToTheDoubleScaleDown", type := .double, accessFlags := 8, slot := 8, constantValue := 0 }, { name := "$assertionsDisabled", type := .boolean, accessFlags := 4120, slot := 9, constantValue := 0 }]
  methods := #[k2m0, k2m1]
  instanceTypes := #[]
  staticTypes := #[.double, .double, .double, .double, .double, .long, .long, .double, .double, .boolean]
  resolved := Array.replicate 460 none
  statics := none }

def pool3 : Array CpInfo := pool [(2, .class_ 4), (1, u "java/lang/Object"), (3, .class_ 10), (1, u "com/example/relayframe/relayframe/Palette"), (0, u "colours"), (0, u "[I"), (8, u "slotBits"), (0, u "I"), (2, u "slotColours"), (2, u "slotIndices"), (0, u "[S"), (11, u "size"), (3, u "SPREAD"), (1, u "FREE"), (0, u "S"), (10, u "pack"), (0, u "([BIII[BI)I")] 2

def k3c0 : Code := { maxStack := 5, maxLocals := 11, code := prog_3_method_7_code, exceptionTable := #[], attributes := #[] }
def k3m0 : Method := { name := "pack", desc := "([BIII[BI)I", sig := { parameters := [(.array .byte), .int, .int, .int, (.array .byte), .int], returnType := some .int }, accessFlags := 8, code := some k3c0 }
/-- com/example/relayframe/relayframe/Palette -/
def k3 : Class := { plain "com/example/relayframe/relayframe/Palette" (some 0) with
  accessFlags := 48
  interfaces := #[]
  cf := some (fileOf pool3 8 #[] #[{ accessFlags := 8, nameIndex := 59, descriptorIndex := 60, attributes := #[] }] 48 2 #[] #[{ accessFlags := 26, nameIndex := 45, descriptorIndex := 22, attributes := #[] }, { accessFlags := 26, nameIndex := 47, descriptorIndex := 48, attributes := #[] }, { accessFlags := 18, nameIndex := 11, descriptorIndex := 12, attributes := #[] }, { accessFlags := 18, nameIndex := 21, descriptorIndex := 22, attributes := #[] }, { accessFlags := 18, nameIndex := 25, descriptorIndex := 12, attributes := #[] }, { accessFlags := 18, nameIndex := 28, descriptorIndex := 29, attributes := #[] }, { accessFlags := 2, nameIndex := 41, descriptorIndex := 22, attributes := #[] }])
  fields := #[{ name := "SPREAD", type := .int, accessFlags := 26, slot := 0, constantValue := 0 }, { name := "FREE", type := .short, accessFlags := 26, slot := 1, constantValue := 0 }, { name := "colours", type := (.array .int), accessFlags := 18, slot := 0, constantValue := 0 }, { name := "slotBits", type := .int, accessFlags := 18, slot := 1, constantValue := 0 }, { name := "slotColours", type := (.array .int), accessFlags := 18, slot := 2, constantValue := 0 }, { name := "slotIndices", type := (.array .short), accessFlags := 18, slot := 3, constantValue := 0 }, { name := "size", type := .int, accessFlags := 2, slot := 4, constantValue := 0 }]
  methods := #[k3m0]
  instanceTypes := #[(.array .int), .int, (.array .int), (.array .short), .int]
  staticTypes := #[.int, .short]
  resolved := Array.replicate 63 none
  statics := none }

def pool4 : Array CpInfo := pool [(1, u "java/lang/Cloneable"), (0, .class_ 1), (0, u "java/lang/Object"), (0, .class_ 3)] 3

/-- java/lang/Cloneable -/
def k4 : Class := { plain "java/lang/Cloneable" (some 0) with
  accessFlags := 1537
  interfaces := #[]
  cf := some (fileOf pool4 2 #[] #[] 1537 4 #[] #[])
  fields := #[]
  methods := #[]
  instanceTypes := #[]
  staticTypes := #[]
  resolved := Array.replicate 8 none
  statics := none }

def pool5 : Array CpInfo := pool [(1, u "java/io/Serializable"), (0, .class_ 1), (0, u "java/lang/Object"), (0, .class_ 3)] 3

/-- java/io/Serializable -/
def k5 : Class := { plain "java/io/Serializable" (some 0) with
  accessFlags := 1537
  interfaces := #[]
  cf := some (fileOf pool5 2 #[] #[] 1537 4 #[] #[])
  fields := #[]
  methods := #[]
  instanceTypes := #[]
  staticTypes := #[]
  resolved := Array.replicate 8 none
  statics := none }

/-- the primitive byte -/
def k6 : Class := { plain "byte" none with kind := .primitive 'B', accessFlags := 0x411 }
/-- [B -/
def k7 : Class := { plain "[B" (some 0) with kind := .array 6 .byte, interfaces := #[4, 5], accessFlags := 1041 }

/-- the primitive int -/
def k8 : Class := { plain "int" none with kind := .primitive 'I', accessFlags := 0x411 }
/-- [I -/
def k9 : Class := { plain "[I" (some 0) with kind := .array 8 .int, interfaces := #[4, 5], accessFlags := 1041 }

def heap : Heap := #[]
def classes : Array Class := #[k0, k1, k2, k3, k4, k5, k6, k7, k8, k9]
def interned : List (Array UInt16 × Addr) := []
def slotsUsed : Nat := 0
def theMethod : MethodId := ⟨1, 1⟩
def args0 : Array Value := #[.long 5, .int 5, .int 5]
def aboutOver (below : List Frame) : State where
  vm := { classes := classes, interned := interned.toArray }
  heap := heap
  slotsUsed := slotsUsed
  threads := #[{ frames := .invoking theMethod args0 :: below }]
def below0 : List Frame := [.native { method := ⟨0, 0⟩, args := #[] }]
def about1 : State := aboutOver below0
def p0 : Program := .bare "" "" ""
def e0 : Env := launch0.env 0 0 0
theorem w_frames : about1.frames = Frame.invoking theMethod args0 :: below0 := rfl
set_option maxRecDepth 65536 in
theorem w_args : argsFit about1.vm theMethod args0 = true := by decide +kernel
set_option maxRecDepth 65536 in
theorem w_heap : heapFits about1 = true := by decide +kernel
set_option maxRecDepth 65536 in
theorem w_runnable : about1.curStatus? = some .runnable := by decide +kernel
set_option maxRecDepth 65536 in
theorem w_alone : about1.alone = true := by decide +kernel
set_option maxRecDepth 65536 in
theorem w_named : about1.methodNamed? x = some theMethod := by decide +kernel
set_option maxRecDepth 65536 in
theorem w_hears : about1.hears theMethod below0 = true := by decide +kernel
set_option maxRecDepth 65536 in
theorem w_ripe : about1.ripe theMethod args0 below0 = true := by decide +kernel
theorem w_running : about1.status = .running := rfl
set_option maxRecDepth 65536 in
theorem w_room : about1.hasRoom e0.platform room_1 = true :=
  launch0.hasRoom_least _ room_1 (by decide +kernel) (by decide +kernel) (by decide +kernel) (by decide +kernel) (by decide +kernel) (by decide +kernel)
theorem allAtoms_all (ts : List Jvm.Cond) (a : Array Jvm.Value) (st : Jvm.State) : (allAtoms ts).before a st = ts.all (fun c => c.before a st) := by
  induction ts with
  | nil => rfl
  | cons c t ih =>
    show (Jvm.Cond.and c (allAtoms t)).before a st = _
    rw [Jvm.Cond.before_and, ih, List.all_cons]
def words1 : List Jvm.Cond := Jvm.Cond.code x code maxLocals ret :: tables_1
/-- a 'code' word, met by the world's own term for the bytes: nothing is compared byte by byte -/
theorem code_word {y : MethodName} {bytes : ByteArray} {mx : Nat} {rt : Option FieldType} {a : Array Value} {s : State} {m : MethodId} {meth : Method} {c : Code} (h1 : s.methodNamed? y = some m) (h2 : s.vm.method? m = some meth) (h3 : meth.code = some c) (h4 : c.code = bytes)
    (h5 : (c.maxLocals == mx && c.exceptionTable.isEmpty && decide (c.maxStack ≤ mostOperands) && decide (meth.sig.returnType = rt) && !meth.locks && decide (parseMethodDescriptor y.desc = some meth.sig)) = true) : (Jvm.Cond.code y bytes mx rt).before a s = true := by
  simp only [Bool.and_eq_true, beq_iff_eq, Bool.not_eq_true', decide_eq_true_eq] at h5
  obtain ⟨⟨⟨⟨⟨g1, g2⟩, g3⟩, g4⟩, g5⟩, g6⟩ := h5
  simp [Cond.before, Cond.holds, Cond.value, h1, h2, h3, h4, g1, g2, g3, g4, g5, g6]
def isCode : Jvm.Cond → Bool
  | .code _ _ _ _ => true
  | _ => false
theorem all_split {L : List Jvm.Cond} {P : Jvm.Cond → Bool} (h1 : L.all (fun c => isCode c || P c) = true) (h2 : ∀ c ∈ L.filter isCode, P c = true) : L.all P = true := by
  refine List.all_eq_true.mpr fun c hc => ?_
  have h := List.all_eq_true.mp h1 c hc
  rcases Bool.eq_false_or_eq_true (isCode c) with hi | hi
  · exact h2 c (List.mem_filter.mpr ⟨hc, hi⟩)
  · simpa [hi] using h
set_option maxRecDepth 65536 in
theorem w_c0 : (Jvm.Cond.code x code maxLocals ret).before args0 about1 = true := code_word (m := ⟨1, 1⟩) (meth := k1m1) (c := k1c1) (by decide +kernel) rfl rfl rfl (by decide +kernel)
set_option maxRecDepth 65536 in
theorem w_c1 : (Jvm.Cond.code ({ cls := "java/lang/Math", name := "min", desc := "(II)I" } : Jvm.MethodName) jdk_29_method_69_code (2 : Nat) (Option.some Jvm.ClassFile.FieldType.int)).before args0 about1 = true := code_word (m := ⟨2, 1⟩) (meth := k2m1) (c := k2c1) (by decide +kernel) rfl rfl rfl (by decide +kernel)
set_option maxRecDepth 65536 in
theorem w_c2 : (Jvm.Cond.code ({ cls := "com/example/relayframe/relayframe/PalettePackPinLaw", name := "idx", desc := "(JII)I" } : Jvm.MethodName) method_3_code (4 : Nat) (Option.some Jvm.ClassFile.FieldType.int)).before args0 about1 = true := code_word (m := ⟨1, 2⟩) (meth := k1m2) (c := k1c2) (by decide +kernel) rfl rfl rfl (by decide +kernel)
set_option maxRecDepth 65536 in
theorem w_c3 : (Jvm.Cond.code ({ cls := "com/example/relayframe/relayframe/Palette", name := "pack", desc := "([BIII[BI)I" } : Jvm.MethodName) prog_3_method_7_code (11 : Nat) (Option.some Jvm.ClassFile.FieldType.int)).before args0 about1 = true := code_word (m := ⟨3, 0⟩) (meth := k3m0) (c := k3c0) (by decide +kernel) rfl rfl rfl (by decide +kernel)
set_option maxRecDepth 65536 in
theorem w_c4 : (Jvm.Cond.code ({ cls := "com/example/relayframe/relayframe/PalettePackPinLaw", name := "same", desc := "([BIJIIIII)Z" } : Jvm.MethodName) method_4_code (9 : Nat) (Option.some Jvm.ClassFile.FieldType.boolean)).before args0 about1 = true := code_word (m := ⟨1, 3⟩) (meth := k1m3) (c := k1c3) (by decide +kernel) rfl rfl rfl (by decide +kernel)
set_option maxRecDepth 65536 in
theorem w_c5 : (Jvm.Cond.code ({ cls := "com/example/relayframe/relayframe/PalettePackPinLaw", name := "expectedByte", desc := "(JIIIIII)B" } : Jvm.MethodName) method_5_code (14 : Nat) (Option.some Jvm.ClassFile.FieldType.byte)).before args0 about1 = true := code_word (m := ⟨1, 4⟩) (meth := k1m4) (c := k1c4) (by decide +kernel) rfl rfl rfl (by decide +kernel)
set_option maxRecDepth 65536 in
theorem w_c6 : (Jvm.Cond.code ({ cls := "com/example/relayframe/relayframe/PalettePackPinLaw", name := "term", desc := "(JIIIIII)I" } : Jvm.MethodName) method_6_code (9 : Nat) (Option.some Jvm.ClassFile.FieldType.int)).before args0 about1 = true := code_word (m := ⟨1, 5⟩) (meth := k1m5) (c := k1c5) (by decide +kernel) rfl rfl rfl (by decide +kernel)
def codes1 : List Jvm.Cond := [Jvm.Cond.code x code maxLocals ret, Jvm.Cond.code ({ cls := "java/lang/Math", name := "min", desc := "(II)I" } : Jvm.MethodName) jdk_29_method_69_code (2 : Nat) (Option.some Jvm.ClassFile.FieldType.int), Jvm.Cond.code ({ cls := "com/example/relayframe/relayframe/PalettePackPinLaw", name := "idx", desc := "(JII)I" } : Jvm.MethodName) method_3_code (4 : Nat) (Option.some Jvm.ClassFile.FieldType.int), Jvm.Cond.code ({ cls := "com/example/relayframe/relayframe/Palette", name := "pack", desc := "([BIII[BI)I" } : Jvm.MethodName) prog_3_method_7_code (11 : Nat) (Option.some Jvm.ClassFile.FieldType.int), Jvm.Cond.code ({ cls := "com/example/relayframe/relayframe/PalettePackPinLaw", name := "same", desc := "([BIJIIIII)Z" } : Jvm.MethodName) method_4_code (9 : Nat) (Option.some Jvm.ClassFile.FieldType.boolean), Jvm.Cond.code ({ cls := "com/example/relayframe/relayframe/PalettePackPinLaw", name := "expectedByte", desc := "(JIIIIII)B" } : Jvm.MethodName) method_5_code (14 : Nat) (Option.some Jvm.ClassFile.FieldType.byte), Jvm.Cond.code ({ cls := "com/example/relayframe/relayframe/PalettePackPinLaw", name := "term", desc := "(JIIIIII)I" } : Jvm.MethodName) method_6_code (9 : Nat) (Option.some Jvm.ClassFile.FieldType.int)]
set_option maxRecDepth 65536 in
theorem codes_eq : words1.filter isCode = codes1 := rfl
theorem w_codes : ∀ c ∈ words1.filter isCode, c.before args0 about1 = true := by
  rw [codes_eq]
  intro c hc
  simp only [codes1, List.mem_cons, List.not_mem_nil, or_false] at hc
  rcases hc with rfl | rfl | rfl | rfl | rfl | rfl | rfl
  · exact w_c0
  · exact w_c1
  · exact w_c2
  · exact w_c3
  · exact w_c4
  · exact w_c5
  · exact w_c6
set_option maxRecDepth 65536 in
theorem w_t1 : words1.all (fun c => isCode c || c.before args0 about1) = true := by decide +kernel
theorem w_tables : (allAtoms (Jvm.Cond.code x code maxLocals ret :: tables_1)).before args0 about1 = true := by
  rw [allAtoms_all]
  show words1.all (fun c => c.before args0 about1) = true
  refine all_split ?_ w_codes
  rw [w_t1]
set_option maxRecDepth 65536 in
theorem w_case : (Jvm.Cond.and given_1 narrow_1).before args0 about1 = true := by decide +kernel
theorem w_applies : (headSpec (Jvm.Cond.code x code maxLocals ret :: tables_1) room_1).applies x e0.platform about1 = true :=
  (Spec.applies_iff w_frames).mpr ⟨w_running, w_runnable, w_alone, w_named, w_hears, w_ripe, w_room, w_tables⟩
theorem atStart : AtStart classFile x code maxLocals ret World_1 tables_1 room_1 Calls_1 rest_1 Pre_1 launch0 p0 e0 about1 theMethod args0 below0 :=
  ⟨lists_1, trivial, launch0.admits_env _ _ _, launch0.least_env, fairChoices_fair.cas, fairChoices_fair.clock, w_frames, w_args, w_heap, w_applies, trivial, trivial, w_case⟩
end start1
theorem witness_1 : WitnessClaimed_1 := ⟨start1.p0, start1.e0, start1.about1, start1.theMethod, start1.args0, start1.below0, start1.atStart⟩
end Jvm.Pilot.@@N@@
