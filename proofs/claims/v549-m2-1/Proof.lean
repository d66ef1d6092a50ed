import JvmDerived
import JvmDerived.Pilot.@@N@@Statement
import JvmDerived.Pilot.@@N@@Code
set_option linter.unusedVariables false
set_option linter.unusedSimpArgs false
namespace Jvm.Pilot.@@N@@
open Jvm Jvm.ClassFile Sem Op Lib Jvm.Free Jvm.Stand Jvm.LawKit Jvm.RoadKit Bundle Jvm.Pilot.@@N@@.Jvm.D
set_option maxRecDepth 65536
/-! the run still has to be led to its end from A: the goal of a walk, taken step by step -/
def own_Go (p : Program) (e : Env) (below : List Frame) (s : State) (Q : Option Value → Heap → List Loc → Prop) (C S : Nat) (A : State) : Prop :=
  ∃ s₂ o, Steps p.tables e below A s₂ ∧ s₂.status = .running ∧ Ended s₂ below o ∧ ∃ v L, o = .returned v ∧ Q v s₂.heap L ∧ FrameEnd s o s₂ L C S
section OwnA
variable {p : Program} {l : Launch} {e : Env} {R : Room} {s : State} {m : MethodId} {args : Array Value} {below : List Frame} {meth : Method} {c : Code} {T : State} {locs : List Loc} {cells slots : Nat} {Q : Option Value → Heap → List Loc → Prop} {C S : Nat}
theorem own_st {A B : State} (h : ∀ t, Steps p.tables e below B t → Steps p.tables e below A t) (g : own_Go p e below s Q C S B) : own_Go p e below s Q C S A := by
  obtain ⟨s₂, o, h1, r⟩ := g
  exact ⟨s₂, o, h _ h1, r⟩
theorem own_ss {A B : State} (h : Steps p.tables e below A B) (g : own_Go p e below s Q C S B) : own_Go p e below s Q C S A := own_st (fun _ k => h.trans k) g
theorem own_cut {P G : Prop} (a : P → G) (b : P) : G := a b
theorem own_leave (X : Stand p l e R s m args below meth c T locs cells slots) {v : Option Value} (hv : meth.sig.returnType = none → v = none) (hlk : meth.locks = false) (hQ : Q v T.heap locs) (hc : cells ≤ C) (hs : slots ≤ S) {A : State}
    (hr : ∀ fs, (∀ (f : JFrame) (acts : List Action), f.method = m → f.locked = none → f.entered = [] → (doReturn e (T.setTop f) acts v).1 = T.setFrames fs) → Steps p.tables e below A (T.setFrames fs)) : own_Go p e below s Q C S A := by
  obtain ⟨fs, hr', hrun, hended, hW, hsame⟩ := X.leave (v := v) hv hlk
  exact ⟨_, _, hr fs hr', hrun, hended, _, _, rfl, hQ, ⟨_, rfl⟩, hW, hsame.mono hc hs⟩
theorem own_retV (X : Stand p l e R s m args below meth c T locs cells slots) (hx : p.tables.exec = Jvm.exec) (hlk : meth.locks = false) (hret : meth.sig.returnType = none) {pc : Nat} {Ls : Array Slot} (hd : decode c.code pc = .ok (.return_, 1)) (hc : cells ≤ C) (hs : slots ≤ S) (hQ : Q none T.heap locs) :
    own_Go p e below s Q C S (T.setTop (mkF m pc Ls [])) := own_leave X (fun _ => rfl) hlk hQ hc hs fun _ hr => X.returnOut hx hret hd hr
theorem own_retI (X : Stand p l e R s m args below meth c T locs cells slots) (hx : p.tables.exec = Jvm.exec) (hlk : meth.locks = false) (hret : meth.sig.returnType = some .int) {pc : Nat} {Ls : Array Slot} {z : Int32} {rest : List Value} (hd : decode c.code pc = .ok (.ireturn, 1)) (hc : cells ≤ C) (hs : slots ≤ S) (hQ : Q (some (.int z)) T.heap locs) :
    own_Go p e below s Q C S (T.setTop (mkF m pc Ls (.int z :: rest))) := own_leave X (fun h => by rw [hret] at h; cases h) hlk hQ hc hs fun _ hr => retOut X hx hret rfl (Or.inl ⟨rfl, Or.inl rfl, _, rfl⟩) hd hr
theorem own_retJ (X : Stand p l e R s m args below meth c T locs cells slots) (hx : p.tables.exec = Jvm.exec) (hlk : meth.locks = false) (hret : meth.sig.returnType = some .long) {pc : Nat} {Ls : Array Slot} {z : Int64} {rest : List Value} (hd : decode c.code pc = .ok (.lreturn, 1)) (hc : cells ≤ C) (hs : slots ≤ S) (hQ : Q (some (.long z)) T.heap locs) :
    own_Go p e below s Q C S (T.setTop (mkF m pc Ls (.long z :: rest))) := own_leave X (fun h => by rw [hret] at h; cases h) hlk hQ hc hs fun _ hr => retOut X hx hret rfl (Or.inr (Or.inl ⟨rfl, rfl, _, rfl⟩)) hd hr
theorem own_retR (X : Stand p l e R s m args below meth c T locs cells slots) (hx : p.tables.exec = Jvm.exec) (hlk : meth.locks = false) {t : FieldType} (hret : meth.sig.returnType = some t) (ht : t.isReference = true) {pc : Nat} {Ls : Array Slot} {w : Value} {rest : List Value} (hn : narrow t w = w) (hw : w.isRef = true) (hd : decode c.code pc = .ok (.areturn, 1)) (hc : cells ≤ C) (hs : slots ≤ S) (hQ : Q (some w) T.heap locs) :
    own_Go p e below s Q C S (T.setTop (mkF m pc Ls (w :: rest))) := own_leave X (fun h => by rw [hret] at h; cases h) hlk hQ hc hs fun _ hr => retOut X hx hret hn (Or.inr (Or.inr (Or.inr (Or.inr ⟨rfl, ht, hw⟩)))) hd hr
theorem own_retN (X : Stand p l e R s m args below meth c T locs cells slots) (hx : p.tables.exec = Jvm.exec) (hlk : meth.locks = false) {t : FieldType} (hret : meth.sig.returnType = some t) (ht : t = .boolean ∨ t = .byte ∨ t = .char ∨ t = .short) {pc : Nat} {Ls : Array Slot} {z z' : Int32} {rest : List Value} (hz : nar t z = z') (hd : decode c.code pc = .ok (.ireturn, 1)) (hc : cells ≤ C) (hs : slots ≤ S) (hQ : Q (some (.int z')) T.heap locs) :
    own_Go p e below s Q C S (T.setTop (mkF m pc Ls (.int z :: rest))) := by
  subst hz
  exact own_leave X (fun h => by rw [hret] at h; cases h) hlk hQ hc hs fun _ hr => retN X hx hret ht hd hr
/-! arrays by the whole list of what they hold -/
variable {Z : State} {h h' : Heap} {a b : Addr} {ty : FieldType} {vs : List Value}
def own_A (Z : State) (h : Heap) (a : Addr) (ty : FieldType) (vs : List Value) : Prop := ∃ c : Cell, Arr Z h a c ty ∧ c.slots.toList = vs
theorem own_A.lt (F : own_A Z h a ty vs) : a < h.size := by obtain ⟨c, A, -⟩ := F; exact A.lt
theorem own_A.ext (F : own_A Z h a ty vs) (E : Ext h h') : own_A Z h' a ty vs := by obtain ⟨c, A, q⟩ := F; exact ⟨c, A.ext E, q⟩
theorem own_A.other {sl : Nat} {v : Value} (F : own_A Z h a ty vs) (W : Wr h h' b sl v) (q : a ≠ b) : own_A Z h' a ty vs := by obtain ⟨c, A, r⟩ := F; exact ⟨c, A.other W q, r⟩
theorem own_A.keep {ws : List Addr} (F : own_A Z h a ty vs) (K : Keep h h' ws) (q : a ∉ ws) : own_A Z h' a ty vs := by obtain ⟨c, A, r⟩ := F; exact ⟨c, ⟨K.2.1 a c A.1 q, A.2⟩, r⟩
theorem own_A.set {i : Nat} {v : Value} (F : own_A Z h a ty vs) (W : Wr h h' a i v) : own_A Z h' a ty (vs.set i v) := by
  obtain ⟨c, A, rfl⟩ := F
  exact ⟨_, A.same W, by simp [Cell.setSlot]⟩
theorem own_ix {j : Int32} {i : Nat} (hj : j.toInt = (i : Int)) : ¬ j < 0 ∧ j.toNatClampNeg = i := by
  refine ⟨?_, ?_⟩
  · rw [Int32.lt_iff_toInt_lt, hj]
    show ¬ ((i : Int) < 0)
    omega
  · have h1 : j.toNatClampNeg = j.toInt.toNat := rfl
    rw [h1, hj]; rfl
theorem own_in {cl : Cell} {j : Int32} {i : Nat} {v : Value} (hj : j.toInt = (i : Int)) (hv : cl.slots.toList[i]? = some v) : ¬ (j < 0 ∨ cl.slots.size ≤ j.toNatClampNeg) ∧ cl.slots[j.toNatClampNeg]? = some v := by
  obtain ⟨n0, n1⟩ := own_ix hj
  rw [n1]
  rw [Array.getElem?_toList] at hv
  refine ⟨?_, hv⟩
  have h2 := (Array.getElem?_eq_some_iff.mp hv).1
  rintro (q | q)
  · exact n0 q
  · omega
theorem own_ldI (X : Stand p l e R s m args below meth c T locs cells slots) (hx : p.tables.exec = Jvm.exec) (hZ : Z.Warmed39 s.vm) (eT : T.heap = h) (A : own_A Z h a .int vs) {j : Int32} {i : Nat} {v : Value} (hj : j.toInt = (i : Int)) (hv : vs[i]? = some v) {g : JFrame} (hg : g.method = m) {rest : List Value} (hs : g.stack = .int j :: .ref a :: rest) (hd : decode c.code g.pc = .ok (.iaload, 1)) {t : State}
    (k : Steps p.tables e below (T.setTop { g with pc := g.pc + 1, stack := v :: rest }) t) : Steps p.tables e below (T.setTop g) t := by
  obtain ⟨cl, A, rfl⟩ := A
  exact X.iaload hx (by rw [eT]; exact A.1) (State.isArrayOf_alike hZ.alike A.2.1) A.2.2 (own_in hj hv).1 (own_in hj hv).2 hg hs hd _ k
theorem own_ldJ (X : Stand p l e R s m args below meth c T locs cells slots) (hx : p.tables.exec = Jvm.exec) (hZ : Z.Warmed39 s.vm) (eT : T.heap = h) (A : own_A Z h a .long vs) {j : Int32} {i : Nat} {v : Value} (hj : j.toInt = (i : Int)) (hv : vs[i]? = some v) {g : JFrame} (hg : g.method = m) {rest : List Value} (hs : g.stack = .int j :: .ref a :: rest) (hd : decode c.code g.pc = .ok (.laload, 1)) {t : State}
    (k : Steps p.tables e below (T.setTop { g with pc := g.pc + 1, stack := v :: rest }) t) : Steps p.tables e below (T.setTop g) t := by
  obtain ⟨cl, A, rfl⟩ := A
  exact X.laload hx (by rw [eT]; exact A.1) (State.isArrayOf_alike hZ.alike A.2.1) A.2.2 (own_in hj hv).1 (own_in hj hv).2 hg hs hd _ k
theorem own_ldB (X : Stand p l e R s m args below meth c T locs cells slots) (hx : p.tables.exec = Jvm.exec) (hZ : Z.Warmed39 s.vm) (eT : T.heap = h) (A : own_A Z h a .byte vs) {j : Int32} {i : Nat} {v : Value} (hj : j.toInt = (i : Int)) (hv : vs[i]? = some v) {g : JFrame} (hg : g.method = m) {rest : List Value} (hs : g.stack = .int j :: .ref a :: rest) (hd : decode c.code g.pc = .ok (.baload, 1)) {t : State}
    (k : Steps p.tables e below (T.setTop { g with pc := g.pc + 1, stack := v :: rest }) t) : Steps p.tables e below (T.setTop g) t := by
  obtain ⟨cl, A, rfl⟩ := A
  exact X.baloadBytes hx (by rw [eT]; exact A.1) (State.isArrayOf_alike hZ.alike A.2.1) A.2.2 (own_in hj hv).1 (own_in hj hv).2 hg hs hd _ k
theorem own_ldZ (X : Stand p l e R s m args below meth c T locs cells slots) (hx : p.tables.exec = Jvm.exec) (hZ : Z.Warmed39 s.vm) (eT : T.heap = h) (A : own_A Z h a .boolean vs) {j : Int32} {i : Nat} {v : Value} (hj : j.toInt = (i : Int)) (hv : vs[i]? = some v) {g : JFrame} (hg : g.method = m) {rest : List Value} (hs : g.stack = .int j :: .ref a :: rest) (hd : decode c.code g.pc = .ok (.baload, 1)) {t : State}
    (k : Steps p.tables e below (T.setTop { g with pc := g.pc + 1, stack := v :: rest }) t) : Steps p.tables e below (T.setTop g) t := by
  obtain ⟨cl, A, rfl⟩ := A
  exact X.baloadBooleans hx (by rw [eT]; exact A.1) (State.isArrayOf_alike hZ.alike A.2.1) A.2.2 (own_in hj hv).1 (own_in hj hv).2 hg hs hd _ k
theorem own_ldS (X : Stand p l e R s m args below meth c T locs cells slots) (hx : p.tables.exec = Jvm.exec) (hZ : Z.Warmed39 s.vm) (eT : T.heap = h) (A : own_A Z h a .short vs) {j : Int32} {i : Nat} {v : Value} (hj : j.toInt = (i : Int)) (hv : vs[i]? = some v) {g : JFrame} (hg : g.method = m) {rest : List Value} (hs : g.stack = .int j :: .ref a :: rest) (hd : decode c.code g.pc = .ok (.saload, 1)) {t : State}
    (k : Steps p.tables e below (T.setTop { g with pc := g.pc + 1, stack := v :: rest }) t) : Steps p.tables e below (T.setTop g) t := by
  obtain ⟨cl, A, rfl⟩ := A
  exact X.saload hx (by rw [eT]; exact A.1) (State.isArrayOf_alike hZ.alike A.2.1) A.2.2 (own_in hj hv).1 (own_in hj hv).2 hg hs hd _ k
theorem own_ldC (X : Stand p l e R s m args below meth c T locs cells slots) (hx : p.tables.exec = Jvm.exec) (hZ : Z.Warmed39 s.vm) (eT : T.heap = h) (A : own_A Z h a .char vs) {j : Int32} {i : Nat} {v : Value} (hj : j.toInt = (i : Int)) (hv : vs[i]? = some v) {g : JFrame} (hg : g.method = m) {rest : List Value} (hs : g.stack = .int j :: .ref a :: rest) (hd : decode c.code g.pc = .ok (.caload, 1)) {t : State}
    (k : Steps p.tables e below (T.setTop { g with pc := g.pc + 1, stack := v :: rest }) t) : Steps p.tables e below (T.setTop g) t := by
  obtain ⟨cl, A, rfl⟩ := A
  exact X.caload hx (by rw [eT]; exact A.1) (State.isArrayOf_alike hZ.alike A.2.1) A.2.2 (own_in hj hv).1 (own_in hj hv).2 hg hs hd _ k
theorem own_ldR (X : Stand p l e R s m args below meth c T locs cells slots) (hx : p.tables.exec = Jvm.exec) (hZ : Z.Warmed39 s.vm) (eT : T.heap = h) (A : own_A Z h a ty vs) (hty : ty.isReference = true) {j : Int32} {i : Nat} {v : Value} (hj : j.toInt = (i : Int)) (hv : vs[i]? = some v) {g : JFrame} (hg : g.method = m) {rest : List Value} (hs : g.stack = .int j :: .ref a :: rest) (hd : decode c.code g.pc = .ok (.aaload, 1)) {t : State}
    (k : Steps p.tables e below (T.setTop { g with pc := g.pc + 1, stack := v :: rest }) t) : Steps p.tables e below (T.setTop g) t := by
  obtain ⟨cl, A, rfl⟩ := A
  exact X.aaload hx (by rw [eT]; exact A.1) (State.isArrayOf_alike hZ.alike A.2.1) hty A.2.2 (own_in hj hv).1 (own_in hj hv).2 hg hs hd _ k
theorem own_stI (X : Stand p l e R s m args below meth c T locs cells slots) (hx : p.tables.exec = Jvm.exec) (hZ : Z.Warmed39 s.vm) (eT : T.heap = h) (A : own_A Z h a .int vs) {j x : Int32} {i : Nat} (hj : j.toInt = (i : Int)) (hi : i < vs.length) {g : JFrame} (hg : g.method = m) {rest : List Value} (hs : g.stack = .int x :: .int j :: .ref a :: rest) (hd : decode c.code g.pc = .ok (.iastore, 1)) :
    ∃ T' h', Stand p l e R s m args below meth c T' (locs ++ [⟨a, i⟩]) cells slots ∧ T'.heap = h' ∧ Wr h h' a i (.int x) ∧ own_A Z h' a .int (vs.set i (.int x)) ∧ ∀ target, Steps p.tables e below (T'.setTop { g with pc := g.pc + 1, stack := rest }) target → Steps p.tables e below (T.setTop g) target := by
  obtain ⟨cl, A, rfl⟩ := A
  have hin := (own_in (cl := cl) (v := cl.slots.toList[i]) hj (List.getElem?_eq_getElem hi)).1
  obtain ⟨T', h', X', e', W', st⟩ := stI X hx hZ eT A (j := j) (x := x) hin hg hs hd
  rw [(own_ix hj).2] at X' W'
  exact ⟨T', h', X', e', W', own_A.set ⟨cl, A, rfl⟩ W', st⟩
theorem own_stJ (X : Stand p l e R s m args below meth c T locs cells slots) (hx : p.tables.exec = Jvm.exec) (hZ : Z.Warmed39 s.vm) (eT : T.heap = h) (A : own_A Z h a .long vs) {j : Int32} {x : Int64} {i : Nat} (hj : j.toInt = (i : Int)) (hi : i < vs.length) {g : JFrame} (hg : g.method = m) {rest : List Value} (hs : g.stack = .long x :: .int j :: .ref a :: rest) (hd : decode c.code g.pc = .ok (.lastore, 1)) :
    ∃ T' h', Stand p l e R s m args below meth c T' (locs ++ [⟨a, i⟩]) cells slots ∧ T'.heap = h' ∧ Wr h h' a i (.long x) ∧ own_A Z h' a .long (vs.set i (.long x)) ∧ ∀ target, Steps p.tables e below (T'.setTop { g with pc := g.pc + 1, stack := rest }) target → Steps p.tables e below (T.setTop g) target := by
  obtain ⟨cl, A, rfl⟩ := A
  have hin := (own_in (cl := cl) (v := cl.slots.toList[i]) hj (List.getElem?_eq_getElem hi)).1
  obtain ⟨T', h', X', e', W', st⟩ := stJ X hx hZ eT A (j := j) (x := x) hin hg hs hd
  rw [(own_ix hj).2] at X' W'
  exact ⟨T', h', X', e', W', own_A.set ⟨cl, A, rfl⟩ W', st⟩
theorem own_stB (X : Stand p l e R s m args below meth c T locs cells slots) (hx : p.tables.exec = Jvm.exec) (hZ : Z.Warmed39 s.vm) (eT : T.heap = h) (A : own_A Z h a .byte vs) {j x : Int32} {i : Nat} (hj : j.toInt = (i : Int)) (hi : i < vs.length) {g : JFrame} (hg : g.method = m) {rest : List Value} (hs : g.stack = .int x :: .int j :: .ref a :: rest) (hd : decode c.code g.pc = .ok (.bastore, 1)) :
    ∃ T' h', Stand p l e R s m args below meth c T' (locs ++ [⟨a, i⟩]) cells slots ∧ T'.heap = h' ∧ Wr h h' a i (.int x.toInt8.toInt32) ∧ own_A Z h' a .byte (vs.set i (.int x.toInt8.toInt32)) ∧ ∀ target, Steps p.tables e below (T'.setTop { g with pc := g.pc + 1, stack := rest }) target → Steps p.tables e below (T.setTop g) target := by
  obtain ⟨cl, A, rfl⟩ := A
  have hin := (own_in (cl := cl) (v := cl.slots.toList[i]) hj (List.getElem?_eq_getElem hi)).1
  obtain ⟨T', h', X', e', W', st⟩ := stB X hx hZ eT A (j := j) (x := x) hin hg hs hd
  rw [(own_ix hj).2] at X' W'
  exact ⟨T', h', X', e', W', own_A.set ⟨cl, A, rfl⟩ W', st⟩
theorem own_stS (X : Stand p l e R s m args below meth c T locs cells slots) (hx : p.tables.exec = Jvm.exec) (hZ : Z.Warmed39 s.vm) (eT : T.heap = h) (A : own_A Z h a .short vs) {j x : Int32} {i : Nat} (hj : j.toInt = (i : Int)) (hi : i < vs.length) {g : JFrame} (hg : g.method = m) {rest : List Value} (hs : g.stack = .int x :: .int j :: .ref a :: rest) (hd : decode c.code g.pc = .ok (.sastore, 1)) :
    ∃ T' h', Stand p l e R s m args below meth c T' (locs ++ [⟨a, i⟩]) cells slots ∧ T'.heap = h' ∧ Wr h h' a i (.int x.toInt16.toInt32) ∧ own_A Z h' a .short (vs.set i (.int x.toInt16.toInt32)) ∧ ∀ target, Steps p.tables e below (T'.setTop { g with pc := g.pc + 1, stack := rest }) target → Steps p.tables e below (T.setTop g) target := by
  obtain ⟨cl, A, rfl⟩ := A
  have hin := (own_in (cl := cl) (v := cl.slots.toList[i]) hj (List.getElem?_eq_getElem hi)).1
  obtain ⟨T', h', X', e', W', st⟩ := stS X hx hZ eT A (j := j) (x := x) hin hg hs hd
  rw [(own_ix hj).2] at X' W'
  exact ⟨T', h', X', e', W', own_A.set ⟨cl, A, rfl⟩ W', st⟩
theorem own_stC (X : Stand p l e R s m args below meth c T locs cells slots) (hx : p.tables.exec = Jvm.exec) (hZ : Z.Warmed39 s.vm) (eT : T.heap = h) (A : own_A Z h a .char vs) {j x : Int32} {i : Nat} (hj : j.toInt = (i : Int)) (hi : i < vs.length) {g : JFrame} (hg : g.method = m) {rest : List Value} (hs : g.stack = .int x :: .int j :: .ref a :: rest) (hd : decode c.code g.pc = .ok (.castore, 1)) :
    ∃ T' h', Stand p l e R s m args below meth c T' (locs ++ [⟨a, i⟩]) cells slots ∧ T'.heap = h' ∧ Wr h h' a i (.int x.toUInt32.toUInt16.toUInt32.toInt32) ∧ own_A Z h' a .char (vs.set i (.int x.toUInt32.toUInt16.toUInt32.toInt32)) ∧ ∀ target, Steps p.tables e below (T'.setTop { g with pc := g.pc + 1, stack := rest }) target → Steps p.tables e below (T.setTop g) target := by
  obtain ⟨cl, A, rfl⟩ := A
  have hin := (own_in (cl := cl) (v := cl.slots.toList[i]) hj (List.getElem?_eq_getElem hi)).1
  obtain ⟨T', h', X', e', W', st⟩ := stC X hx hZ eT A (j := j) (x := x) hin hg hs hd
  rw [(own_ix hj).2] at X' W'
  exact ⟨T', h', X', e', W', own_A.set ⟨cl, A, rfl⟩ W', st⟩
theorem own_newP {a0 : Array Value} (X : Stand p l e R s m args below meth c T locs cells slots) (hx : p.tables.exec = Jvm.exec) (hZ : Z.Warmed39 s.vm) {aty : ArrayType} (w : (Cond.arrayClass (newarray.typeOf aty)).before a0 Z = true) (eT : T.heap = h) {g : JFrame} (hg : g.method = m) (hd : decode c.code g.pc = .ok (.newarray aty, 2)) {n : Int32} {rest : List Value} (hs : g.stack = .int n :: rest)
    {k cap : Nat} (hk : n.toInt = (k : Int)) (hcap : k ≤ cap) (hb : cap * 8 ≤ 536870912) (hc : cells + 1 ≤ R.cells) (hl : slots + cap ≤ R.slots) {ad : String} (had : "[" ++ (newarray.typeOf aty).toString = ad) :
    ∃ T' h', Stand p l e R s m args below meth c T' locs (cells + 1) (slots + cap) ∧ T'.heap = h' ∧ Ext h h' ∧ own_A Z h' h.size (newarray.typeOf aty) (List.replicate k (defaultValue (newarray.typeOf aty))) ∧ Exa Z h' h.size ad ∧
      ∀ target, Steps p.tables e below (T'.setTop { g with pc := g.pc + 2, stack := .ref h.size :: rest }) target → Steps p.tables e below (T.setTop g) target := by
  obtain ⟨n0, n1⟩ := own_ix hk
  obtain ⟨T', h', cA, X', e', E', A', x', st⟩ := newPE X hx hZ w eT hg hd hs n0 (cap := cap) (by rw [n1]; exact hcap) hb hc hl had
  exact ⟨T', h', X', e', E', ⟨_, A', by simp [newA, n1]⟩, x', st⟩
theorem own_clone {a0 : Array Value} (X : Stand p l e R s m args below meth c T locs cells slots) (hx : p.tables.exec = Jvm.exec) (hZ : Z.Warmed39 s.vm) {own ad : String} {index : Nat} (hown : s.vm.findClass own = some m.cls)
    (w1 : (Cond.methodLink own index ⟨ad, "clone", "()Ljava/lang/Object;"⟩).before a0 Z = true) (w2 : (Cond.sameMethod ad "java/lang/Object" "clone" "()Ljava/lang/Object;").before a0 Z = true) (w3 : (Cond.native ⟨"java/lang/Object", "clone", "()Ljava/lang/Object;"⟩).before a0 Z = true)
    (w4 : (Cond.instanceMethod ⟨"java/lang/Object", "clone", "()Ljava/lang/Object;"⟩).before a0 Z = true) (w5 : (Cond.selects ad ⟨ad, "clone", "()Ljava/lang/Object;"⟩ ⟨"java/lang/Object", "clone", "()Ljava/lang/Object;"⟩).before a0 Z = true) (w6 : (Cond.castable ad "java/lang/Cloneable").before a0 Z = true)
    (eT : T.heap = h) (A : own_A Z h a ty vs) (E : Exa Z h a ad) (hf : ∀ v ∈ vs, fits ty v = true) {g : JFrame} (hg : g.method = m) (hsize : g.locals.size = c.maxLocals) {rest : List Value} (hst : g.stack = .ref a :: rest) (hd : decode c.code g.pc = .ok (.invokevirtual index, 3))
    (hfr : 1 ≤ R.frames) {W cap : Nat} (hW : 2 * g.monitorRoom + (rest.map fun v => v.category).sum ≤ W) (hl : W + 14 ≤ R.locals) (hcap : vs.length ≤ cap) (hc : cells + 1 ≤ R.cells) (hsl : slots + cap ≤ R.slots) :
    ∃ T' h', Stand p l e R s m args below meth c T' locs (cells + 1) (slots + cap) ∧ T'.heap = h' ∧ Ext h h' ∧ own_A Z h' h.size ty vs ∧ Exa Z h' h.size ad ∧
      ∀ target, Steps p.tables e below (T'.setTop { g with pc := g.pc + 3, stack := .ref h.size :: rest }) target → Steps p.tables e below (T.setTop g) target := by
  obtain ⟨cl, A, rfl⟩ := A
  have FC : FitC Z cl := fitC_of A fun i hi v hv => hf v (by
    rw [← Array.getElem?_toList] at hv
    exact List.mem_of_getElem? hv)
  obtain ⟨T', h', X', e', ex, A', E', st⟩ := cloneA X hx hZ hown w1 w2 w3 w4 w5 w6 eT A E FC hg hsize hst hd hfr hW hl (by simpa using hcap) hc hsl
  exact ⟨T', h', X', e', ex, ⟨_, A', rfl⟩, E', st⟩
def own_Ov (C : String) (Z : State) (h : Heap) (a : Addr) : Prop := ∃ c : Cell, h[a]? = some c ∧ Ovr Z c.cls C
theorem own_Ov.lt {C : String} (F : own_Ov C Z h a) : a < h.size := by obtain ⟨c, q, -⟩ := F; exact (Array.getElem?_eq_some_iff.mp q).1
theorem own_Ov.ext {C : String} (F : own_Ov C Z h a) (E : Ext h h') : own_Ov C Z h' a := by obtain ⟨c, q, r⟩ := F; exact ⟨c, E.2 _ _ q, r⟩
theorem own_Ov.other {C : String} {sl : Nat} {v : Value} (F : own_Ov C Z h a) (W : Wr h h' b sl v) (ne : a ≠ b) : own_Ov C Z h' a := by
  obtain ⟨c, q, r⟩ := F
  obtain ⟨c', q', -, -, -, e, -⟩ := wr_at W q
  exact ⟨c', q', by rw [e ne]; exact r⟩
theorem own_Ov.keep {C : String} {ws : List Addr} (F : own_Ov C Z h a) (K : Keep h h' ws) (ne : a ∉ ws) : own_Ov C Z h' a := by obtain ⟨c, q, r⟩ := F; exact ⟨c, K.2.1 _ _ q ne, r⟩
theorem own_newR {a0 : Array Value} (X : Stand p l e R s m args below meth c T locs cells slots) (hx : p.tables.exec = Jvm.exec) (hZ : Z.Warmed39 s.vm) {own C : String} {index : Nat} (hown : s.vm.findClass own = some m.cls) (w1 : (Cond.classLink own index C).before a0 Z = true) (w2 : (Cond.arrayOver (.object C)).before a0 Z = true) (eT : T.heap = h) {g : JFrame} (hg : g.method = m) (hd : decode c.code g.pc = .ok (.anewarray index, 3)) {n : Int32} {rest : List Value} (hs : g.stack = .int n :: rest)
    {k cap : Nat} (hk : n.toInt = (k : Int)) (hcap : k ≤ cap) (hb : cap * 8 ≤ 536870912) (hc : cells + 1 ≤ R.cells) (hl : slots + cap ≤ R.slots) {ad : String} (had : "[" ++ (FieldType.object C).toString = ad) :
    ∃ T' h', Stand p l e R s m args below meth c T' locs (cells + 1) (slots + cap) ∧ T'.heap = h' ∧ Ext h h' ∧ own_A Z h' h.size (.object C) (List.replicate k .null) ∧ Exa Z h' h.size ad ∧ own_Ov C Z h' h.size ∧
      ∀ target, Steps p.tables e below (T'.setTop { g with pc := g.pc + 3, stack := .ref h.size :: rest }) target → Steps p.tables e below (T.setTop g) target := by
  obtain ⟨n0, n1⟩ := own_ix hk
  obtain ⟨T', h', cA, X', e', E', A', x', O', st⟩ := newRE X hx hZ hown w1 w2 eT hg hd hs n0 (cap := cap) (by rw [n1]; exact hcap) hb hc hl had
  exact ⟨T', h', X', e', E', ⟨_, A', by simp [newA, n1, defaultValue]⟩, x', ⟨_, A'.1, O'⟩, st⟩
theorem own_stR {C : String} (X : Stand p l e R s m args below meth c T locs cells slots) (hx : p.tables.exec = Jvm.exec) (hZ : Z.Warmed39 s.vm) (eT : T.heap = h) (A : own_A Z h a (.object C) vs) (O : own_Ov C Z h a) {y : Addr} (I : Ins Z h y C true) {j : Int32} {i : Nat} (hj : j.toInt = (i : Int)) (hi : i < vs.length) {g : JFrame} (hg : g.method = m) {rest : List Value} (hs : g.stack = .ref y :: .int j :: .ref a :: rest) (hd : decode c.code g.pc = .ok (.aastore, 1)) :
    ∃ T' h', Stand p l e R s m args below meth c T' (locs ++ [⟨a, i⟩]) cells slots ∧ T'.heap = h' ∧ Wr h h' a i (.ref y) ∧ own_A Z h' a (.object C) (vs.set i (.ref y)) ∧ ∀ target, Steps p.tables e below (T'.setTop { g with pc := g.pc + 1, stack := rest }) target → Steps p.tables e below (T.setTop g) target := by
  obtain ⟨cl, A, rfl⟩ := A
  obtain ⟨c2, q, r⟩ := O
  cases A.1.symm.trans q
  have hin := (own_in (cl := cl) (v := cl.slots.toList[i]) hj (List.getElem?_eq_getElem hi)).1
  obtain ⟨T', h', X', e', W', st⟩ := stR X hx hZ eT A (j := j) (v := .ref y) hin rfl (Sto.of A r I) hg hs hd
  rw [(own_ix hj).2] at X' W'
  exact ⟨T', h', X', e', W', own_A.set ⟨cl, A, rfl⟩ W', st⟩
theorem own_len (X : Stand p l e R s m args below meth c T locs cells slots) (hx : p.tables.exec = Jvm.exec) (hZ : Z.Warmed39 s.vm) (eT : T.heap = h) (A : own_A Z h a ty vs) {n : Int32} (hn : n.toInt = (vs.length : Int)) {g : JFrame} (hg : g.method = m) {rest : List Value} (hs : g.stack = .ref a :: rest) (hd : decode c.code g.pc = .ok (.arraylength, 1)) {t : State}
    (k : Steps p.tables e below (T.setTop { g with pc := g.pc + 1, stack := .int n :: rest }) t) : Steps p.tables e below (T.setTop g) t := by
  obtain ⟨cl, A, rfl⟩ := A
  have h1 := n.toInt_lt
  have h2 : cl.slots.size.toInt32 = n := by
    refine Int32.toInt_inj.mp ?_
    rw [hn]
    have h3 : cl.slots.toList.length = cl.slots.size := by simp
    rw [h3] at hn ⊢
    exact len_toInt (by omega)
  refine X.arraylength hx (by rw [eT]; exact A.1) (State.isArrayOf_alike hZ.alike A.2.1) hg hs hd _ ?_
  rw [h2]; exact k
theorem own_lrem (X : Stand p l e R s m args below meth c T locs cells slots) (hx : p.tables.exec = Jvm.exec) {g : JFrame} (hg : g.method = m) {x y : Int64} {rest : List Value} (hd : decode c.code g.pc = .ok (.lrem, 1)) (hs : g.stack = .long y :: .long x :: rest) (hy : y ≠ 0) {t : State}
    (k : Steps p.tables e below (T.setTop { g with pc := g.pc + 1, stack := .long (x % y) :: rest }) t) : Steps p.tables e below (T.setTop g) t := XS.lrem X.here hx hg hd hs hy (by rw [lrem_mod]; exact k)
end OwnA
theorem own_Sta.keep {Z : State} {h h' : Heap} {ws : List Addr} {C n d : String} {v : Value} (F : Sta Z h C n d v) (K : Keep h h' ws) (q : ∀ st ∈ ws, ∀ cell : Cell, h[st]? = some cell → cell.vm.isStatics = false) : Sta Z h' C n d v := by
  obtain ⟨cf, i, k, f, st, cell, h1, h2, h3, h4, h5, h6, h7⟩ := F
  refine ⟨cf, i, k, f, st, cell, h1, h2, h3, h4, K.2.1 st cell h5 fun hm => ?_, h6, h7⟩
  rw [q st hm cell h5] at h6
  cases h6
theorem own_z_eq_t {c : Prop} [Decidable c] (h : ¬ c) : ifCond.holds .eq (if c then (1 : Int32) else 0) = true := by rw [if_neg h]; rfl
theorem own_z_eq_f {c : Prop} [Decidable c] (h : c) : ifCond.holds .eq (if c then (1 : Int32) else 0) = false := by rw [if_pos h]; rfl
theorem own_z_ne_t {c : Prop} [Decidable c] (h : c) : ifCond.holds .ne (if c then (1 : Int32) else 0) = true := by rw [if_pos h]; rfl
theorem own_z_ne_f {c : Prop} [Decidable c] (h : ¬ c) : ifCond.holds .ne (if c then (1 : Int32) else 0) = false := by rw [if_neg h]; rfl
theorem own_z_nar {c : Prop} [Decidable c] : nar .boolean (if c then (1 : Int32) else 0) = if c then (1 : Int32) else 0 := by split <;> rfl
/-- two slots that hold nothing or a long, whose value nobody reads again -/
def own_Two (a b : Slot) : Prop := (a = .unset ∧ b = .unset) ∨ ∃ z, a = .val (.long z) ∧ b = .second
theorem own_plainE {Z : State} {h : Heap} {a : Addr} {C : String} (F : Exa Z h a C) : ∀ cell : Cell, h[a]? = some cell → cell.vm.isStatics = false := fun cell hc => by
  obtain ⟨c, k, h1, -, -, h4, -⟩ := F
  cases h1.symm.trans hc
  exact h4
theorem own_plainA {Z : State} {h : Heap} {a : Addr} {ty : FieldType} {vs : List Value} (F : own_A Z h a ty vs) : ∀ cell : Cell, h[a]? = some cell → cell.vm.isStatics = false := fun cell hc => by
  obtain ⟨c, A, -⟩ := F
  cases A.1.symm.trans hc
  exact A.plain
theorem own_pop2 {tb : Tables} [Ours tb] {e : Env} {below : List Frame} {T target : State} {m : MethodId} {c : Code} {g : JFrame} (h : At T m c below) (hx : tb.exec = Jvm.exec) (hg : g.method = m) {x : Int64} {rest : List Value} (hd : decode c.code g.pc = .ok (.pop2, 1)) (hs : g.stack = .long x :: rest)
    (hr : Steps tb e below (T.setTop { g with pc := g.pc + 1, stack := rest }) target) : Steps tb e below (T.setTop g) target := by
  subst hg
  jvm_step h [h.top, hx, hd, hs, Value.category]
  exact hr
theorem own_min1 {i : Int32} {n : Nat} (h0 : 0 ≤ i.toInt) (h1 : i.toInt < (n : Int)) (hn : n < 1000) : (i + 1).toInt.toNat = i.toInt.toNat + 1 ∧ (i + 1).toInt = i.toInt + 1 := by
  have h2 := c_iadd i 1
  have h3 := rng32 (i + 1)
  have h4 : (1 : Int32).toInt = 1 := rfl
  omega
theorem own_ltN {i : Int32} {n : Nat} (hn : n < 1000) : i < n.toInt32 ↔ i.toInt < (n : Int) := by
  rw [Int32.lt_iff_toInt_lt, len_toInt (by omega)]
theorem own_getI {bs : List Int32} {i : Nat} (h : i < bs.length) : (bs.map Value.int)[i]? = some (.int (bs.getD i 0)) := by
  simp [List.getElem?_map, h]
theorem own_nat {i : Int32} (h : 0 ≤ i.toInt) : i.toInt = ((i.toInt.toNat : Nat) : Int) := by omega
theorem w_0 {a0 : Array Value} {Z : State} (hw : ∀ d ∈ tables_1, d.before a0 Z = true) : (Jvm.Cond.methodLink "com/example/crossplan/crossplan/client/ClientTextFirstCharacterPinLaw" (8 : Nat) ({ cls := "com/example/crossplan/crossplan/client/ClientTextFirstCharacterPinLaw", name := "draw", desc := "(I)B" } : Jvm.MethodName)).before a0 Z = true := hw _ (List.mem_of_getElem? (i := 0) rfl)
theorem w_1 {a0 : Array Value} {Z : State} (hw : ∀ d ∈ tables_1, d.before a0 Z = true) : (Jvm.Cond.static ({ cls := "com/example/crossplan/crossplan/client/ClientTextFirstCharacterPinLaw", name := "draw", desc := "(I)B" } : Jvm.MethodName)).before a0 Z = true := hw _ (List.mem_of_getElem? (i := 1) rfl)
theorem w_2 {a0 : Array Value} {Z : State} (hw : ∀ d ∈ tables_1, d.before a0 Z = true) : (Jvm.Cond.initialized "com/example/crossplan/crossplan/client/ClientTextFirstCharacterPinLaw").before a0 Z = true := hw _ (List.mem_of_getElem? (i := 2) rfl)
theorem w_3 {a0 : Array Value} {Z : State} (hw : ∀ d ∈ tables_1, d.before a0 Z = true) : (Jvm.Cond.code ({ cls := "com/example/crossplan/crossplan/client/ClientTextFirstCharacterPinLaw", name := "draw", desc := "(I)B" } : Jvm.MethodName) method_2_code (2 : Nat) (Option.some Jvm.ClassFile.FieldType.byte)).before a0 Z = true := hw _ (List.mem_of_getElem? (i := 3) rfl)
theorem w_4 {a0 : Array Value} {Z : State} (hw : ∀ d ∈ tables_1, d.before a0 Z = true) : (Jvm.Cond.arrayClass Jvm.ClassFile.FieldType.byte).before a0 Z = true := hw _ (List.mem_of_getElem? (i := 4) rfl)
theorem w_5 {a0 : Array Value} {Z : State} (hw : ∀ d ∈ tables_1, d.before a0 Z = true) : (Jvm.Cond.constant "com/example/crossplan/crossplan/client/ClientTextFirstCharacterPinLaw" (7 : Nat) (2147483647 : Int32)).before a0 Z = true := hw _ (List.mem_of_getElem? (i := 5) rfl)
theorem w_6 {a0 : Array Value} {Z : State} (hw : ∀ d ∈ tables_1, d.before a0 Z = true) : (Jvm.Cond.methodLink "com/example/crossplan/crossplan/client/ClientTextFirstCharacterPinLaw" (18 : Nat) ({ cls := "com/example/crossplan/crossplan/client/ClientText", name := "firstCharacter", desc := "([B)I" } : Jvm.MethodName)).before a0 Z = true := hw _ (List.mem_of_getElem? (i := 6) rfl)
theorem w_7 {a0 : Array Value} {Z : State} (hw : ∀ d ∈ tables_1, d.before a0 Z = true) : (Jvm.Cond.static ({ cls := "com/example/crossplan/crossplan/client/ClientText", name := "firstCharacter", desc := "([B)I" } : Jvm.MethodName)).before a0 Z = true := hw _ (List.mem_of_getElem? (i := 7) rfl)
theorem w_8 {a0 : Array Value} {Z : State} (hw : ∀ d ∈ tables_1, d.before a0 Z = true) : (Jvm.Cond.initialized "com/example/crossplan/crossplan/client/ClientText").before a0 Z = true := hw _ (List.mem_of_getElem? (i := 8) rfl)
theorem w_9 {a0 : Array Value} {Z : State} (hw : ∀ d ∈ tables_1, d.before a0 Z = true) : (Jvm.Cond.code ({ cls := "com/example/crossplan/crossplan/client/ClientText", name := "firstCharacter", desc := "([B)I" } : Jvm.MethodName) prog_28_method_31_code (5 : Nat) (Option.some Jvm.ClassFile.FieldType.int)).before a0 Z = true := hw _ (List.mem_of_getElem? (i := 9) rfl)
theorem w_10 {a0 : Array Value} {Z : State} (hw : ∀ d ∈ tables_1, d.before a0 Z = true) : (Jvm.Cond.methodLink "com/example/crossplan/crossplan/client/ClientTextFirstCharacterPinLaw" (14 : Nat) ({ cls := "com/example/crossplan/crossplan/client/ClientTextFirstCharacterPinLaw", name := "skipped", desc := "(B)Z" } : Jvm.MethodName)).before a0 Z = true := hw _ (List.mem_of_getElem? (i := 10) rfl)
theorem w_11 {a0 : Array Value} {Z : State} (hw : ∀ d ∈ tables_1, d.before a0 Z = true) : (Jvm.Cond.static ({ cls := "com/example/crossplan/crossplan/client/ClientTextFirstCharacterPinLaw", name := "skipped", desc := "(B)Z" } : Jvm.MethodName)).before a0 Z = true := hw _ (List.mem_of_getElem? (i := 11) rfl)
theorem w_12 {a0 : Array Value} {Z : State} (hw : ∀ d ∈ tables_1, d.before a0 Z = true) : (Jvm.Cond.code ({ cls := "com/example/crossplan/crossplan/client/ClientTextFirstCharacterPinLaw", name := "skipped", desc := "(B)Z" } : Jvm.MethodName) method_3_code (2 : Nat) (Option.some Jvm.ClassFile.FieldType.boolean)).before a0 Z = true := hw _ (List.mem_of_getElem? (i := 12) rfl)
theorem own_b88 (x : Int32) : x.toInt8.toInt32.toInt8.toInt32 = x.toInt8.toInt32 := by simp
theorem own_ten {x : Int32} : 0 ≤ ((x &&& 2147483647) % 10).toInt ∧ ((x &&& 2147483647) % 10).toInt < 10 := by
  have h1 := c_mask x 2147483647 31 (by decide) (by decide)
  have h2 := c_irem (x &&& 2147483647) 10 10 rfl
  omega
theorem own_pick (xs : List Int32) (hx : ∀ x ∈ xs, x.toInt8.toInt32 = x) {i : Nat} (h : i < xs.length) : ∃ z : Int32, (xs.map Value.int)[i]? = some (.int z) ∧ z.toInt8.toInt32 = z :=
  ⟨xs[i], by simp [h], hx _ (List.getElem_mem h)⟩
theorem own_pn1 : plainName "com/example/crossplan/crossplan/client/ClientTextFirstCharacterPinLaw" = true := by first | (simp [plainName, overriddenIn]; done) | decide +kernel
theorem d1_0 : decode method_2_code 0 = .ok (.iload_n 0, 1) := by decide +kernel
theorem d1_1 : decode method_2_code 1 = .ok (.iconst 1, 1) := by decide +kernel
theorem d1_2 : decode method_2_code 2 = .ok (.iand, 1) := by decide +kernel
theorem d1_3 : decode method_2_code 3 = .ok (.ifCond .eq 72, 3) := by decide +kernel
theorem d1_6 : decode method_2_code 6 = .ok (.bipush 10, 2) := by decide +kernel
theorem d1_8 : decode method_2_code 8 = .ok (.newarray .byte, 2) := by decide +kernel
theorem d1_10 : decode method_2_code 10 = .ok (.dup, 1) := by decide +kernel
theorem d1_11 : decode method_2_code 11 = .ok (.iconst 0, 1) := by decide +kernel
theorem d1_12 : decode method_2_code 12 = .ok (.bipush 32, 2) := by decide +kernel
theorem d1_14 : decode method_2_code 14 = .ok (.bastore, 1) := by decide +kernel
theorem d1_15 : decode method_2_code 15 = .ok (.dup, 1) := by decide +kernel
theorem d1_16 : decode method_2_code 16 = .ok (.iconst 1, 1) := by decide +kernel
theorem d1_17 : decode method_2_code 17 = .ok (.bipush 9, 2) := by decide +kernel
theorem d1_19 : decode method_2_code 19 = .ok (.bastore, 1) := by decide +kernel
theorem d1_20 : decode method_2_code 20 = .ok (.dup, 1) := by decide +kernel
theorem d1_21 : decode method_2_code 21 = .ok (.iconst 2, 1) := by decide +kernel
theorem d1_22 : decode method_2_code 22 = .ok (.bipush 13, 2) := by decide +kernel
theorem d1_24 : decode method_2_code 24 = .ok (.bastore, 1) := by decide +kernel
theorem d1_25 : decode method_2_code 25 = .ok (.dup, 1) := by decide +kernel
theorem d1_26 : decode method_2_code 26 = .ok (.iconst 3, 1) := by decide +kernel
theorem d1_27 : decode method_2_code 27 = .ok (.bipush 10, 2) := by decide +kernel
theorem d1_29 : decode method_2_code 29 = .ok (.bastore, 1) := by decide +kernel
theorem d1_30 : decode method_2_code 30 = .ok (.dup, 1) := by decide +kernel
theorem d1_31 : decode method_2_code 31 = .ok (.iconst 4, 1) := by decide +kernel
theorem d1_32 : decode method_2_code 32 = .ok (.iconst 0, 1) := by decide +kernel
theorem d1_33 : decode method_2_code 33 = .ok (.bastore, 1) := by decide +kernel
theorem d1_34 : decode method_2_code 34 = .ok (.dup, 1) := by decide +kernel
theorem d1_35 : decode method_2_code 35 = .ok (.iconst 5, 1) := by decide +kernel
theorem d1_36 : decode method_2_code 36 = .ok (.bipush (-17), 2) := by decide +kernel
theorem d1_38 : decode method_2_code 38 = .ok (.bastore, 1) := by decide +kernel
theorem d1_39 : decode method_2_code 39 = .ok (.dup, 1) := by decide +kernel
theorem d1_40 : decode method_2_code 40 = .ok (.bipush 6, 2) := by decide +kernel
theorem d1_42 : decode method_2_code 42 = .ok (.bipush (-69), 2) := by decide +kernel
theorem d1_44 : decode method_2_code 44 = .ok (.bastore, 1) := by decide +kernel
theorem d1_45 : decode method_2_code 45 = .ok (.dup, 1) := by decide +kernel
theorem d1_46 : decode method_2_code 46 = .ok (.bipush 7, 2) := by decide +kernel
theorem d1_48 : decode method_2_code 48 = .ok (.bipush (-65), 2) := by decide +kernel
theorem d1_50 : decode method_2_code 50 = .ok (.bastore, 1) := by decide +kernel
theorem d1_51 : decode method_2_code 51 = .ok (.dup, 1) := by decide +kernel
theorem d1_52 : decode method_2_code 52 = .ok (.bipush 8, 2) := by decide +kernel
theorem d1_54 : decode method_2_code 54 = .ok (.bipush (-2), 2) := by decide +kernel
theorem d1_56 : decode method_2_code 56 = .ok (.bastore, 1) := by decide +kernel
theorem d1_57 : decode method_2_code 57 = .ok (.dup, 1) := by decide +kernel
theorem d1_58 : decode method_2_code 58 = .ok (.bipush 9, 2) := by decide +kernel
theorem d1_60 : decode method_2_code 60 = .ok (.iconst (-1), 1) := by decide +kernel
theorem d1_61 : decode method_2_code 61 = .ok (.bastore, 1) := by decide +kernel
theorem d1_62 : decode method_2_code 62 = .ok (.astore_n 1, 1) := by decide +kernel
theorem d1_63 : decode method_2_code 63 = .ok (.aload_n 1, 1) := by decide +kernel
theorem d1_64 : decode method_2_code 64 = .ok (.iload_n 0, 1) := by decide +kernel
theorem d1_65 : decode method_2_code 65 = .ok (.iconst 1, 1) := by decide +kernel
theorem d1_66 : decode method_2_code 66 = .ok (.iushr, 1) := by decide +kernel
theorem d1_67 : decode method_2_code 67 = .ok (.ldc 7, 2) := by decide +kernel
theorem d1_69 : decode method_2_code 69 = .ok (.iand, 1) := by decide +kernel
theorem d1_70 : decode method_2_code 70 = .ok (.bipush 10, 2) := by decide +kernel
theorem d1_72 : decode method_2_code 72 = .ok (.irem, 1) := by decide +kernel
theorem d1_73 : decode method_2_code 73 = .ok (.baload, 1) := by decide +kernel
theorem d1_74 : decode method_2_code 74 = .ok (.ireturn, 1) := by decide +kernel
theorem d1_75 : decode method_2_code 75 = .ok (.iload_n 0, 1) := by decide +kernel
theorem d1_76 : decode method_2_code 76 = .ok (.iconst 1, 1) := by decide +kernel
theorem d1_77 : decode method_2_code 77 = .ok (.iushr, 1) := by decide +kernel
theorem d1_78 : decode method_2_code 78 = .ok (.i2b, 1) := by decide +kernel
theorem d1_79 : decode method_2_code 79 = .ok (.ireturn, 1) := by decide +kernel
theorem ef_1 (m : MethodId) (x0 : Int32) : entryFrame m #[(.int x0)] 2 = mkF m 0 #[.val (.int x0), .unset] [] := by first | (simp [entryFrame, mkF, argsToLocals, Value.category]; done) | rfl
def Q1 (Z : State) (p1 : Int32) (h0 : Heap) (n0 : Nat) (v : Option Value) (h : Heap) (L : List Loc) : Prop := ∃ (z : Int32), v = some (.int z) ∧ Fr n0 L ∧ Keep h0 h [] ∧ (z.toInt8.toInt32 = z)
set_option maxHeartbeats 40000000 in
theorem rm1 (l : Launch) (Z : State) (a0 : Array Value) (hw : ∀ d ∈ tables_1, d.before a0 Z = true) (ws : List Jvm.Cond) (p1 : Int32) (h0 : Heap) (n0 : Nat) (Z0 : n0 ≤ h0.size) :
    MetFree l (⟨"com/example/crossplan/crossplan/client/ClientTextFirstCharacterPinLaw", "draw", "(I)B"⟩ : MethodName) (head1 (Jvm.Cond.code (⟨"com/example/crossplan/crossplan/client/ClientTextFirstCharacterPinLaw", "draw", "(I)B"⟩ : MethodName) method_2_code 2 (some .byte) :: ws) ({ frames := 0, cells := 1, slots := 10, locals := 0 } : Room)) (fun a U => a = #[(.int p1)] ∧ Z.Warmed39 U.vm ∧ U.heap = h0) (fun _ _ _ _ _ => True) (fun _ U o U' => ∃ v L, o = .returned v ∧ Q1 Z p1 h0 n0 v U'.heap L ∧ FrameEnd U o U' L ({ frames := 0, cells := 1, slots := 10, locals := 0 } : Room).cells ({ frames := 0, cells := 1, slots := 10, locals := 0 } : Room).slots) := by
  refine MetFree.of_bodySF (plainFor_of_name own_pn1) hisR ?_
  intro p e s m args below meth c s₁ Bd hml0 hP hK
  obtain ⟨rfl, hZ, hh⟩ := hP
  have hx := Bd.exec
  have hby := Bd.bytes
  have hml : c.maxLocals = 2 := hml0
  have hlk : meth.locks = false := BodyLoose.notSynchronized Bd
  have hown : s.vm.findClass "com/example/crossplan/crossplan/client/ClientTextFirstCharacterPinLaw" = some m.cls := findClass_of_methodNamed Bd.named
  have hnm := (name_of_methodNamed Bd.named Bd.method).1
  have X0 : Stand p l e ({ frames := 0, cells := 1, slots := 10, locals := 0 } : Room) s m #[(.int p1)] below meth c s₁ [] 0 0 := Stand.of_body Bd
  have e0 : s₁.heap = h0 := by rw [← hh, Bd.state]; rfl
  have N0 := Fr.nil n0
  show own_Go p e below s (Q1 Z p1 h0 n0) ({ frames := 0, cells := 1, slots := 10, locals := 0 } : Room).cells ({ frames := 0, cells := 1, slots := 10, locals := 0 } : Room).slots _
  refine own_st (B := s₁.setTop (mkF m 0 #[.val (.int p1), .unset] [])) (fun t k => castTop (ef_1 m (p1)) k) ?_
  refine own_st (B := s₁.setTop (mkF m 1 #[.val (.int p1), .unset] [(.int p1)])) (fun t k => XS.iloadN X0.here hx rfl (hb hby d1_0) rfl k) ?_
  refine own_st (B := s₁.setTop (mkF m 2 #[.val (.int p1), .unset] [(.int (1 : Int32)), (.int p1)])) (fun t k => XS.iconst X0.here hx rfl (hb hby d1_1) k) ?_
  refine own_st (B := s₁.setTop (mkF m 3 #[.val (.int p1), .unset] [(.int (p1 &&& (1 : Int32)))])) (fun t k => XS.iand X0.here hx rfl (hb hby d1_2) rfl k) ?_
  by_cases hc1 : (p1 &&& (1 : Int32)) = (0 : Int32)
  · refine own_st (B := s₁.setTop (mkF m 75 #[.val (.int p1), .unset] [])) (fun t k => XS.ifYes X0.here hx rfl (pc0 := 3) (pc' := 75) rfl (hb hby d1_3) rfl (XT.i0_eq_t hc1) (by decide) (by decide) k) ?_
    refine own_st (B := s₁.setTop (mkF m 76 #[.val (.int p1), .unset] [(.int p1)])) (fun t k => XS.iloadN X0.here hx rfl (hb hby d1_75) rfl k) ?_
    refine own_st (B := s₁.setTop (mkF m 77 #[.val (.int p1), .unset] [(.int (1 : Int32)), (.int p1)])) (fun t k => XS.iconst X0.here hx rfl (hb hby d1_76) k) ?_
    refine own_st (B := s₁.setTop (mkF m 78 #[.val (.int p1), .unset] [(.int ((p1.toUInt32 >>> ((1 : Int32) &&& 31).toUInt32).toInt32))])) (fun t k => XS.iushr X0.here hx rfl (hb hby d1_77) rfl k) ?_
    refine own_st (B := s₁.setTop (mkF m 79 #[.val (.int p1), .unset] [(.int (((p1.toUInt32 >>> ((1 : Int32) &&& 31).toUInt32).toInt32).toInt8.toInt32))])) (fun t k => XS.i2b X0.here hx rfl (hb hby d1_78) rfl k) ?_
    refine own_retN X0 hx hlk (t := .byte) Bd.returns (by simp) (z' := (((p1.toUInt32 >>> ((1 : Int32) &&& 31).toUInt32).toInt32).toInt8.toInt32)) (own_b88 _) (hb hby d1_79) (by decide) (by decide) ?_
    show Q1 Z p1 h0 n0 _ s₁.heap _
    rw [e0]
    exact ⟨(((p1.toUInt32 >>> ((1 : Int32) &&& 31).toUInt32).toInt32).toInt8.toInt32), rfl, N0, (Keep.refl h0 []), (own_b88 _)⟩
  · refine own_st (B := s₁.setTop (mkF m 6 #[.val (.int p1), .unset] [])) (fun t k => XS.ifNo X0.here hx rfl (hb hby d1_3) rfl (XT.i0_eq_f hc1) k) ?_
    refine own_st (B := s₁.setTop (mkF m 8 #[.val (.int p1), .unset] [(.int (10 : Int32))])) (fun t k => XS.bipush X0.here hx rfl (hb hby d1_6) k) ?_
    obtain ⟨T2, h2, X2, e2, E2, A2, x2, st2⟩ := own_newP X0 hx hZ (aty := .byte) (w_4 hw) e0 (g := (mkF m 8 #[.val (.int p1), .unset] [(.int (10 : Int32))])) rfl (hb hby d1_8) (n := (10 : Int32)) (rest := []) rfl (k := 10) (cap := 10) (by decide) (Nat.le_refl _) (by decide) (by decide) (by decide) (ad := "[B") rfl
    obtain ⟨b2, g2⟩ : ∃ z, z = h0.size := ⟨_, rfl⟩
    rw [← g2] at A2 x2 st2
    have u2 : n0 ≤ b2 := Nat.le_trans Z0 (Nat.le_of_eq g2.symm)
    have y2 : h0.size ≤ b2 := Nat.le_trans (Keep.refl h0 []).1 (Nat.le_of_eq g2.symm)
    have z3 : n0 ≤ h2.size := Nat.le_trans Z0 E2.1
    have kp3 : Keep h0 h2 [] := (Keep.refl h0 []).ext E2
    have f2_ : own_A Z h2 b2 .byte [(.int (0 : Int32)), (.int (0 : Int32)), (.int (0 : Int32)), (.int (0 : Int32)), (.int (0 : Int32)), (.int (0 : Int32)), (.int (0 : Int32)), (.int (0 : Int32)), (.int (0 : Int32)), (.int (0 : Int32))] := A2
    refine own_st (B := T2.setTop (mkF m 10 #[.val (.int p1), .unset] [(.ref b2)])) (fun t k => st2 t k) ?_
    refine own_st (B := T2.setTop (mkF m 11 #[.val (.int p1), .unset] [(.ref b2), (.ref b2)])) (fun t k => XS.dup X2.here hx rfl (hb hby d1_10) rfl rfl k) ?_
    refine own_st (B := T2.setTop (mkF m 12 #[.val (.int p1), .unset] [(.int (0 : Int32)), (.ref b2), (.ref b2)])) (fun t k => XS.iconst X2.here hx rfl (hb hby d1_11) k) ?_
    refine own_st (B := T2.setTop (mkF m 14 #[.val (.int p1), .unset] [(.int (32 : Int32)), (.int (0 : Int32)), (.ref b2), (.ref b2)])) (fun t k => XS.bipush X2.here hx rfl (hb hby d1_12) k) ?_
    obtain ⟨T4, h4, X4, e4, W4, A4, st4⟩ := own_stB X2 hx hZ e2 f2_ (j := (0 : Int32)) (x := (32 : Int32)) (i := 0) (by decide) (show 0 < 10 from by decide) (g := (mkF m 14 #[.val (.int p1), .unset] [(.int (32 : Int32)), (.int (0 : Int32)), (.ref b2), (.ref b2)])) rfl rfl (hb hby d1_14)
    have f4_ : own_A Z h4 b2 .byte [(.int ((32 : Int32).toInt8.toInt32)), (.int (0 : Int32)), (.int (0 : Int32)), (.int (0 : Int32)), (.int (0 : Int32)), (.int (0 : Int32)), (.int (0 : Int32)), (.int (0 : Int32)), (.int (0 : Int32)), (.int (0 : Int32))] := A4
    have z5 : n0 ≤ h4.size := Nat.le_trans z3 (Keep.of_wr W4).1
    have kp5 : Keep h0 h4 [] := kp3.wr W4 (Or.inr y2)
    have n6 := Fr.snoc X4 N0 u2
    refine own_st (B := T4.setTop (mkF m 15 #[.val (.int p1), .unset] [(.ref b2)])) (fun t k => st4 t k) ?_
    refine own_st (B := T4.setTop (mkF m 16 #[.val (.int p1), .unset] [(.ref b2), (.ref b2)])) (fun t k => XS.dup X4.here hx rfl (hb hby d1_15) rfl rfl k) ?_
    refine own_st (B := T4.setTop (mkF m 17 #[.val (.int p1), .unset] [(.int (1 : Int32)), (.ref b2), (.ref b2)])) (fun t k => XS.iconst X4.here hx rfl (hb hby d1_16) k) ?_
    refine own_st (B := T4.setTop (mkF m 19 #[.val (.int p1), .unset] [(.int (9 : Int32)), (.int (1 : Int32)), (.ref b2), (.ref b2)])) (fun t k => XS.bipush X4.here hx rfl (hb hby d1_17) k) ?_
    obtain ⟨T7, h7, X7, e7, W7, A7, st7⟩ := own_stB X4 hx hZ e4 f4_ (j := (1 : Int32)) (x := (9 : Int32)) (i := 1) (by decide) (show 1 < 10 from by decide) (g := (mkF m 19 #[.val (.int p1), .unset] [(.int (9 : Int32)), (.int (1 : Int32)), (.ref b2), (.ref b2)])) rfl rfl (hb hby d1_19)
    have f7_ : own_A Z h7 b2 .byte [(.int ((32 : Int32).toInt8.toInt32)), (.int ((9 : Int32).toInt8.toInt32)), (.int (0 : Int32)), (.int (0 : Int32)), (.int (0 : Int32)), (.int (0 : Int32)), (.int (0 : Int32)), (.int (0 : Int32)), (.int (0 : Int32)), (.int (0 : Int32))] := A7
    have z8 : n0 ≤ h7.size := Nat.le_trans z5 (Keep.of_wr W7).1
    have kp8 : Keep h0 h7 [] := kp5.wr W7 (Or.inr y2)
    have n9 := Fr.snoc X7 n6 u2
    refine own_st (B := T7.setTop (mkF m 20 #[.val (.int p1), .unset] [(.ref b2)])) (fun t k => st7 t k) ?_
    refine own_st (B := T7.setTop (mkF m 21 #[.val (.int p1), .unset] [(.ref b2), (.ref b2)])) (fun t k => XS.dup X7.here hx rfl (hb hby d1_20) rfl rfl k) ?_
    refine own_st (B := T7.setTop (mkF m 22 #[.val (.int p1), .unset] [(.int (2 : Int32)), (.ref b2), (.ref b2)])) (fun t k => XS.iconst X7.here hx rfl (hb hby d1_21) k) ?_
    refine own_st (B := T7.setTop (mkF m 24 #[.val (.int p1), .unset] [(.int (13 : Int32)), (.int (2 : Int32)), (.ref b2), (.ref b2)])) (fun t k => XS.bipush X7.here hx rfl (hb hby d1_22) k) ?_
    obtain ⟨T10, h10, X10, e10, W10, A10, st10⟩ := own_stB X7 hx hZ e7 f7_ (j := (2 : Int32)) (x := (13 : Int32)) (i := 2) (by decide) (show 2 < 10 from by decide) (g := (mkF m 24 #[.val (.int p1), .unset] [(.int (13 : Int32)), (.int (2 : Int32)), (.ref b2), (.ref b2)])) rfl rfl (hb hby d1_24)
    have f10_ : own_A Z h10 b2 .byte [(.int ((32 : Int32).toInt8.toInt32)), (.int ((9 : Int32).toInt8.toInt32)), (.int ((13 : Int32).toInt8.toInt32)), (.int (0 : Int32)), (.int (0 : Int32)), (.int (0 : Int32)), (.int (0 : Int32)), (.int (0 : Int32)), (.int (0 : Int32)), (.int (0 : Int32))] := A10
    have z11 : n0 ≤ h10.size := Nat.le_trans z8 (Keep.of_wr W10).1
    have kp11 : Keep h0 h10 [] := kp8.wr W10 (Or.inr y2)
    have n12 := Fr.snoc X10 n9 u2
    refine own_st (B := T10.setTop (mkF m 25 #[.val (.int p1), .unset] [(.ref b2)])) (fun t k => st10 t k) ?_
    refine own_st (B := T10.setTop (mkF m 26 #[.val (.int p1), .unset] [(.ref b2), (.ref b2)])) (fun t k => XS.dup X10.here hx rfl (hb hby d1_25) rfl rfl k) ?_
    refine own_st (B := T10.setTop (mkF m 27 #[.val (.int p1), .unset] [(.int (3 : Int32)), (.ref b2), (.ref b2)])) (fun t k => XS.iconst X10.here hx rfl (hb hby d1_26) k) ?_
    refine own_st (B := T10.setTop (mkF m 29 #[.val (.int p1), .unset] [(.int (10 : Int32)), (.int (3 : Int32)), (.ref b2), (.ref b2)])) (fun t k => XS.bipush X10.here hx rfl (hb hby d1_27) k) ?_
    obtain ⟨T13, h13, X13, e13, W13, A13, st13⟩ := own_stB X10 hx hZ e10 f10_ (j := (3 : Int32)) (x := (10 : Int32)) (i := 3) (by decide) (show 3 < 10 from by decide) (g := (mkF m 29 #[.val (.int p1), .unset] [(.int (10 : Int32)), (.int (3 : Int32)), (.ref b2), (.ref b2)])) rfl rfl (hb hby d1_29)
    have f13_ : own_A Z h13 b2 .byte [(.int ((32 : Int32).toInt8.toInt32)), (.int ((9 : Int32).toInt8.toInt32)), (.int ((13 : Int32).toInt8.toInt32)), (.int ((10 : Int32).toInt8.toInt32)), (.int (0 : Int32)), (.int (0 : Int32)), (.int (0 : Int32)), (.int (0 : Int32)), (.int (0 : Int32)), (.int (0 : Int32))] := A13
    have z14 : n0 ≤ h13.size := Nat.le_trans z11 (Keep.of_wr W13).1
    have kp14 : Keep h0 h13 [] := kp11.wr W13 (Or.inr y2)
    have n15 := Fr.snoc X13 n12 u2
    refine own_st (B := T13.setTop (mkF m 30 #[.val (.int p1), .unset] [(.ref b2)])) (fun t k => st13 t k) ?_
    refine own_st (B := T13.setTop (mkF m 31 #[.val (.int p1), .unset] [(.ref b2), (.ref b2)])) (fun t k => XS.dup X13.here hx rfl (hb hby d1_30) rfl rfl k) ?_
    refine own_st (B := T13.setTop (mkF m 32 #[.val (.int p1), .unset] [(.int (4 : Int32)), (.ref b2), (.ref b2)])) (fun t k => XS.iconst X13.here hx rfl (hb hby d1_31) k) ?_
    refine own_st (B := T13.setTop (mkF m 33 #[.val (.int p1), .unset] [(.int (0 : Int32)), (.int (4 : Int32)), (.ref b2), (.ref b2)])) (fun t k => XS.iconst X13.here hx rfl (hb hby d1_32) k) ?_
    obtain ⟨T16, h16, X16, e16, W16, A16, st16⟩ := own_stB X13 hx hZ e13 f13_ (j := (4 : Int32)) (x := (0 : Int32)) (i := 4) (by decide) (show 4 < 10 from by decide) (g := (mkF m 33 #[.val (.int p1), .unset] [(.int (0 : Int32)), (.int (4 : Int32)), (.ref b2), (.ref b2)])) rfl rfl (hb hby d1_33)
    have f16_ : own_A Z h16 b2 .byte [(.int ((32 : Int32).toInt8.toInt32)), (.int ((9 : Int32).toInt8.toInt32)), (.int ((13 : Int32).toInt8.toInt32)), (.int ((10 : Int32).toInt8.toInt32)), (.int ((0 : Int32).toInt8.toInt32)), (.int (0 : Int32)), (.int (0 : Int32)), (.int (0 : Int32)), (.int (0 : Int32)), (.int (0 : Int32))] := A16
    have z17 : n0 ≤ h16.size := Nat.le_trans z14 (Keep.of_wr W16).1
    have kp17 : Keep h0 h16 [] := kp14.wr W16 (Or.inr y2)
    have n18 := Fr.snoc X16 n15 u2
    refine own_st (B := T16.setTop (mkF m 34 #[.val (.int p1), .unset] [(.ref b2)])) (fun t k => st16 t k) ?_
    refine own_st (B := T16.setTop (mkF m 35 #[.val (.int p1), .unset] [(.ref b2), (.ref b2)])) (fun t k => XS.dup X16.here hx rfl (hb hby d1_34) rfl rfl k) ?_
    refine own_st (B := T16.setTop (mkF m 36 #[.val (.int p1), .unset] [(.int (5 : Int32)), (.ref b2), (.ref b2)])) (fun t k => XS.iconst X16.here hx rfl (hb hby d1_35) k) ?_
    refine own_st (B := T16.setTop (mkF m 38 #[.val (.int p1), .unset] [(.int (-17 : Int32)), (.int (5 : Int32)), (.ref b2), (.ref b2)])) (fun t k => XS.bipush X16.here hx rfl (hb hby d1_36) k) ?_
    obtain ⟨T19, h19, X19, e19, W19, A19, st19⟩ := own_stB X16 hx hZ e16 f16_ (j := (5 : Int32)) (x := (-17 : Int32)) (i := 5) (by decide) (show 5 < 10 from by decide) (g := (mkF m 38 #[.val (.int p1), .unset] [(.int (-17 : Int32)), (.int (5 : Int32)), (.ref b2), (.ref b2)])) rfl rfl (hb hby d1_38)
    have f19_ : own_A Z h19 b2 .byte [(.int ((32 : Int32).toInt8.toInt32)), (.int ((9 : Int32).toInt8.toInt32)), (.int ((13 : Int32).toInt8.toInt32)), (.int ((10 : Int32).toInt8.toInt32)), (.int ((0 : Int32).toInt8.toInt32)), (.int ((-17 : Int32).toInt8.toInt32)), (.int (0 : Int32)), (.int (0 : Int32)), (.int (0 : Int32)), (.int (0 : Int32))] := A19
    have z20 : n0 ≤ h19.size := Nat.le_trans z17 (Keep.of_wr W19).1
    have kp20 : Keep h0 h19 [] := kp17.wr W19 (Or.inr y2)
    have n21 := Fr.snoc X19 n18 u2
    refine own_st (B := T19.setTop (mkF m 39 #[.val (.int p1), .unset] [(.ref b2)])) (fun t k => st19 t k) ?_
    refine own_st (B := T19.setTop (mkF m 40 #[.val (.int p1), .unset] [(.ref b2), (.ref b2)])) (fun t k => XS.dup X19.here hx rfl (hb hby d1_39) rfl rfl k) ?_
    refine own_st (B := T19.setTop (mkF m 42 #[.val (.int p1), .unset] [(.int (6 : Int32)), (.ref b2), (.ref b2)])) (fun t k => XS.bipush X19.here hx rfl (hb hby d1_40) k) ?_
    refine own_st (B := T19.setTop (mkF m 44 #[.val (.int p1), .unset] [(.int (-69 : Int32)), (.int (6 : Int32)), (.ref b2), (.ref b2)])) (fun t k => XS.bipush X19.here hx rfl (hb hby d1_42) k) ?_
    obtain ⟨T22, h22, X22, e22, W22, A22, st22⟩ := own_stB X19 hx hZ e19 f19_ (j := (6 : Int32)) (x := (-69 : Int32)) (i := 6) (by decide) (show 6 < 10 from by decide) (g := (mkF m 44 #[.val (.int p1), .unset] [(.int (-69 : Int32)), (.int (6 : Int32)), (.ref b2), (.ref b2)])) rfl rfl (hb hby d1_44)
    have f22_ : own_A Z h22 b2 .byte [(.int ((32 : Int32).toInt8.toInt32)), (.int ((9 : Int32).toInt8.toInt32)), (.int ((13 : Int32).toInt8.toInt32)), (.int ((10 : Int32).toInt8.toInt32)), (.int ((0 : Int32).toInt8.toInt32)), (.int ((-17 : Int32).toInt8.toInt32)), (.int ((-69 : Int32).toInt8.toInt32)), (.int (0 : Int32)), (.int (0 : Int32)), (.int (0 : Int32))] := A22
    have z23 : n0 ≤ h22.size := Nat.le_trans z20 (Keep.of_wr W22).1
    have kp23 : Keep h0 h22 [] := kp20.wr W22 (Or.inr y2)
    have n24 := Fr.snoc X22 n21 u2
    refine own_st (B := T22.setTop (mkF m 45 #[.val (.int p1), .unset] [(.ref b2)])) (fun t k => st22 t k) ?_
    refine own_st (B := T22.setTop (mkF m 46 #[.val (.int p1), .unset] [(.ref b2), (.ref b2)])) (fun t k => XS.dup X22.here hx rfl (hb hby d1_45) rfl rfl k) ?_
    refine own_st (B := T22.setTop (mkF m 48 #[.val (.int p1), .unset] [(.int (7 : Int32)), (.ref b2), (.ref b2)])) (fun t k => XS.bipush X22.here hx rfl (hb hby d1_46) k) ?_
    refine own_st (B := T22.setTop (mkF m 50 #[.val (.int p1), .unset] [(.int (-65 : Int32)), (.int (7 : Int32)), (.ref b2), (.ref b2)])) (fun t k => XS.bipush X22.here hx rfl (hb hby d1_48) k) ?_
    obtain ⟨T25, h25, X25, e25, W25, A25, st25⟩ := own_stB X22 hx hZ e22 f22_ (j := (7 : Int32)) (x := (-65 : Int32)) (i := 7) (by decide) (show 7 < 10 from by decide) (g := (mkF m 50 #[.val (.int p1), .unset] [(.int (-65 : Int32)), (.int (7 : Int32)), (.ref b2), (.ref b2)])) rfl rfl (hb hby d1_50)
    have f25_ : own_A Z h25 b2 .byte [(.int ((32 : Int32).toInt8.toInt32)), (.int ((9 : Int32).toInt8.toInt32)), (.int ((13 : Int32).toInt8.toInt32)), (.int ((10 : Int32).toInt8.toInt32)), (.int ((0 : Int32).toInt8.toInt32)), (.int ((-17 : Int32).toInt8.toInt32)), (.int ((-69 : Int32).toInt8.toInt32)), (.int ((-65 : Int32).toInt8.toInt32)), (.int (0 : Int32)), (.int (0 : Int32))] := A25
    have z26 : n0 ≤ h25.size := Nat.le_trans z23 (Keep.of_wr W25).1
    have kp26 : Keep h0 h25 [] := kp23.wr W25 (Or.inr y2)
    have n27 := Fr.snoc X25 n24 u2
    refine own_st (B := T25.setTop (mkF m 51 #[.val (.int p1), .unset] [(.ref b2)])) (fun t k => st25 t k) ?_
    refine own_st (B := T25.setTop (mkF m 52 #[.val (.int p1), .unset] [(.ref b2), (.ref b2)])) (fun t k => XS.dup X25.here hx rfl (hb hby d1_51) rfl rfl k) ?_
    refine own_st (B := T25.setTop (mkF m 54 #[.val (.int p1), .unset] [(.int (8 : Int32)), (.ref b2), (.ref b2)])) (fun t k => XS.bipush X25.here hx rfl (hb hby d1_52) k) ?_
    refine own_st (B := T25.setTop (mkF m 56 #[.val (.int p1), .unset] [(.int (-2 : Int32)), (.int (8 : Int32)), (.ref b2), (.ref b2)])) (fun t k => XS.bipush X25.here hx rfl (hb hby d1_54) k) ?_
    obtain ⟨T28, h28, X28, e28, W28, A28, st28⟩ := own_stB X25 hx hZ e25 f25_ (j := (8 : Int32)) (x := (-2 : Int32)) (i := 8) (by decide) (show 8 < 10 from by decide) (g := (mkF m 56 #[.val (.int p1), .unset] [(.int (-2 : Int32)), (.int (8 : Int32)), (.ref b2), (.ref b2)])) rfl rfl (hb hby d1_56)
    have f28_ : own_A Z h28 b2 .byte [(.int ((32 : Int32).toInt8.toInt32)), (.int ((9 : Int32).toInt8.toInt32)), (.int ((13 : Int32).toInt8.toInt32)), (.int ((10 : Int32).toInt8.toInt32)), (.int ((0 : Int32).toInt8.toInt32)), (.int ((-17 : Int32).toInt8.toInt32)), (.int ((-69 : Int32).toInt8.toInt32)), (.int ((-65 : Int32).toInt8.toInt32)), (.int ((-2 : Int32).toInt8.toInt32)), (.int (0 : Int32))] := A28
    have z29 : n0 ≤ h28.size := Nat.le_trans z26 (Keep.of_wr W28).1
    have kp29 : Keep h0 h28 [] := kp26.wr W28 (Or.inr y2)
    have n30 := Fr.snoc X28 n27 u2
    refine own_st (B := T28.setTop (mkF m 57 #[.val (.int p1), .unset] [(.ref b2)])) (fun t k => st28 t k) ?_
    refine own_st (B := T28.setTop (mkF m 58 #[.val (.int p1), .unset] [(.ref b2), (.ref b2)])) (fun t k => XS.dup X28.here hx rfl (hb hby d1_57) rfl rfl k) ?_
    refine own_st (B := T28.setTop (mkF m 60 #[.val (.int p1), .unset] [(.int (9 : Int32)), (.ref b2), (.ref b2)])) (fun t k => XS.bipush X28.here hx rfl (hb hby d1_58) k) ?_
    refine own_st (B := T28.setTop (mkF m 61 #[.val (.int p1), .unset] [(.int (-1 : Int32)), (.int (9 : Int32)), (.ref b2), (.ref b2)])) (fun t k => XS.iconst X28.here hx rfl (hb hby d1_60) k) ?_
    obtain ⟨T31, h31, X31, e31, W31, A31, st31⟩ := own_stB X28 hx hZ e28 f28_ (j := (9 : Int32)) (x := (-1 : Int32)) (i := 9) (by decide) (show 9 < 10 from by decide) (g := (mkF m 61 #[.val (.int p1), .unset] [(.int (-1 : Int32)), (.int (9 : Int32)), (.ref b2), (.ref b2)])) rfl rfl (hb hby d1_61)
    have f31_ : own_A Z h31 b2 .byte [(.int ((32 : Int32).toInt8.toInt32)), (.int ((9 : Int32).toInt8.toInt32)), (.int ((13 : Int32).toInt8.toInt32)), (.int ((10 : Int32).toInt8.toInt32)), (.int ((0 : Int32).toInt8.toInt32)), (.int ((-17 : Int32).toInt8.toInt32)), (.int ((-69 : Int32).toInt8.toInt32)), (.int ((-65 : Int32).toInt8.toInt32)), (.int ((-2 : Int32).toInt8.toInt32)), (.int ((-1 : Int32).toInt8.toInt32))] := A31
    have z32 : n0 ≤ h31.size := Nat.le_trans z29 (Keep.of_wr W31).1
    have kp32 : Keep h0 h31 [] := kp29.wr W31 (Or.inr y2)
    have n33 := Fr.snoc X31 n30 u2
    refine own_st (B := T31.setTop (mkF m 62 #[.val (.int p1), .unset] [(.ref b2)])) (fun t k => st31 t k) ?_
    refine own_st (B := T31.setTop (mkF m 63 #[.val (.int p1), .val (.ref b2)] [])) (fun t k => XS.astoreN X31.here hx rfl (hb hby d1_62) rfl rfl (l' := #[.val (.int p1), .val (.ref b2)]) rfl k) ?_
    refine own_st (B := T31.setTop (mkF m 64 #[.val (.int p1), .val (.ref b2)] [(.ref b2)])) (fun t k => XS.aloadN X31.here hx rfl (hb hby d1_63) rfl rfl k) ?_
    refine own_st (B := T31.setTop (mkF m 65 #[.val (.int p1), .val (.ref b2)] [(.int p1), (.ref b2)])) (fun t k => XS.iloadN X31.here hx rfl (hb hby d1_64) rfl k) ?_
    refine own_st (B := T31.setTop (mkF m 66 #[.val (.int p1), .val (.ref b2)] [(.int (1 : Int32)), (.int p1), (.ref b2)])) (fun t k => XS.iconst X31.here hx rfl (hb hby d1_65) k) ?_
    refine own_st (B := T31.setTop (mkF m 67 #[.val (.int p1), .val (.ref b2)] [(.int ((p1.toUInt32 >>> ((1 : Int32) &&& 31).toUInt32).toInt32)), (.ref b2)])) (fun t k => XS.iushr X31.here hx rfl (hb hby d1_66) rfl k) ?_
    refine own_st (B := T31.setTop (mkF m 69 #[.val (.int p1), .val (.ref b2)] [(.int (2147483647 : Int32)), (.int ((p1.toUInt32 >>> ((1 : Int32) &&& 31).toUInt32).toInt32)), (.ref b2)])) (fun t k => X31.ldcInt hx hown (mvT hZ (w_5 hw)) (g := (mkF m 67 #[.val (.int p1), .val (.ref b2)] [(.int ((p1.toUInt32 >>> ((1 : Int32) &&& 31).toUInt32).toInt32)), (.ref b2)])) rfl (hb hby d1_67) _ k) ?_
    refine own_st (B := T31.setTop (mkF m 70 #[.val (.int p1), .val (.ref b2)] [(.int (((p1.toUInt32 >>> ((1 : Int32) &&& 31).toUInt32).toInt32) &&& (2147483647 : Int32))), (.ref b2)])) (fun t k => XS.iand X31.here hx rfl (hb hby d1_69) rfl k) ?_
    refine own_st (B := T31.setTop (mkF m 72 #[.val (.int p1), .val (.ref b2)] [(.int (10 : Int32)), (.int (((p1.toUInt32 >>> ((1 : Int32) &&& 31).toUInt32).toInt32) &&& (2147483647 : Int32))), (.ref b2)])) (fun t k => XS.bipush X31.here hx rfl (hb hby d1_70) k) ?_
    refine own_st (B := T31.setTop (mkF m 73 #[.val (.int p1), .val (.ref b2)] [(.int ((((p1.toUInt32 >>> ((1 : Int32) &&& 31).toUInt32).toInt32) &&& (2147483647 : Int32)) % (10 : Int32))), (.ref b2)])) (fun t k => iremM X31 hx (g := (mkF m 72 #[.val (.int p1), .val (.ref b2)] [(.int (10 : Int32)), (.int (((p1.toUInt32 >>> ((1 : Int32) &&& 31).toUInt32).toInt32) &&& (2147483647 : Int32))), (.ref b2)])) rfl (x := (((p1.toUInt32 >>> ((1 : Int32) &&& 31).toUInt32).toInt32) &&& (2147483647 : Int32))) (y := (10 : Int32)) (rest := [(.ref b2)]) (hb hby d1_72) rfl (by decide) k) ?_
    have hi34 : 0 ≤ ((((p1.toUInt32 >>> ((1 : Int32) &&& 31).toUInt32).toInt32) &&& (2147483647 : Int32)) % (10 : Int32)).toInt ∧ ((((p1.toUInt32 >>> ((1 : Int32) &&& 31).toUInt32).toInt32) &&& (2147483647 : Int32)) % (10 : Int32)).toInt < 10 := own_ten
    obtain ⟨z34, hz34, hb34⟩ := own_pick ([((32 : Int32).toInt8.toInt32), ((9 : Int32).toInt8.toInt32), ((13 : Int32).toInt8.toInt32), ((10 : Int32).toInt8.toInt32), ((0 : Int32).toInt8.toInt32), ((-17 : Int32).toInt8.toInt32), ((-69 : Int32).toInt8.toInt32), ((-65 : Int32).toInt8.toInt32), ((-2 : Int32).toInt8.toInt32), ((-1 : Int32).toInt8.toInt32)] : List Int32) (by simp only [List.mem_cons, List.not_mem_nil, or_false]; rintro x (rfl | rfl | rfl | rfl | rfl | rfl | rfl | rfl | rfl | rfl) <;> decide) (i := ((((p1.toUInt32 >>> ((1 : Int32) &&& 31).toUInt32).toInt32) &&& (2147483647 : Int32)) % (10 : Int32)).toInt.toNat) (show ((((p1.toUInt32 >>> ((1 : Int32) &&& 31).toUInt32).toInt32) &&& (2147483647 : Int32)) % (10 : Int32)).toInt.toNat < 10 by omega)
    refine own_st (B := T31.setTop (mkF m 74 #[.val (.int p1), .val (.ref b2)] [(.int z34)])) (fun t k => own_ldB X31 hx hZ e31 f31_ (g := (mkF m 73 #[.val (.int p1), .val (.ref b2)] [(.int ((((p1.toUInt32 >>> ((1 : Int32) &&& 31).toUInt32).toInt32) &&& (2147483647 : Int32)) % (10 : Int32))), (.ref b2)])) (i := (((((p1.toUInt32 >>> ((1 : Int32) &&& 31).toUInt32).toInt32) &&& (2147483647 : Int32)) % (10 : Int32)).toInt.toNat)) (show ((((p1.toUInt32 >>> ((1 : Int32) &&& 31).toUInt32).toInt32) &&& (2147483647 : Int32)) % (10 : Int32)).toInt = ((((((p1.toUInt32 >>> ((1 : Int32) &&& 31).toUInt32).toInt32) &&& (2147483647 : Int32)) % (10 : Int32)).toInt.toNat : Nat) : Int) by omega) hz34 rfl rfl (hb hby d1_73) k) ?_
    refine own_retN X31 hx hlk (t := .byte) Bd.returns (by simp) (z' := z34) hb34 (hb hby d1_74) (by decide) (by decide) ?_
    show Q1 Z p1 h0 n0 _ T31.heap _
    rw [e31]
    exact ⟨z34, rfl, n33, kp32, hb34⟩
theorem d3_0 : decode method_3_code 0 = .ok (.iload_n 0, 1) := by decide +kernel
theorem d3_1 : decode method_3_code 1 = .ok (.sipush 255, 3) := by decide +kernel
theorem d3_4 : decode method_3_code 4 = .ok (.iand, 1) := by decide +kernel
theorem d3_5 : decode method_3_code 5 = .ok (.istore_n 1, 1) := by decide +kernel
theorem d3_6 : decode method_3_code 6 = .ok (.iload_n 1, 1) := by decide +kernel
theorem d3_7 : decode method_3_code 7 = .ok (.bipush 32, 2) := by decide +kernel
theorem d3_9 : decode method_3_code 9 = .ok (.if_icmp .eq 60, 3) := by decide +kernel
theorem d3_12 : decode method_3_code 12 = .ok (.iload_n 1, 1) := by decide +kernel
theorem d3_13 : decode method_3_code 13 = .ok (.bipush 9, 2) := by decide +kernel
theorem d3_15 : decode method_3_code 15 = .ok (.if_icmp .eq 54, 3) := by decide +kernel
theorem d3_18 : decode method_3_code 18 = .ok (.iload_n 1, 1) := by decide +kernel
theorem d3_19 : decode method_3_code 19 = .ok (.bipush 13, 2) := by decide +kernel
theorem d3_21 : decode method_3_code 21 = .ok (.if_icmp .eq 48, 3) := by decide +kernel
theorem d3_24 : decode method_3_code 24 = .ok (.iload_n 1, 1) := by decide +kernel
theorem d3_25 : decode method_3_code 25 = .ok (.bipush 10, 2) := by decide +kernel
theorem d3_27 : decode method_3_code 27 = .ok (.if_icmp .eq 42, 3) := by decide +kernel
theorem d3_30 : decode method_3_code 30 = .ok (.iload_n 1, 1) := by decide +kernel
theorem d3_31 : decode method_3_code 31 = .ok (.ifCond .eq 38, 3) := by decide +kernel
theorem d3_34 : decode method_3_code 34 = .ok (.iload_n 1, 1) := by decide +kernel
theorem d3_35 : decode method_3_code 35 = .ok (.sipush 239, 3) := by decide +kernel
theorem d3_38 : decode method_3_code 38 = .ok (.if_icmp .eq 31, 3) := by decide +kernel
theorem d3_41 : decode method_3_code 41 = .ok (.iload_n 1, 1) := by decide +kernel
theorem d3_42 : decode method_3_code 42 = .ok (.sipush 187, 3) := by decide +kernel
theorem d3_45 : decode method_3_code 45 = .ok (.if_icmp .eq 24, 3) := by decide +kernel
theorem d3_48 : decode method_3_code 48 = .ok (.iload_n 1, 1) := by decide +kernel
theorem d3_49 : decode method_3_code 49 = .ok (.sipush 191, 3) := by decide +kernel
theorem d3_52 : decode method_3_code 52 = .ok (.if_icmp .eq 17, 3) := by decide +kernel
theorem d3_55 : decode method_3_code 55 = .ok (.iload_n 1, 1) := by decide +kernel
theorem d3_56 : decode method_3_code 56 = .ok (.sipush 254, 3) := by decide +kernel
theorem d3_59 : decode method_3_code 59 = .ok (.if_icmp .eq 10, 3) := by decide +kernel
theorem d3_62 : decode method_3_code 62 = .ok (.iload_n 1, 1) := by decide +kernel
theorem d3_63 : decode method_3_code 63 = .ok (.sipush 255, 3) := by decide +kernel
theorem d3_66 : decode method_3_code 66 = .ok (.if_icmp .ne 7, 3) := by decide +kernel
theorem d3_69 : decode method_3_code 69 = .ok (.iconst 1, 1) := by decide +kernel
theorem d3_70 : decode method_3_code 70 = .ok (.goto 4, 3) := by decide +kernel
theorem d3_73 : decode method_3_code 73 = .ok (.iconst 0, 1) := by decide +kernel
theorem d3_74 : decode method_3_code 74 = .ok (.ireturn, 1) := by decide +kernel
theorem ef_3 (m : MethodId) (x0 : Int32) : entryFrame m #[(.int x0)] 2 = mkF m 0 #[.val (.int x0), .unset] [] := by first | (simp [entryFrame, mkF, argsToLocals, Value.category]; done) | rfl
def own_f3 (p1 : Int32) : Int32 := (if (p1 &&& (255 : Int32)) = (32 : Int32) then (1 : Int32) else (if (p1 &&& (255 : Int32)) = (9 : Int32) then (1 : Int32) else (if (p1 &&& (255 : Int32)) = (13 : Int32) then (1 : Int32) else (if (p1 &&& (255 : Int32)) = (10 : Int32) then (1 : Int32) else (if (p1 &&& (255 : Int32)) = (0 : Int32) then (1 : Int32) else (if (p1 &&& (255 : Int32)) = (239 : Int32) then (1 : Int32) else (if (p1 &&& (255 : Int32)) = (187 : Int32) then (1 : Int32) else (if (p1 &&& (255 : Int32)) = (191 : Int32) then (1 : Int32) else (if (p1 &&& (255 : Int32)) = (254 : Int32) then (1 : Int32) else (if (p1 &&& (255 : Int32)) = (255 : Int32) then (1 : Int32) else (0 : Int32)))))))))))
def Q3 (Z : State) (p1 : Int32) (h0 : Heap) (n0 : Nat) (v : Option Value) (h : Heap) (L : List Loc) : Prop := v = some (.int (own_f3 p1)) ∧ Fr n0 L ∧ h = h0
set_option maxHeartbeats 40000000 in
theorem rm3 (l : Launch) (Z : State) (a0 : Array Value) (hw : ∀ d ∈ tables_1, d.before a0 Z = true) (ws : List Jvm.Cond) (p1 : Int32) (h0 : Heap) (n0 : Nat) (Z0 : n0 ≤ h0.size) :
    MetFree l (⟨"com/example/crossplan/crossplan/client/ClientTextFirstCharacterPinLaw", "skipped", "(B)Z"⟩ : MethodName) (head1 (Jvm.Cond.code (⟨"com/example/crossplan/crossplan/client/ClientTextFirstCharacterPinLaw", "skipped", "(B)Z"⟩ : MethodName) method_3_code 2 (some .boolean) :: ws) ({ frames := 0, cells := 0, slots := 0, locals := 0 } : Room)) (fun a U => a = #[(.int p1)] ∧ Z.Warmed39 U.vm ∧ U.heap = h0) (fun _ _ _ _ _ => True) (fun _ U o U' => ∃ v L, o = .returned v ∧ Q3 Z p1 h0 n0 v U'.heap L ∧ FrameEnd U o U' L ({ frames := 0, cells := 0, slots := 0, locals := 0 } : Room).cells ({ frames := 0, cells := 0, slots := 0, locals := 0 } : Room).slots) := by
  refine MetFree.of_bodySF (plainFor_of_name own_pn1) hisR ?_
  intro p e s m args below meth c s₁ Bd hml0 hP hK
  obtain ⟨rfl, hZ, hh⟩ := hP
  have hx := Bd.exec
  have hby := Bd.bytes
  have hml : c.maxLocals = 2 := hml0
  have hlk : meth.locks = false := BodyLoose.notSynchronized Bd
  have hown : s.vm.findClass "com/example/crossplan/crossplan/client/ClientTextFirstCharacterPinLaw" = some m.cls := findClass_of_methodNamed Bd.named
  have hnm := (name_of_methodNamed Bd.named Bd.method).1
  have X0 : Stand p l e ({ frames := 0, cells := 0, slots := 0, locals := 0 } : Room) s m #[(.int p1)] below meth c s₁ [] 0 0 := Stand.of_body Bd
  have e0 : s₁.heap = h0 := by rw [← hh, Bd.state]; rfl
  have N0 := Fr.nil n0
  show own_Go p e below s (Q3 Z p1 h0 n0) ({ frames := 0, cells := 0, slots := 0, locals := 0 } : Room).cells ({ frames := 0, cells := 0, slots := 0, locals := 0 } : Room).slots _
  refine own_st (B := s₁.setTop (mkF m 0 #[.val (.int p1), .unset] [])) (fun t k => castTop (ef_3 m (p1)) k) ?_
  refine own_st (B := s₁.setTop (mkF m 1 #[.val (.int p1), .unset] [(.int p1)])) (fun t k => XS.iloadN X0.here hx rfl (hb hby d3_0) rfl k) ?_
  refine own_st (B := s₁.setTop (mkF m 4 #[.val (.int p1), .unset] [(.int (255 : Int32)), (.int p1)])) (fun t k => XS.sipush X0.here hx rfl (hb hby d3_1) k) ?_
  refine own_st (B := s₁.setTop (mkF m 5 #[.val (.int p1), .unset] [(.int (p1 &&& (255 : Int32)))])) (fun t k => XS.iand X0.here hx rfl (hb hby d3_4) rfl k) ?_
  obtain ⟨v1, ev1⟩ : ∃ z : Int32, z = (p1 &&& (255 : Int32)) := ⟨_, rfl⟩
  rw [← ev1]
  refine own_st (B := s₁.setTop (mkF m 6 #[.val (.int p1), .val (.int v1)] [])) (fun t k => XS.istoreN X0.here hx rfl (hb hby d3_5) rfl (l' := #[.val (.int p1), .val (.int v1)]) rfl k) ?_
  refine own_st (B := s₁.setTop (mkF m 7 #[.val (.int p1), .val (.int v1)] [(.int v1)])) (fun t k => XS.iloadN X0.here hx rfl (hb hby d3_6) rfl k) ?_
  refine own_st (B := s₁.setTop (mkF m 9 #[.val (.int p1), .val (.int v1)] [(.int (32 : Int32)), (.int v1)])) (fun t k => XS.bipush X0.here hx rfl (hb hby d3_7) k) ?_
  by_cases hc2 : v1 = (32 : Int32)
  · refine own_st (B := s₁.setTop (mkF m 69 #[.val (.int p1), .val (.int v1)] [])) (fun t k => XS.icmpYes X0.here hx rfl (pc0 := 9) (pc' := 69) rfl (hb hby d3_9) rfl (XT.ii_eq_t hc2) (by decide) (by decide) k) ?_
    refine own_st (B := s₁.setTop (mkF m 70 #[.val (.int p1), .val (.int v1)] [(.int (1 : Int32))])) (fun t k => XS.iconst X0.here hx rfl (hb hby d3_69) k) ?_
    refine own_st (B := s₁.setTop (mkF m 74 #[.val (.int p1), .val (.int v1)] [(.int (1 : Int32))])) (fun t k => XS.goto X0.here hx rfl (pc0 := 70) (pc' := 74) rfl (hb hby d3_70) (by decide) (by decide) k) ?_
    refine own_retN X0 hx hlk (t := .boolean) Bd.returns (by simp) (z' := (1 : Int32)) rfl (hb hby d3_74) (by decide) (by decide) ?_
    show Q3 Z p1 h0 n0 _ s₁.heap _
    rw [e0]
    exact ⟨(by subst v1; unfold own_f3; rw [if_pos hc2]), N0, rfl⟩
  · refine own_st (B := s₁.setTop (mkF m 12 #[.val (.int p1), .val (.int v1)] [])) (fun t k => XS.icmpNo X0.here hx rfl (hb hby d3_9) rfl (XT.ii_eq_f hc2) k) ?_
    refine own_st (B := s₁.setTop (mkF m 13 #[.val (.int p1), .val (.int v1)] [(.int v1)])) (fun t k => XS.iloadN X0.here hx rfl (hb hby d3_12) rfl k) ?_
    refine own_st (B := s₁.setTop (mkF m 15 #[.val (.int p1), .val (.int v1)] [(.int (9 : Int32)), (.int v1)])) (fun t k => XS.bipush X0.here hx rfl (hb hby d3_13) k) ?_
    by_cases hc3 : v1 = (9 : Int32)
    · refine own_st (B := s₁.setTop (mkF m 69 #[.val (.int p1), .val (.int v1)] [])) (fun t k => XS.icmpYes X0.here hx rfl (pc0 := 15) (pc' := 69) rfl (hb hby d3_15) rfl (XT.ii_eq_t hc3) (by decide) (by decide) k) ?_
      refine own_st (B := s₁.setTop (mkF m 70 #[.val (.int p1), .val (.int v1)] [(.int (1 : Int32))])) (fun t k => XS.iconst X0.here hx rfl (hb hby d3_69) k) ?_
      refine own_st (B := s₁.setTop (mkF m 74 #[.val (.int p1), .val (.int v1)] [(.int (1 : Int32))])) (fun t k => XS.goto X0.here hx rfl (pc0 := 70) (pc' := 74) rfl (hb hby d3_70) (by decide) (by decide) k) ?_
      refine own_retN X0 hx hlk (t := .boolean) Bd.returns (by simp) (z' := (1 : Int32)) rfl (hb hby d3_74) (by decide) (by decide) ?_
      show Q3 Z p1 h0 n0 _ s₁.heap _
      rw [e0]
      exact ⟨(by subst v1; unfold own_f3; rw [if_neg hc2, if_pos hc3]), N0, rfl⟩
    · refine own_st (B := s₁.setTop (mkF m 18 #[.val (.int p1), .val (.int v1)] [])) (fun t k => XS.icmpNo X0.here hx rfl (hb hby d3_15) rfl (XT.ii_eq_f hc3) k) ?_
      refine own_st (B := s₁.setTop (mkF m 19 #[.val (.int p1), .val (.int v1)] [(.int v1)])) (fun t k => XS.iloadN X0.here hx rfl (hb hby d3_18) rfl k) ?_
      refine own_st (B := s₁.setTop (mkF m 21 #[.val (.int p1), .val (.int v1)] [(.int (13 : Int32)), (.int v1)])) (fun t k => XS.bipush X0.here hx rfl (hb hby d3_19) k) ?_
      by_cases hc4 : v1 = (13 : Int32)
      · refine own_st (B := s₁.setTop (mkF m 69 #[.val (.int p1), .val (.int v1)] [])) (fun t k => XS.icmpYes X0.here hx rfl (pc0 := 21) (pc' := 69) rfl (hb hby d3_21) rfl (XT.ii_eq_t hc4) (by decide) (by decide) k) ?_
        refine own_st (B := s₁.setTop (mkF m 70 #[.val (.int p1), .val (.int v1)] [(.int (1 : Int32))])) (fun t k => XS.iconst X0.here hx rfl (hb hby d3_69) k) ?_
        refine own_st (B := s₁.setTop (mkF m 74 #[.val (.int p1), .val (.int v1)] [(.int (1 : Int32))])) (fun t k => XS.goto X0.here hx rfl (pc0 := 70) (pc' := 74) rfl (hb hby d3_70) (by decide) (by decide) k) ?_
        refine own_retN X0 hx hlk (t := .boolean) Bd.returns (by simp) (z' := (1 : Int32)) rfl (hb hby d3_74) (by decide) (by decide) ?_
        show Q3 Z p1 h0 n0 _ s₁.heap _
        rw [e0]
        exact ⟨(by subst v1; unfold own_f3; rw [if_neg hc2, if_neg hc3, if_pos hc4]), N0, rfl⟩
      · refine own_st (B := s₁.setTop (mkF m 24 #[.val (.int p1), .val (.int v1)] [])) (fun t k => XS.icmpNo X0.here hx rfl (hb hby d3_21) rfl (XT.ii_eq_f hc4) k) ?_
        refine own_st (B := s₁.setTop (mkF m 25 #[.val (.int p1), .val (.int v1)] [(.int v1)])) (fun t k => XS.iloadN X0.here hx rfl (hb hby d3_24) rfl k) ?_
        refine own_st (B := s₁.setTop (mkF m 27 #[.val (.int p1), .val (.int v1)] [(.int (10 : Int32)), (.int v1)])) (fun t k => XS.bipush X0.here hx rfl (hb hby d3_25) k) ?_
        by_cases hc5 : v1 = (10 : Int32)
        · refine own_st (B := s₁.setTop (mkF m 69 #[.val (.int p1), .val (.int v1)] [])) (fun t k => XS.icmpYes X0.here hx rfl (pc0 := 27) (pc' := 69) rfl (hb hby d3_27) rfl (XT.ii_eq_t hc5) (by decide) (by decide) k) ?_
          refine own_st (B := s₁.setTop (mkF m 70 #[.val (.int p1), .val (.int v1)] [(.int (1 : Int32))])) (fun t k => XS.iconst X0.here hx rfl (hb hby d3_69) k) ?_
          refine own_st (B := s₁.setTop (mkF m 74 #[.val (.int p1), .val (.int v1)] [(.int (1 : Int32))])) (fun t k => XS.goto X0.here hx rfl (pc0 := 70) (pc' := 74) rfl (hb hby d3_70) (by decide) (by decide) k) ?_
          refine own_retN X0 hx hlk (t := .boolean) Bd.returns (by simp) (z' := (1 : Int32)) rfl (hb hby d3_74) (by decide) (by decide) ?_
          show Q3 Z p1 h0 n0 _ s₁.heap _
          rw [e0]
          exact ⟨(by subst v1; unfold own_f3; rw [if_neg hc2, if_neg hc3, if_neg hc4, if_pos hc5]), N0, rfl⟩
        · refine own_st (B := s₁.setTop (mkF m 30 #[.val (.int p1), .val (.int v1)] [])) (fun t k => XS.icmpNo X0.here hx rfl (hb hby d3_27) rfl (XT.ii_eq_f hc5) k) ?_
          refine own_st (B := s₁.setTop (mkF m 31 #[.val (.int p1), .val (.int v1)] [(.int v1)])) (fun t k => XS.iloadN X0.here hx rfl (hb hby d3_30) rfl k) ?_
          by_cases hc6 : v1 = (0 : Int32)
          · refine own_st (B := s₁.setTop (mkF m 69 #[.val (.int p1), .val (.int v1)] [])) (fun t k => XS.ifYes X0.here hx rfl (pc0 := 31) (pc' := 69) rfl (hb hby d3_31) rfl (XT.i0_eq_t hc6) (by decide) (by decide) k) ?_
            refine own_st (B := s₁.setTop (mkF m 70 #[.val (.int p1), .val (.int v1)] [(.int (1 : Int32))])) (fun t k => XS.iconst X0.here hx rfl (hb hby d3_69) k) ?_
            refine own_st (B := s₁.setTop (mkF m 74 #[.val (.int p1), .val (.int v1)] [(.int (1 : Int32))])) (fun t k => XS.goto X0.here hx rfl (pc0 := 70) (pc' := 74) rfl (hb hby d3_70) (by decide) (by decide) k) ?_
            refine own_retN X0 hx hlk (t := .boolean) Bd.returns (by simp) (z' := (1 : Int32)) rfl (hb hby d3_74) (by decide) (by decide) ?_
            show Q3 Z p1 h0 n0 _ s₁.heap _
            rw [e0]
            exact ⟨(by subst v1; unfold own_f3; rw [if_neg hc2, if_neg hc3, if_neg hc4, if_neg hc5, if_pos hc6]), N0, rfl⟩
          · refine own_st (B := s₁.setTop (mkF m 34 #[.val (.int p1), .val (.int v1)] [])) (fun t k => XS.ifNo X0.here hx rfl (hb hby d3_31) rfl (XT.i0_eq_f hc6) k) ?_
            refine own_st (B := s₁.setTop (mkF m 35 #[.val (.int p1), .val (.int v1)] [(.int v1)])) (fun t k => XS.iloadN X0.here hx rfl (hb hby d3_34) rfl k) ?_
            refine own_st (B := s₁.setTop (mkF m 38 #[.val (.int p1), .val (.int v1)] [(.int (239 : Int32)), (.int v1)])) (fun t k => XS.sipush X0.here hx rfl (hb hby d3_35) k) ?_
            by_cases hc7 : v1 = (239 : Int32)
            · refine own_st (B := s₁.setTop (mkF m 69 #[.val (.int p1), .val (.int v1)] [])) (fun t k => XS.icmpYes X0.here hx rfl (pc0 := 38) (pc' := 69) rfl (hb hby d3_38) rfl (XT.ii_eq_t hc7) (by decide) (by decide) k) ?_
              refine own_st (B := s₁.setTop (mkF m 70 #[.val (.int p1), .val (.int v1)] [(.int (1 : Int32))])) (fun t k => XS.iconst X0.here hx rfl (hb hby d3_69) k) ?_
              refine own_st (B := s₁.setTop (mkF m 74 #[.val (.int p1), .val (.int v1)] [(.int (1 : Int32))])) (fun t k => XS.goto X0.here hx rfl (pc0 := 70) (pc' := 74) rfl (hb hby d3_70) (by decide) (by decide) k) ?_
              refine own_retN X0 hx hlk (t := .boolean) Bd.returns (by simp) (z' := (1 : Int32)) rfl (hb hby d3_74) (by decide) (by decide) ?_
              show Q3 Z p1 h0 n0 _ s₁.heap _
              rw [e0]
              exact ⟨(by subst v1; unfold own_f3; rw [if_neg hc2, if_neg hc3, if_neg hc4, if_neg hc5, if_neg hc6, if_pos hc7]), N0, rfl⟩
            · refine own_st (B := s₁.setTop (mkF m 41 #[.val (.int p1), .val (.int v1)] [])) (fun t k => XS.icmpNo X0.here hx rfl (hb hby d3_38) rfl (XT.ii_eq_f hc7) k) ?_
              refine own_st (B := s₁.setTop (mkF m 42 #[.val (.int p1), .val (.int v1)] [(.int v1)])) (fun t k => XS.iloadN X0.here hx rfl (hb hby d3_41) rfl k) ?_
              refine own_st (B := s₁.setTop (mkF m 45 #[.val (.int p1), .val (.int v1)] [(.int (187 : Int32)), (.int v1)])) (fun t k => XS.sipush X0.here hx rfl (hb hby d3_42) k) ?_
              by_cases hc8 : v1 = (187 : Int32)
              · refine own_st (B := s₁.setTop (mkF m 69 #[.val (.int p1), .val (.int v1)] [])) (fun t k => XS.icmpYes X0.here hx rfl (pc0 := 45) (pc' := 69) rfl (hb hby d3_45) rfl (XT.ii_eq_t hc8) (by decide) (by decide) k) ?_
                refine own_st (B := s₁.setTop (mkF m 70 #[.val (.int p1), .val (.int v1)] [(.int (1 : Int32))])) (fun t k => XS.iconst X0.here hx rfl (hb hby d3_69) k) ?_
                refine own_st (B := s₁.setTop (mkF m 74 #[.val (.int p1), .val (.int v1)] [(.int (1 : Int32))])) (fun t k => XS.goto X0.here hx rfl (pc0 := 70) (pc' := 74) rfl (hb hby d3_70) (by decide) (by decide) k) ?_
                refine own_retN X0 hx hlk (t := .boolean) Bd.returns (by simp) (z' := (1 : Int32)) rfl (hb hby d3_74) (by decide) (by decide) ?_
                show Q3 Z p1 h0 n0 _ s₁.heap _
                rw [e0]
                exact ⟨(by subst v1; unfold own_f3; rw [if_neg hc2, if_neg hc3, if_neg hc4, if_neg hc5, if_neg hc6, if_neg hc7, if_pos hc8]), N0, rfl⟩
              · refine own_st (B := s₁.setTop (mkF m 48 #[.val (.int p1), .val (.int v1)] [])) (fun t k => XS.icmpNo X0.here hx rfl (hb hby d3_45) rfl (XT.ii_eq_f hc8) k) ?_
                refine own_st (B := s₁.setTop (mkF m 49 #[.val (.int p1), .val (.int v1)] [(.int v1)])) (fun t k => XS.iloadN X0.here hx rfl (hb hby d3_48) rfl k) ?_
                refine own_st (B := s₁.setTop (mkF m 52 #[.val (.int p1), .val (.int v1)] [(.int (191 : Int32)), (.int v1)])) (fun t k => XS.sipush X0.here hx rfl (hb hby d3_49) k) ?_
                by_cases hc9 : v1 = (191 : Int32)
                · refine own_st (B := s₁.setTop (mkF m 69 #[.val (.int p1), .val (.int v1)] [])) (fun t k => XS.icmpYes X0.here hx rfl (pc0 := 52) (pc' := 69) rfl (hb hby d3_52) rfl (XT.ii_eq_t hc9) (by decide) (by decide) k) ?_
                  refine own_st (B := s₁.setTop (mkF m 70 #[.val (.int p1), .val (.int v1)] [(.int (1 : Int32))])) (fun t k => XS.iconst X0.here hx rfl (hb hby d3_69) k) ?_
                  refine own_st (B := s₁.setTop (mkF m 74 #[.val (.int p1), .val (.int v1)] [(.int (1 : Int32))])) (fun t k => XS.goto X0.here hx rfl (pc0 := 70) (pc' := 74) rfl (hb hby d3_70) (by decide) (by decide) k) ?_
                  refine own_retN X0 hx hlk (t := .boolean) Bd.returns (by simp) (z' := (1 : Int32)) rfl (hb hby d3_74) (by decide) (by decide) ?_
                  show Q3 Z p1 h0 n0 _ s₁.heap _
                  rw [e0]
                  exact ⟨(by subst v1; unfold own_f3; rw [if_neg hc2, if_neg hc3, if_neg hc4, if_neg hc5, if_neg hc6, if_neg hc7, if_neg hc8, if_pos hc9]), N0, rfl⟩
                · refine own_st (B := s₁.setTop (mkF m 55 #[.val (.int p1), .val (.int v1)] [])) (fun t k => XS.icmpNo X0.here hx rfl (hb hby d3_52) rfl (XT.ii_eq_f hc9) k) ?_
                  refine own_st (B := s₁.setTop (mkF m 56 #[.val (.int p1), .val (.int v1)] [(.int v1)])) (fun t k => XS.iloadN X0.here hx rfl (hb hby d3_55) rfl k) ?_
                  refine own_st (B := s₁.setTop (mkF m 59 #[.val (.int p1), .val (.int v1)] [(.int (254 : Int32)), (.int v1)])) (fun t k => XS.sipush X0.here hx rfl (hb hby d3_56) k) ?_
                  by_cases hc10 : v1 = (254 : Int32)
                  · refine own_st (B := s₁.setTop (mkF m 69 #[.val (.int p1), .val (.int v1)] [])) (fun t k => XS.icmpYes X0.here hx rfl (pc0 := 59) (pc' := 69) rfl (hb hby d3_59) rfl (XT.ii_eq_t hc10) (by decide) (by decide) k) ?_
                    refine own_st (B := s₁.setTop (mkF m 70 #[.val (.int p1), .val (.int v1)] [(.int (1 : Int32))])) (fun t k => XS.iconst X0.here hx rfl (hb hby d3_69) k) ?_
                    refine own_st (B := s₁.setTop (mkF m 74 #[.val (.int p1), .val (.int v1)] [(.int (1 : Int32))])) (fun t k => XS.goto X0.here hx rfl (pc0 := 70) (pc' := 74) rfl (hb hby d3_70) (by decide) (by decide) k) ?_
                    refine own_retN X0 hx hlk (t := .boolean) Bd.returns (by simp) (z' := (1 : Int32)) rfl (hb hby d3_74) (by decide) (by decide) ?_
                    show Q3 Z p1 h0 n0 _ s₁.heap _
                    rw [e0]
                    exact ⟨(by subst v1; unfold own_f3; rw [if_neg hc2, if_neg hc3, if_neg hc4, if_neg hc5, if_neg hc6, if_neg hc7, if_neg hc8, if_neg hc9, if_pos hc10]), N0, rfl⟩
                  · refine own_st (B := s₁.setTop (mkF m 62 #[.val (.int p1), .val (.int v1)] [])) (fun t k => XS.icmpNo X0.here hx rfl (hb hby d3_59) rfl (XT.ii_eq_f hc10) k) ?_
                    refine own_st (B := s₁.setTop (mkF m 63 #[.val (.int p1), .val (.int v1)] [(.int v1)])) (fun t k => XS.iloadN X0.here hx rfl (hb hby d3_62) rfl k) ?_
                    refine own_st (B := s₁.setTop (mkF m 66 #[.val (.int p1), .val (.int v1)] [(.int (255 : Int32)), (.int v1)])) (fun t k => XS.sipush X0.here hx rfl (hb hby d3_63) k) ?_
                    by_cases hc11 : v1 = (255 : Int32)
                    · refine own_st (B := s₁.setTop (mkF m 69 #[.val (.int p1), .val (.int v1)] [])) (fun t k => XS.icmpNo X0.here hx rfl (hb hby d3_66) rfl (XT.ii_ne_f hc11) k) ?_
                      refine own_st (B := s₁.setTop (mkF m 70 #[.val (.int p1), .val (.int v1)] [(.int (1 : Int32))])) (fun t k => XS.iconst X0.here hx rfl (hb hby d3_69) k) ?_
                      refine own_st (B := s₁.setTop (mkF m 74 #[.val (.int p1), .val (.int v1)] [(.int (1 : Int32))])) (fun t k => XS.goto X0.here hx rfl (pc0 := 70) (pc' := 74) rfl (hb hby d3_70) (by decide) (by decide) k) ?_
                      refine own_retN X0 hx hlk (t := .boolean) Bd.returns (by simp) (z' := (1 : Int32)) rfl (hb hby d3_74) (by decide) (by decide) ?_
                      show Q3 Z p1 h0 n0 _ s₁.heap _
                      rw [e0]
                      exact ⟨(by subst v1; unfold own_f3; rw [if_neg hc2, if_neg hc3, if_neg hc4, if_neg hc5, if_neg hc6, if_neg hc7, if_neg hc8, if_neg hc9, if_neg hc10, if_pos hc11]), N0, rfl⟩
                    · refine own_st (B := s₁.setTop (mkF m 73 #[.val (.int p1), .val (.int v1)] [])) (fun t k => XS.icmpYes X0.here hx rfl (pc0 := 66) (pc' := 73) rfl (hb hby d3_66) rfl (XT.ii_ne_t hc11) (by decide) (by decide) k) ?_
                      refine own_st (B := s₁.setTop (mkF m 74 #[.val (.int p1), .val (.int v1)] [(.int (0 : Int32))])) (fun t k => XS.iconst X0.here hx rfl (hb hby d3_73) k) ?_
                      refine own_retN X0 hx hlk (t := .boolean) Bd.returns (by simp) (z' := (0 : Int32)) rfl (hb hby d3_74) (by decide) (by decide) ?_
                      show Q3 Z p1 h0 n0 _ s₁.heap _
                      rw [e0]
                      exact ⟨(by subst v1; unfold own_f3; rw [if_neg hc2, if_neg hc3, if_neg hc4, if_neg hc5, if_neg hc6, if_neg hc7, if_neg hc8, if_neg hc9, if_neg hc10, if_neg hc11]), N0, rfl⟩
def own_sk (z : Int32) : Bool := decide (z.toInt = -69 ∨ z.toInt = -65 ∨ z.toInt = -17 ∨ z.toInt = -2 ∨ z.toInt = -1 ∨ z.toInt = 0 ∨ z.toInt = 9 ∨ z.toInt = 10 ∨ z.toInt = 13 ∨ z.toInt = 32)
theorem own_sk_iff {z : Int32} : own_sk z = true ↔ (z.toInt = -69 ∨ z.toInt = -65 ∨ z.toInt = -17 ∨ z.toInt = -2 ∨ z.toInt = -1 ∨ z.toInt = 0 ∨ z.toInt = 9 ∨ z.toInt = 10 ∨ z.toInt = 13 ∨ z.toInt = 32) := by unfold own_sk; exact decide_eq_true_iff
theorem own_hit {z : Int32} (h : own_sk z = true) : ∃ a, (#[(-69, 89), (-65, 89), (-17, 89), (-2, 89), (-1, 89), (0, 89), (9, 89), (10, 89), (13, 89), (32, 89)] : Array (Int × Int)).find? (·.1 == z.toInt) = some (a, 89) := by
  rw [own_sk_iff] at h
  rcases h with h | h | h | h | h | h | h | h | h | h <;> exact ⟨_, by rw [h]; rfl⟩
theorem own_miss {z : Int32} (h : ¬ (own_sk z = true)) : (#[(-69, 89), (-65, 89), (-17, 89), (-2, 89), (-1, 89), (0, 89), (9, 89), (10, 89), (13, 89), (32, 89)] : Array (Int × Int)).find? (·.1 == z.toInt) = none := by
  refine find_miss fun p hp q => h ?_
  rw [own_sk_iff]
  simp only [List.mem_cons, List.not_mem_nil, or_false] at hp
  rcases hp with rfl | rfl | rfl | rfl | rfl | rfl | rfl | rfl | rfl | rfl <;> simp at q <;> omega
def own_first : List Int32 → Int32
  | [] => -1
  | b :: bs => if own_sk b then own_first bs else b &&& 255
theorem own_cons {bs : List Int32} {i : Nat} (h : i < bs.length) : own_first (bs.drop i) = if own_sk (bs.getD i 0) then own_first (bs.drop (i + 1)) else bs.getD i 0 &&& 255 := by
  rw [List.drop_eq_getElem_cons h]
  show (if own_sk bs[i] then _ else _) = _
  simp [List.getD, h]
theorem own_get {bs : List Int32} {i : Nat} (h : i < bs.length) : (bs.map Value.int)[i]? = some (.int (bs.getD i 0)) := by
  simp [List.getElem?_map, h]
theorem own_ip {i : Int32} {n : Nat} (h0 : 0 ≤ i.toInt) (h1 : i.toInt < (n : Int)) (hn : n < 1000) : (i + 1).toInt.toNat = i.toInt.toNat + 1 ∧ (i + 1).toInt = i.toInt + 1 := by
  have h2 := c_iadd i 1
  have h3 := rng32 (i + 1)
  have h4 : (1 : Int32).toInt = 1 := rfl
  omega
theorem own_pn2 : plainName "com/example/crossplan/crossplan/client/ClientText" = true := by first | (simp [plainName, overriddenIn]; done) | decide +kernel
theorem d2_0 : decode prog_28_method_31_code 0 = .ok (.aload_n 0, 1) := by decide +kernel
theorem d2_1 : decode prog_28_method_31_code 1 = .ok (.astore_n 1, 1) := by decide +kernel
theorem d2_2 : decode prog_28_method_31_code 2 = .ok (.aload_n 1, 1) := by decide +kernel
theorem d2_3 : decode prog_28_method_31_code 3 = .ok (.arraylength, 1) := by decide +kernel
theorem d2_4 : decode prog_28_method_31_code 4 = .ok (.istore_n 2, 1) := by decide +kernel
theorem d2_5 : decode prog_28_method_31_code 5 = .ok (.iconst 0, 1) := by decide +kernel
theorem d2_6 : decode prog_28_method_31_code 6 = .ok (.istore_n 3, 1) := by decide +kernel
theorem d2_7 : decode prog_28_method_31_code 7 = .ok (.iload_n 3, 1) := by decide +kernel
theorem d2_8 : decode prog_28_method_31_code 8 = .ok (.iload_n 2, 1) := by decide +kernel
theorem d2_9 : decode prog_28_method_31_code 9 = .ok (.if_icmp .ge 115, 3) := by decide +kernel
theorem d2_12 : decode prog_28_method_31_code 12 = .ok (.aload_n 1, 1) := by decide +kernel
theorem d2_13 : decode prog_28_method_31_code 13 = .ok (.iload_n 3, 1) := by decide +kernel
theorem d2_14 : decode prog_28_method_31_code 14 = .ok (.baload, 1) := by decide +kernel
theorem d2_15 : decode prog_28_method_31_code 15 = .ok (.istore 4, 2) := by decide +kernel
theorem d2_17 : decode prog_28_method_31_code 17 = .ok (.iload 4, 2) := by decide +kernel
theorem d2_19 : decode prog_28_method_31_code 19 = .ok (.lookupswitch 92 #[((-69), 89), ((-65), 89), ((-17), 89), ((-2), 89), ((-1), 89), (0, 89), (9, 89), (10, 89), (13, 89), (32, 89)], 89) := by decide +kernel
theorem d2_108 : decode prog_28_method_31_code 108 = .ok (.goto 10, 3) := by decide +kernel
theorem d2_111 : decode prog_28_method_31_code 111 = .ok (.iload 4, 2) := by decide +kernel
theorem d2_113 : decode prog_28_method_31_code 113 = .ok (.sipush 255, 3) := by decide +kernel
theorem d2_116 : decode prog_28_method_31_code 116 = .ok (.iand, 1) := by decide +kernel
theorem d2_117 : decode prog_28_method_31_code 117 = .ok (.ireturn, 1) := by decide +kernel
theorem d2_118 : decode prog_28_method_31_code 118 = .ok (.iinc 3 1, 3) := by decide +kernel
theorem d2_121 : decode prog_28_method_31_code 121 = .ok (.goto (-114), 3) := by decide +kernel
theorem d2_124 : decode prog_28_method_31_code 124 = .ok (.iconst (-1), 1) := by decide +kernel
theorem d2_125 : decode prog_28_method_31_code 125 = .ok (.ireturn, 1) := by decide +kernel
theorem ef_2 (m : MethodId) (x0 : Addr) : entryFrame m #[(.ref x0)] 5 = mkF m 0 #[.val (.ref x0), .unset, .unset, .unset, .unset] [] := by first | (simp [entryFrame, mkF, argsToLocals, Value.category]; done) | rfl
def Q2 (Z : State) (a1 : Addr) (bs : List Int32) (h0 : Heap) (n0 : Nat) (v : Option Value) (h : Heap) (L : List Loc) : Prop := v = some (.int (own_first bs)) ∧ Fr n0 L ∧ h = h0
set_option maxHeartbeats 40000000 in
theorem rm2 (l : Launch) (Z : State) (a0 : Array Value) (hw : ∀ d ∈ tables_1, d.before a0 Z = true) (ws : List Jvm.Cond) (a1 : Addr) (bs : List Int32) (h0 : Heap) (n0 : Nat) (Z0 : n0 ≤ h0.size) (F0 : own_A Z h0 a1 .byte (bs.map Value.int)) (hl : bs.length < 1000) :
    MetFree l (⟨"com/example/crossplan/crossplan/client/ClientText", "firstCharacter", "([B)I"⟩ : MethodName) (head1 (Jvm.Cond.code (⟨"com/example/crossplan/crossplan/client/ClientText", "firstCharacter", "([B)I"⟩ : MethodName) prog_28_method_31_code 5 (some .int) :: ws) ({ frames := 0, cells := 0, slots := 0, locals := 0 } : Room)) (fun a U => a = #[(.ref a1)] ∧ Z.Warmed39 U.vm ∧ U.heap = h0) (fun _ _ _ _ _ => True) (fun _ U o U' => ∃ v L, o = .returned v ∧ Q2 Z a1 bs h0 n0 v U'.heap L ∧ FrameEnd U o U' L ({ frames := 0, cells := 0, slots := 0, locals := 0 } : Room).cells ({ frames := 0, cells := 0, slots := 0, locals := 0 } : Room).slots) := by
  refine MetFree.of_bodySF (plainFor_of_name own_pn2) hisR ?_
  intro p e s m args below meth c s₁ Bd hml0 hP hK
  obtain ⟨rfl, hZ, hh⟩ := hP
  have hx := Bd.exec
  have hby := Bd.bytes
  have hml : c.maxLocals = 5 := hml0
  have hlk : meth.locks = false := BodyLoose.notSynchronized Bd
  have hown : s.vm.findClass "com/example/crossplan/crossplan/client/ClientText" = some m.cls := findClass_of_methodNamed Bd.named
  have hnm := (name_of_methodNamed Bd.named Bd.method).1
  have X0 : Stand p l e ({ frames := 0, cells := 0, slots := 0, locals := 0 } : Room) s m #[(.ref a1)] below meth c s₁ [] 0 0 := Stand.of_body Bd
  have e0 : s₁.heap = h0 := by rw [← hh, Bd.state]; rfl
  have N0 := Fr.nil n0
  show own_Go p e below s (Q2 Z a1 bs h0 n0) ({ frames := 0, cells := 0, slots := 0, locals := 0 } : Room).cells ({ frames := 0, cells := 0, slots := 0, locals := 0 } : Room).slots _
  refine own_st (B := s₁.setTop (mkF m 0 #[.val (.ref a1), .unset, .unset, .unset, .unset] [])) (fun t k => castTop (ef_2 m (a1)) k) ?_
  refine own_st (B := s₁.setTop (mkF m 1 #[.val (.ref a1), .unset, .unset, .unset, .unset] [(.ref a1)])) (fun t k => XS.aloadN X0.here hx rfl (hb hby d2_0) rfl rfl k) ?_
  refine own_st (B := s₁.setTop (mkF m 2 #[.val (.ref a1), .val (.ref a1), .unset, .unset, .unset] [])) (fun t k => XS.astoreN X0.here hx rfl (hb hby d2_1) rfl rfl (l' := #[.val (.ref a1), .val (.ref a1), .unset, .unset, .unset]) rfl k) ?_
  refine own_st (B := s₁.setTop (mkF m 3 #[.val (.ref a1), .val (.ref a1), .unset, .unset, .unset] [(.ref a1)])) (fun t k => XS.aloadN X0.here hx rfl (hb hby d2_2) rfl rfl k) ?_
  refine own_st (B := s₁.setTop (mkF m 4 #[.val (.ref a1), .val (.ref a1), .unset, .unset, .unset] [(.int (bs.length.toInt32))])) (fun t k => own_len X0 hx hZ e0 F0 (g := (mkF m 3 #[.val (.ref a1), .val (.ref a1), .unset, .unset, .unset] [(.ref a1)])) (n := (bs.length.toInt32)) (by rw [List.length_map]; exact len_toInt (by omega)) rfl rfl (hb hby d2_3) k) ?_
  refine own_st (B := s₁.setTop (mkF m 5 #[.val (.ref a1), .val (.ref a1), .val (.int (bs.length.toInt32)), .unset, .unset] [])) (fun t k => XS.istoreN X0.here hx rfl (hb hby d2_4) rfl (l' := #[.val (.ref a1), .val (.ref a1), .val (.int (bs.length.toInt32)), .unset, .unset]) rfl k) ?_
  refine own_st (B := s₁.setTop (mkF m 6 #[.val (.ref a1), .val (.ref a1), .val (.int (bs.length.toInt32)), .unset, .unset] [(.int (0 : Int32))])) (fun t k => XS.iconst X0.here hx rfl (hb hby d2_5) k) ?_
  refine own_st (B := s₁.setTop (mkF m 7 #[.val (.ref a1), .val (.ref a1), .val (.int (bs.length.toInt32)), .val (.int (0 : Int32)), .unset] [])) (fun t k => XS.istoreN X0.here hx rfl (hb hby d2_6) rfl (l' := #[.val (.ref a1), .val (.ref a1), .val (.int (bs.length.toInt32)), .val (.int (0 : Int32)), .unset]) rfl k) ?_
  refine own_cut (P := ∀ (mu1 : Nat) (T1 : State) (lo1 : List Loc) (i : Int32) (s4_7 : Slot), Stand p l e ({ frames := 0, cells := 0, slots := 0, locals := 0 } : Room) s m #[(.ref a1)] below meth c T1 lo1 0 0 → T1.heap = h0 → Fr n0 lo1 → One s4_7 → mu1 = (bs.length - i.toInt.toNat) → (0 ≤ i.toInt ∧ i.toInt ≤ (bs.length : Int)) → (own_first (bs.drop i.toInt.toNat) = own_first bs) → own_Go p e below s (Q2 Z a1 bs h0 n0) ({ frames := 0, cells := 0, slots := 0, locals := 0 } : Room).cells ({ frames := 0, cells := 0, slots := 0, locals := 0 } : Room).slots (T1.setTop (mkF m 7 #[.val (.ref a1), .val (.ref a1), .val (.int (bs.length.toInt32)), .val (.int i), s4_7] []))) (fun J1 => ?_) ?_
  · exact J1 _ s₁ _ (0 : Int32) .unset X0 e0 N0 One.u rfl (show 0 ≤ (0 : Int32).toInt ∧ (0 : Int32).toInt ≤ (bs.length : Int) by have h0 : (0 : Int32).toInt = 0 := rfl; omega) (show own_first (bs.drop (0 : Int32).toInt.toNat) = own_first bs by show own_first (bs.drop 0) = _; rw [List.drop_zero])
  intro mu1
  induction mu1 using Nat.strongRecOn with
  | ind mu1 ih1 =>
    intro T1 lo1 i s4_7 X1 e1 N1 hs4_7 hmu1 hi hS
    refine own_st (B := T1.setTop (mkF m 8 #[.val (.ref a1), .val (.ref a1), .val (.int (bs.length.toInt32)), .val (.int i), s4_7] [(.int i)])) (fun t k => XS.iloadN X1.here hx rfl (hb hby d2_7) rfl k) ?_
    refine own_st (B := T1.setTop (mkF m 9 #[.val (.ref a1), .val (.ref a1), .val (.int (bs.length.toInt32)), .val (.int i), s4_7] [(.int (bs.length.toInt32)), (.int i)])) (fun t k => XS.iloadN X1.here hx rfl (hb hby d2_8) rfl k) ?_
    by_cases hc2 : i < (bs.length.toInt32)
    · refine own_st (B := T1.setTop (mkF m 12 #[.val (.ref a1), .val (.ref a1), .val (.int (bs.length.toInt32)), .val (.int i), s4_7] [])) (fun t k => XS.icmpNo X1.here hx rfl (hb hby d2_9) rfl (XT.ii_ge_f hc2) k) ?_
      refine own_st (B := T1.setTop (mkF m 13 #[.val (.ref a1), .val (.ref a1), .val (.int (bs.length.toInt32)), .val (.int i), s4_7] [(.ref a1)])) (fun t k => XS.aloadN X1.here hx rfl (hb hby d2_12) rfl rfl k) ?_
      refine own_st (B := T1.setTop (mkF m 14 #[.val (.ref a1), .val (.ref a1), .val (.int (bs.length.toInt32)), .val (.int i), s4_7] [(.int i), (.ref a1)])) (fun t k => XS.iloadN X1.here hx rfl (hb hby d2_13) rfl k) ?_
      refine own_st (B := T1.setTop (mkF m 15 #[.val (.ref a1), .val (.ref a1), .val (.int (bs.length.toInt32)), .val (.int i), s4_7] [(.int (bs.getD i.toInt.toNat 0))])) (fun t k => own_ldB X1 hx hZ e1 F0 (g := (mkF m 14 #[.val (.ref a1), .val (.ref a1), .val (.int (bs.length.toInt32)), .val (.int i), s4_7] [(.int i), (.ref a1)])) (i := (i.toInt.toNat)) (show i.toInt = ((i.toInt.toNat : Nat) : Int) by omega) (own_get (show i.toInt.toNat < bs.length by have := (own_ltN hl).mp hc2; omega)) rfl rfl (hb hby d2_14) k) ?_
      refine own_st (B := T1.setTop (mkF m 17 #[.val (.ref a1), .val (.ref a1), .val (.int (bs.length.toInt32)), .val (.int i), .val (.int (bs.getD i.toInt.toNat 0))] [])) (fun t k => XS.istoreS X1.here hx rfl (hb hby d2_15) rfl rfl hs4_7 k) ?_
      refine own_st (B := T1.setTop (mkF m 19 #[.val (.ref a1), .val (.ref a1), .val (.int (bs.length.toInt32)), .val (.int i), .val (.int (bs.getD i.toInt.toNat 0))] [(.int (bs.getD i.toInt.toNat 0))])) (fun t k => XS.iload X1.here hx rfl (hb hby d2_17) rfl k) ?_
      by_cases hk3 : own_sk (bs.getD i.toInt.toNat 0) = true
      · obtain ⟨a_, hf_⟩ := own_hit hk3
        refine own_st (B := T1.setTop (mkF m 108 #[.val (.ref a1), .val (.ref a1), .val (.int (bs.length.toInt32)), .val (.int i), .val (.int (bs.getD i.toInt.toNat 0))] [])) (fun t k => X1.lookupswitchHit hx (g := (mkF m 19 #[.val (.ref a1), .val (.ref a1), .val (.int (bs.length.toInt32)), .val (.int i), .val (.int (bs.getD i.toInt.toNat 0))] [(.int (bs.getD i.toInt.toNat 0))])) rfl rfl (hb hby d2_19) (by decide) hf_ (show (0 : Int) ≤ ((19 : Nat) : Int) + 89 from by decide) _ k) ?_
        refine own_st (B := T1.setTop (mkF m 118 #[.val (.ref a1), .val (.ref a1), .val (.int (bs.length.toInt32)), .val (.int i), .val (.int (bs.getD i.toInt.toNat 0))] [])) (fun t k => XS.goto X1.here hx rfl (pc0 := 108) (pc' := 118) rfl (hb hby d2_108) (by decide) (by decide) k) ?_
        refine own_st (B := T1.setTop (mkF m 121 #[.val (.ref a1), .val (.ref a1), .val (.int (bs.length.toInt32)), .val (.int (i + (1 : Int32))), .val (.int (bs.getD i.toInt.toNat 0))] [])) (fun t k => XS.iinc X1.here hx rfl (hb hby d2_118) rfl (l' := #[.val (.ref a1), .val (.ref a1), .val (.int (bs.length.toInt32)), .val (.int (i + (1 : Int32))), .val (.int (bs.getD i.toInt.toNat 0))]) rfl k) ?_
        refine own_st (B := T1.setTop (mkF m 7 #[.val (.ref a1), .val (.ref a1), .val (.int (bs.length.toInt32)), .val (.int (i + (1 : Int32))), .val (.int (bs.getD i.toInt.toNat 0))] [])) (fun t k => XS.goto X1.here hx rfl (pc0 := 121) (pc' := 7) rfl (hb hby d2_121) (by decide) (by decide) k) ?_
        exact ih1 _ (by have h1 := (own_ltN hl).mp hc2; have h2 := own_ip hi.1 h1 hl; omega) T1 _ ((i + (1 : Int32))) (.val (.int (bs.getD i.toInt.toNat 0))) X1 e1 N1 (One.val rfl) rfl (show 0 ≤ (i + (1 : Int32)).toInt ∧ (i + (1 : Int32)).toInt ≤ (bs.length : Int) by have h1 := (own_ltN hl).mp hc2; have h2 := own_ip hi.1 h1 hl; omega) (show own_first (bs.drop (i + (1 : Int32)).toInt.toNat) = own_first bs by have h1 := (own_ltN hl).mp hc2; rw [(own_ip hi.1 h1 hl).1, ← hS, own_cons (i := i.toInt.toNat) (by omega), if_pos hk3])
      · refine own_st (B := T1.setTop (mkF m 111 #[.val (.ref a1), .val (.ref a1), .val (.int (bs.length.toInt32)), .val (.int i), .val (.int (bs.getD i.toInt.toNat 0))] [])) (fun t k => X1.lookupswitchMiss hx (g := (mkF m 19 #[.val (.ref a1), .val (.ref a1), .val (.int (bs.length.toInt32)), .val (.int i), .val (.int (bs.getD i.toInt.toNat 0))] [(.int (bs.getD i.toInt.toNat 0))])) rfl rfl (hb hby d2_19) (by decide) (own_miss hk3) (show (0 : Int) ≤ ((19 : Nat) : Int) + 92 from by decide) _ k) ?_
        refine own_st (B := T1.setTop (mkF m 113 #[.val (.ref a1), .val (.ref a1), .val (.int (bs.length.toInt32)), .val (.int i), .val (.int (bs.getD i.toInt.toNat 0))] [(.int (bs.getD i.toInt.toNat 0))])) (fun t k => XS.iload X1.here hx rfl (hb hby d2_111) rfl k) ?_
        refine own_st (B := T1.setTop (mkF m 116 #[.val (.ref a1), .val (.ref a1), .val (.int (bs.length.toInt32)), .val (.int i), .val (.int (bs.getD i.toInt.toNat 0))] [(.int (255 : Int32)), (.int (bs.getD i.toInt.toNat 0))])) (fun t k => XS.sipush X1.here hx rfl (hb hby d2_113) k) ?_
        refine own_st (B := T1.setTop (mkF m 117 #[.val (.ref a1), .val (.ref a1), .val (.int (bs.length.toInt32)), .val (.int i), .val (.int (bs.getD i.toInt.toNat 0))] [(.int ((bs.getD i.toInt.toNat 0) &&& (255 : Int32)))])) (fun t k => XS.iand X1.here hx rfl (hb hby d2_116) rfl k) ?_
        refine own_retI X1 hx hlk Bd.returns (hb hby d2_117) (by decide) (by decide) ?_
        show Q2 Z a1 bs h0 n0 _ T1.heap _
        rw [e1]
        exact ⟨(by rw [← hS, own_cons (i := i.toInt.toNat) (by have h1 := (own_ltN hl).mp hc2; omega), if_neg hk3]), N1, rfl⟩
    · refine own_st (B := T1.setTop (mkF m 124 #[.val (.ref a1), .val (.ref a1), .val (.int (bs.length.toInt32)), .val (.int i), s4_7] [])) (fun t k => XS.icmpYes X1.here hx rfl (pc0 := 9) (pc' := 124) rfl (hb hby d2_9) rfl (XT.ii_ge_t hc2) (by decide) (by decide) k) ?_
      refine own_st (B := T1.setTop (mkF m 125 #[.val (.ref a1), .val (.ref a1), .val (.int (bs.length.toInt32)), .val (.int i), s4_7] [(.int (-1 : Int32))])) (fun t k => XS.iconst X1.here hx rfl (hb hby d2_124) k) ?_
      refine own_retI X1 hx hlk Bd.returns (hb hby d2_125) (by decide) (by decide) ?_
      show Q2 Z a1 bs h0 n0 _ T1.heap _
      rw [e1]
      exact ⟨(by have h1 : ¬ (i.toInt < (bs.length : Int)) := fun q => hc2 ((own_ltN hl).mpr q); rw [← hS, List.drop_of_length_le (by omega)]; rfl), N1, rfl⟩
theorem own_four (x : Int32) : x &&& 3 = 0 ∨ x &&& 3 = 1 ∨ x &&& 3 = 2 ∨ x &&& 3 = 3 := by
  have h1 := c_mask x 3 2 (by decide) (by decide)
  have h2 : (0 : Int32).toInt = 0 := rfl
  have h3 : (1 : Int32).toInt = 1 := rfl
  have h4 : (2 : Int32).toInt = 2 := rfl
  have h5 : (3 : Int32).toInt = 3 := rfl
  simp only [← Int32.toInt_inj]
  omega
theorem own_skf {z : Int32} (hz : z.toInt8.toInt32 = z) : own_sk z = true ↔ ¬ (own_f3 z = 0) := by
  have h1 := c_i2b z
  rw [hz] at h1
  have h2 := c_mask z 255 8 (by decide) (by decide)
  rw [own_sk_iff]
  unfold own_f3
  simp only [← Int32.toInt_inj, h2]
  have l0 : (0 : Int32).toInt = 0 := rfl
  have l1 : (32 : Int32).toInt = 32 := rfl
  have l2 : (9 : Int32).toInt = 9 := rfl
  have l3 : (13 : Int32).toInt = 13 := rfl
  have l4 : (10 : Int32).toInt = 10 := rfl
  have l5 : (239 : Int32).toInt = 239 := rfl
  have l6 : (187 : Int32).toInt = 187 := rfl
  have l7 : (191 : Int32).toInt = 191 := rfl
  have l8 : (254 : Int32).toInt = 254 := rfl
  have l9 : (255 : Int32).toInt = 255 := rfl
  have l10 : (1 : Int32).toInt = 1 := rfl
  rw [l0, l1, l2, l3, l4, l5, l6, l7, l8, l9]
  repeat' split
  all_goals (simp only [l0, l10]; first | omega | (simp only [not_true_eq_false, iff_false]; omega))
theorem own_chain {z e e' : Int32} {bs : List Int32} (hz : z.toInt8.toInt32 = z) (he : own_first bs = e) (he' : e' = if own_f3 z = 0 then z &&& 255 else e) : own_first (z.toInt8.toInt32 :: bs) = e' := by
  rw [hz]
  show (if own_sk z then own_first bs else z &&& 255) = e'
  by_cases h : own_f3 z = 0
  · rw [he', if_pos h, if_neg (fun q => (own_skf hz).mp q h)]
  · rw [he', if_neg h, if_pos ((own_skf hz).mpr h), he]
theorem own_pd2 : parseMethodDescriptor "(I)B" = some ⟨[.int], some .byte⟩ := by decide +kernel
theorem own_pd3 : parseMethodDescriptor "([B)I" = some ⟨[(.array .byte)], some .int⟩ := by decide +kernel
theorem own_pd4 : parseMethodDescriptor "(B)Z" = some ⟨[.byte], some .boolean⟩ := by decide +kernel
theorem ef_0 (m : MethodId) (x0 : Int32) (x1 : Int32) (x2 : Int32) (x3 : Int32) : entryFrame m #[(.int x0), (.int x1), (.int x2), (.int x3)] maxLocals = mkF m 0 #[.val (.int x0), .val (.int x1), .val (.int x2), .val (.int x3), .unset, .unset, .unset, .unset, .unset, .unset] [] := by first | (simp [entryFrame, mkF, argsToLocals, Value.category, maxLocals]; done) | rfl
def Q0 (Z : State) (arg0 : Int32) (arg1 : Int32) (arg2 : Int32) (arg3 : Int32) (h0 : Heap) (n0 : Nat) (v : Option Value) (h : Heap) (L : List Loc) : Prop := v = some (.int 1) ∧ Fr n0 L
set_option maxHeartbeats 40000000 in
theorem rm0 (l : Launch) (Z : State) (a0 : Array Value) (hw : ∀ d ∈ tables_1, d.before a0 Z = true) (ws : List Jvm.Cond) (arg0 : Int32) (arg1 : Int32) (arg2 : Int32) (arg3 : Int32) (h0 : Heap) (n0 : Nat) (Z0 : n0 ≤ h0.size) :
    MetFree l x (head1 (Jvm.Cond.code x code maxLocals ret :: ws) room_1) (fun a U => a = #[(.int arg0), (.int arg1), (.int arg2), (.int arg3)] ∧ Z.Warmed39 U.vm ∧ U.heap = h0) (fun _ _ _ _ _ => True) (fun _ U o U' => ∃ v L, o = .returned v ∧ Q0 Z arg0 arg1 arg2 arg3 h0 n0 v U'.heap L ∧ FrameEnd U o U' L 16 192) := by
  refine MetFree.of_bodySF (plainFor_of_name own_pn1) hisR ?_
  intro p e s m args below meth c s₁ Bd hml0 hP hK
  obtain ⟨rfl, hZ, hh⟩ := hP
  have hx := Bd.exec
  have hby := Bd.bytes
  have hml : c.maxLocals = 10 := hml0
  have hlk : meth.locks = false := BodyLoose.notSynchronized Bd
  have hown : s.vm.findClass "com/example/crossplan/crossplan/client/ClientTextFirstCharacterPinLaw" = some m.cls := findClass_of_methodNamed Bd.named
  have hnm := (name_of_methodNamed Bd.named Bd.method).1
  have X0 : Stand p l e room_1 s m #[(.int arg0), (.int arg1), (.int arg2), (.int arg3)] below meth c s₁ [] 0 0 := Stand.of_body Bd
  have e0 : s₁.heap = h0 := by rw [← hh, Bd.state]; rfl
  have N0 := Fr.nil n0
  show own_Go p e below s (Q0 Z arg0 arg1 arg2 arg3 h0 n0) 16 192 _
  refine own_st (B := s₁.setTop (mkF m 0 #[.val (.int arg0), .val (.int arg1), .val (.int arg2), .val (.int arg3), .unset, .unset, .unset, .unset, .unset, .unset] [])) (fun t k => castTop (ef_0 m (arg0) (arg1) (arg2) (arg3)) k) ?_
  refine own_st (B := s₁.setTop (mkF m 1 #[.val (.int arg0), .val (.int arg1), .val (.int arg2), .val (.int arg3), .unset, .unset, .unset, .unset, .unset, .unset] [(.int arg0)])) (fun t k => XS.iloadN X0.here hx rfl (hb hby at_0) rfl k) ?_
  refine own_st (B := s₁.setTop (mkF m 2 #[.val (.int arg0), .val (.int arg1), .val (.int arg2), .val (.int arg3), .unset, .unset, .unset, .unset, .unset, .unset] [(.int (3 : Int32)), (.int arg0)])) (fun t k => XS.iconst X0.here hx rfl (hb hby at_1) k) ?_
  refine own_st (B := s₁.setTop (mkF m 3 #[.val (.int arg0), .val (.int arg1), .val (.int arg2), .val (.int arg3), .unset, .unset, .unset, .unset, .unset, .unset] [(.int (arg0 &&& (3 : Int32)))])) (fun t k => XS.iand X0.here hx rfl (hb hby at_2) rfl k) ?_
  rcases own_four arg0 with hn | hn | hn | hn
  · rw [hn]
    refine own_st (B := s₁.setTop (mkF m 5 #[.val (.int arg0), .val (.int arg1), .val (.int arg2), .val (.int arg3), .val (.int (0 : Int32)), .unset, .unset, .unset, .unset, .unset] [])) (fun t k => XS.istore X0.here hx rfl (hb hby at_3) rfl (l' := #[.val (.int arg0), .val (.int arg1), .val (.int arg2), .val (.int arg3), .val (.int (0 : Int32)), .unset, .unset, .unset, .unset, .unset]) rfl k) ?_
    refine own_st (B := s₁.setTop (mkF m 6 #[.val (.int arg0), .val (.int arg1), .val (.int arg2), .val (.int arg3), .val (.int (0 : Int32)), .unset, .unset, .unset, .unset, .unset] [(.int arg1)])) (fun t k => XS.iloadN X0.here hx rfl (hb hby at_5) rfl k) ?_
    obtain ⟨_, _, ⟨T1, L1, k1, j1⟩, -, X1, ⟨Lc1, hQ1, l1, y1_, z1_⟩, st1⟩ := Jvm.LawKit.callS X0 hx (y := (⟨"com/example/crossplan/crossplan/client/ClientTextFirstCharacterPinLaw", "draw", "(I)B"⟩ : MethodName)) hown (mvT hZ (w_0 hw)) (mvT hZ (w_1 hw)) (mvT hZ (w_2 hw)) (mvT hZ (w_3 hw)) (by decide) (backOf (W := 0) (rm1 l Z a0 hw [] arg1 h0 n0 Z0 ) hZ (w_3 hw) (w_2 hw) (by decide) (by decide)) (g := (mkF m 6 #[.val (.int arg0), .val (.int arg1), .val (.int arg2), .val (.int arg3), .val (.int (0 : Int32)), .unset, .unset, .unset, .unset, .unset] [(.int arg1)])) rfl (by rw [hml]; rfl) (argsL := [(.int arg1)]) (rest := []) (lenOf own_pd2 rfl) rfl (by show 2 * 0 + _ ≤ _; exact Nat.le_of_eq rfl) (hb hby at_6) (fun _ _ => ⟨rfl, e0, (by decide : 0 + 1 ≤ _), (by decide : 0 + 10 ≤ _)⟩)
    dsimp only [Pt.U, Pt.locs, Pt.cells, Pt.slots] at X1 l1 y1_ z1_ st1 hQ1
    subst l1 y1_ z1_
    obtain ⟨z_1, rfl, N1q, K1, r1_0⟩ := hQ1
    have N1 := Fr.app N0 N1q
    have z2 : n0 ≤ T1.heap.size := Nat.le_trans Z0 K1.1
    refine own_st (B := T1.setTop (mkF m 9 #[.val (.int arg0), .val (.int arg1), .val (.int arg2), .val (.int arg3), .val (.int (0 : Int32)), .unset, .unset, .unset, .unset, .unset] [(.int z_1)])) (fun t k => st1 t k) ?_
    refine own_st (B := T1.setTop (mkF m 11 #[.val (.int arg0), .val (.int arg1), .val (.int arg2), .val (.int arg3), .val (.int (0 : Int32)), .val (.int z_1), .unset, .unset, .unset, .unset] [])) (fun t k => XS.istore X1.here hx rfl (hb hby at_9) rfl (l' := #[.val (.int arg0), .val (.int arg1), .val (.int arg2), .val (.int arg3), .val (.int (0 : Int32)), .val (.int z_1), .unset, .unset, .unset, .unset]) rfl k) ?_
    refine own_st (B := T1.setTop (mkF m 12 #[.val (.int arg0), .val (.int arg1), .val (.int arg2), .val (.int arg3), .val (.int (0 : Int32)), .val (.int z_1), .unset, .unset, .unset, .unset] [(.int arg2)])) (fun t k => XS.iloadN X1.here hx rfl (hb hby at_11) rfl k) ?_
    obtain ⟨_, _, ⟨T3, L3, k3, j3⟩, -, X3, ⟨Lc3, hQ3, l3, y3_, z3_⟩, st3⟩ := Jvm.LawKit.callS X1 hx (y := (⟨"com/example/crossplan/crossplan/client/ClientTextFirstCharacterPinLaw", "draw", "(I)B"⟩ : MethodName)) hown (mvT hZ (w_0 hw)) (mvT hZ (w_1 hw)) (mvT hZ (w_2 hw)) (mvT hZ (w_3 hw)) (by decide) (backOf (W := 0) (rm1 l Z a0 hw [] arg2 T1.heap n0 z2 ) hZ (w_3 hw) (w_2 hw) (by decide) (by decide)) (g := (mkF m 12 #[.val (.int arg0), .val (.int arg1), .val (.int arg2), .val (.int arg3), .val (.int (0 : Int32)), .val (.int z_1), .unset, .unset, .unset, .unset] [(.int arg2)])) rfl (by rw [hml]; rfl) (argsL := [(.int arg2)]) (rest := []) (lenOf own_pd2 rfl) rfl (by show 2 * 0 + _ ≤ _; exact Nat.le_of_eq rfl) (hb hby at_12) (fun _ _ => ⟨rfl, rfl, (by decide : 1 + 1 ≤ _), (by decide : 10 + 10 ≤ _)⟩)
    dsimp only [Pt.U, Pt.locs, Pt.cells, Pt.slots] at X3 l3 y3_ z3_ st3 hQ3
    subst l3 y3_ z3_
    obtain ⟨z_3, rfl, N3q, K3, r3_0⟩ := hQ3
    have N3 := Fr.app N1 N3q
    have z4 : n0 ≤ T3.heap.size := Nat.le_trans z2 K3.1
    refine own_st (B := T3.setTop (mkF m 15 #[.val (.int arg0), .val (.int arg1), .val (.int arg2), .val (.int arg3), .val (.int (0 : Int32)), .val (.int z_1), .unset, .unset, .unset, .unset] [(.int z_3)])) (fun t k => st3 t k) ?_
    refine own_st (B := T3.setTop (mkF m 17 #[.val (.int arg0), .val (.int arg1), .val (.int arg2), .val (.int arg3), .val (.int (0 : Int32)), .val (.int z_1), .val (.int z_3), .unset, .unset, .unset] [])) (fun t k => XS.istore X3.here hx rfl (hb hby at_15) rfl (l' := #[.val (.int arg0), .val (.int arg1), .val (.int arg2), .val (.int arg3), .val (.int (0 : Int32)), .val (.int z_1), .val (.int z_3), .unset, .unset, .unset]) rfl k) ?_
    refine own_st (B := T3.setTop (mkF m 18 #[.val (.int arg0), .val (.int arg1), .val (.int arg2), .val (.int arg3), .val (.int (0 : Int32)), .val (.int z_1), .val (.int z_3), .unset, .unset, .unset] [(.int arg3)])) (fun t k => XS.iloadN X3.here hx rfl (hb hby at_17) rfl k) ?_
    obtain ⟨_, _, ⟨T5, L5, k5, j5⟩, -, X5, ⟨Lc5, hQ5, l5, y5_, z5_⟩, st5⟩ := Jvm.LawKit.callS X3 hx (y := (⟨"com/example/crossplan/crossplan/client/ClientTextFirstCharacterPinLaw", "draw", "(I)B"⟩ : MethodName)) hown (mvT hZ (w_0 hw)) (mvT hZ (w_1 hw)) (mvT hZ (w_2 hw)) (mvT hZ (w_3 hw)) (by decide) (backOf (W := 0) (rm1 l Z a0 hw [] arg3 T3.heap n0 z4 ) hZ (w_3 hw) (w_2 hw) (by decide) (by decide)) (g := (mkF m 18 #[.val (.int arg0), .val (.int arg1), .val (.int arg2), .val (.int arg3), .val (.int (0 : Int32)), .val (.int z_1), .val (.int z_3), .unset, .unset, .unset] [(.int arg3)])) rfl (by rw [hml]; rfl) (argsL := [(.int arg3)]) (rest := []) (lenOf own_pd2 rfl) rfl (by show 2 * 0 + _ ≤ _; exact Nat.le_of_eq rfl) (hb hby at_18) (fun _ _ => ⟨rfl, rfl, (by decide : 2 + 1 ≤ _), (by decide : 20 + 10 ≤ _)⟩)
    dsimp only [Pt.U, Pt.locs, Pt.cells, Pt.slots] at X5 l5 y5_ z5_ st5 hQ5
    subst l5 y5_ z5_
    obtain ⟨z_5, rfl, N5q, K5, r5_0⟩ := hQ5
    have N5 := Fr.app N3 N5q
    have z6 : n0 ≤ T5.heap.size := Nat.le_trans z4 K5.1
    refine own_st (B := T5.setTop (mkF m 21 #[.val (.int arg0), .val (.int arg1), .val (.int arg2), .val (.int arg3), .val (.int (0 : Int32)), .val (.int z_1), .val (.int z_3), .unset, .unset, .unset] [(.int z_5)])) (fun t k => st5 t k) ?_
    refine own_st (B := T5.setTop (mkF m 23 #[.val (.int arg0), .val (.int arg1), .val (.int arg2), .val (.int arg3), .val (.int (0 : Int32)), .val (.int z_1), .val (.int z_3), .val (.int z_5), .unset, .unset] [])) (fun t k => XS.istore X5.here hx rfl (hb hby at_21) rfl (l' := #[.val (.int arg0), .val (.int arg1), .val (.int arg2), .val (.int arg3), .val (.int (0 : Int32)), .val (.int z_1), .val (.int z_3), .val (.int z_5), .unset, .unset]) rfl k) ?_
    refine own_st (B := T5.setTop (mkF m 25 #[.val (.int arg0), .val (.int arg1), .val (.int arg2), .val (.int arg3), .val (.int (0 : Int32)), .val (.int z_1), .val (.int z_3), .val (.int z_5), .unset, .unset] [(.int (0 : Int32))])) (fun t k => XS.iload X5.here hx rfl (hb hby at_23) rfl k) ?_
    obtain ⟨T7, h7, X7, e7, E7, A7, x7, st7⟩ := own_newP X5 hx hZ (aty := .byte) (w_4 hw) rfl (g := (mkF m 25 #[.val (.int arg0), .val (.int arg1), .val (.int arg2), .val (.int arg3), .val (.int (0 : Int32)), .val (.int z_1), .val (.int z_3), .val (.int z_5), .unset, .unset] [(.int (0 : Int32))])) rfl (hb hby at_25) (n := (0 : Int32)) (rest := []) rfl (k := 0) (cap := 0) (by decide) (Nat.le_refl _) (by decide) (by decide) (by decide) (ad := "[B") rfl
    obtain ⟨b7, g7⟩ : ∃ z, z = T5.heap.size := ⟨_, rfl⟩
    rw [← g7] at A7 x7 st7
    have u7 : n0 ≤ b7 := Nat.le_trans z6 (Nat.le_of_eq g7.symm)
    have z8 : n0 ≤ h7.size := Nat.le_trans z6 E7.1
    have f7_ : own_A Z h7 b7 .byte [] := A7
    refine own_st (B := T7.setTop (mkF m 27 #[.val (.int arg0), .val (.int arg1), .val (.int arg2), .val (.int arg3), .val (.int (0 : Int32)), .val (.int z_1), .val (.int z_3), .val (.int z_5), .unset, .unset] [(.ref b7)])) (fun t k => st7 t k) ?_
    refine own_st (B := T7.setTop (mkF m 29 #[.val (.int arg0), .val (.int arg1), .val (.int arg2), .val (.int arg3), .val (.int (0 : Int32)), .val (.int z_1), .val (.int z_3), .val (.int z_5), .val (.ref b7), .unset] [])) (fun t k => XS.astore X7.here hx rfl (hb hby at_27) rfl rfl (l' := #[.val (.int arg0), .val (.int arg1), .val (.int arg2), .val (.int arg3), .val (.int (0 : Int32)), .val (.int z_1), .val (.int z_3), .val (.int z_5), .val (.ref b7), .unset]) rfl k) ?_
    refine own_st (B := T7.setTop (mkF m 31 #[.val (.int arg0), .val (.int arg1), .val (.int arg2), .val (.int arg3), .val (.int (0 : Int32)), .val (.int z_1), .val (.int z_3), .val (.int z_5), .val (.ref b7), .unset] [(.int (0 : Int32))])) (fun t k => XS.iload X7.here hx rfl (hb hby at_29) rfl k) ?_
    refine own_st (B := T7.setTop (mkF m 40 #[.val (.int arg0), .val (.int arg1), .val (.int arg2), .val (.int arg3), .val (.int (0 : Int32)), .val (.int z_1), .val (.int z_3), .val (.int z_5), .val (.ref b7), .unset] [])) (fun t k => XS.ifYes X7.here hx rfl (pc0 := 31) (pc' := 40) rfl (hb hby at_31) rfl (by decide) (by decide) (by decide) k) ?_
    refine own_st (B := T7.setTop (mkF m 42 #[.val (.int arg0), .val (.int arg1), .val (.int arg2), .val (.int arg3), .val (.int (0 : Int32)), .val (.int z_1), .val (.int z_3), .val (.int z_5), .val (.ref b7), .unset] [(.int (0 : Int32))])) (fun t k => XS.iload X7.here hx rfl (hb hby at_40) rfl k) ?_
    refine own_st (B := T7.setTop (mkF m 43 #[.val (.int arg0), .val (.int arg1), .val (.int arg2), .val (.int arg3), .val (.int (0 : Int32)), .val (.int z_1), .val (.int z_3), .val (.int z_5), .val (.ref b7), .unset] [(.int (1 : Int32)), (.int (0 : Int32))])) (fun t k => XS.iconst X7.here hx rfl (hb hby at_42) k) ?_
    refine own_st (B := T7.setTop (mkF m 52 #[.val (.int arg0), .val (.int arg1), .val (.int arg2), .val (.int arg3), .val (.int (0 : Int32)), .val (.int z_1), .val (.int z_3), .val (.int z_5), .val (.ref b7), .unset] [])) (fun t k => XS.icmpYes X7.here hx rfl (pc0 := 43) (pc' := 52) rfl (hb hby at_43) rfl (by decide) (by decide) (by decide) k) ?_
    refine own_st (B := T7.setTop (mkF m 54 #[.val (.int arg0), .val (.int arg1), .val (.int arg2), .val (.int arg3), .val (.int (0 : Int32)), .val (.int z_1), .val (.int z_3), .val (.int z_5), .val (.ref b7), .unset] [(.int (0 : Int32))])) (fun t k => XS.iload X7.here hx rfl (hb hby at_52) rfl k) ?_
    refine own_st (B := T7.setTop (mkF m 55 #[.val (.int arg0), .val (.int arg1), .val (.int arg2), .val (.int arg3), .val (.int (0 : Int32)), .val (.int z_1), .val (.int z_3), .val (.int z_5), .val (.ref b7), .unset] [(.int (2 : Int32)), (.int (0 : Int32))])) (fun t k => XS.iconst X7.here hx rfl (hb hby at_54) k) ?_
    refine own_st (B := T7.setTop (mkF m 64 #[.val (.int arg0), .val (.int arg1), .val (.int arg2), .val (.int arg3), .val (.int (0 : Int32)), .val (.int z_1), .val (.int z_3), .val (.int z_5), .val (.ref b7), .unset] [])) (fun t k => XS.icmpYes X7.here hx rfl (pc0 := 55) (pc' := 64) rfl (hb hby at_55) rfl (by decide) (by decide) (by decide) k) ?_
    refine own_st (B := T7.setTop (mkF m 65 #[.val (.int arg0), .val (.int arg1), .val (.int arg2), .val (.int arg3), .val (.int (0 : Int32)), .val (.int z_1), .val (.int z_3), .val (.int z_5), .val (.ref b7), .unset] [(.int (-1 : Int32))])) (fun t k => XS.iconst X7.here hx rfl (hb hby at_64) k) ?_
    refine own_st (B := T7.setTop (mkF m 67 #[.val (.int arg0), .val (.int arg1), .val (.int arg2), .val (.int arg3), .val (.int (0 : Int32)), .val (.int z_1), .val (.int z_3), .val (.int z_5), .val (.ref b7), .val (.int (-1 : Int32))] [])) (fun t k => XS.istore X7.here hx rfl (hb hby at_65) rfl (l' := #[.val (.int arg0), .val (.int arg1), .val (.int arg2), .val (.int arg3), .val (.int (0 : Int32)), .val (.int z_1), .val (.int z_3), .val (.int z_5), .val (.ref b7), .val (.int (-1 : Int32))]) rfl k) ?_
    refine own_st (B := T7.setTop (mkF m 69 #[.val (.int arg0), .val (.int arg1), .val (.int arg2), .val (.int arg3), .val (.int (0 : Int32)), .val (.int z_1), .val (.int z_3), .val (.int z_5), .val (.ref b7), .val (.int (-1 : Int32))] [(.int (0 : Int32))])) (fun t k => XS.iload X7.here hx rfl (hb hby at_67) rfl k) ?_
    refine own_st (B := T7.setTop (mkF m 70 #[.val (.int arg0), .val (.int arg1), .val (.int arg2), .val (.int arg3), .val (.int (0 : Int32)), .val (.int z_1), .val (.int z_3), .val (.int z_5), .val (.ref b7), .val (.int (-1 : Int32))] [(.int (2 : Int32)), (.int (0 : Int32))])) (fun t k => XS.iconst X7.here hx rfl (hb hby at_69) k) ?_
    refine own_st (B := T7.setTop (mkF m 89 #[.val (.int arg0), .val (.int arg1), .val (.int arg2), .val (.int arg3), .val (.int (0 : Int32)), .val (.int z_1), .val (.int z_3), .val (.int z_5), .val (.ref b7), .val (.int (-1 : Int32))] [])) (fun t k => XS.icmpYes X7.here hx rfl (pc0 := 70) (pc' := 89) rfl (hb hby at_70) rfl (by decide) (by decide) (by decide) k) ?_
    refine own_st (B := T7.setTop (mkF m 91 #[.val (.int arg0), .val (.int arg1), .val (.int arg2), .val (.int arg3), .val (.int (0 : Int32)), .val (.int z_1), .val (.int z_3), .val (.int z_5), .val (.ref b7), .val (.int (-1 : Int32))] [(.int (0 : Int32))])) (fun t k => XS.iload X7.here hx rfl (hb hby at_89) rfl k) ?_
    refine own_st (B := T7.setTop (mkF m 92 #[.val (.int arg0), .val (.int arg1), .val (.int arg2), .val (.int arg3), .val (.int (0 : Int32)), .val (.int z_1), .val (.int z_3), .val (.int z_5), .val (.ref b7), .val (.int (-1 : Int32))] [(.int (1 : Int32)), (.int (0 : Int32))])) (fun t k => XS.iconst X7.here hx rfl (hb hby at_91) k) ?_
    refine own_st (B := T7.setTop (mkF m 111 #[.val (.int arg0), .val (.int arg1), .val (.int arg2), .val (.int arg3), .val (.int (0 : Int32)), .val (.int z_1), .val (.int z_3), .val (.int z_5), .val (.ref b7), .val (.int (-1 : Int32))] [])) (fun t k => XS.icmpYes X7.here hx rfl (pc0 := 92) (pc' := 111) rfl (hb hby at_92) rfl (by decide) (by decide) (by decide) k) ?_
    refine own_st (B := T7.setTop (mkF m 113 #[.val (.int arg0), .val (.int arg1), .val (.int arg2), .val (.int arg3), .val (.int (0 : Int32)), .val (.int z_1), .val (.int z_3), .val (.int z_5), .val (.ref b7), .val (.int (-1 : Int32))] [(.int (0 : Int32))])) (fun t k => XS.iload X7.here hx rfl (hb hby at_111) rfl k) ?_
    refine own_st (B := T7.setTop (mkF m 132 #[.val (.int arg0), .val (.int arg1), .val (.int arg2), .val (.int arg3), .val (.int (0 : Int32)), .val (.int z_1), .val (.int z_3), .val (.int z_5), .val (.ref b7), .val (.int (-1 : Int32))] [])) (fun t k => XS.ifYes X7.here hx rfl (pc0 := 113) (pc' := 132) rfl (hb hby at_113) rfl (by decide) (by decide) (by decide) k) ?_
    refine own_st (B := T7.setTop (mkF m 134 #[.val (.int arg0), .val (.int arg1), .val (.int arg2), .val (.int arg3), .val (.int (0 : Int32)), .val (.int z_1), .val (.int z_3), .val (.int z_5), .val (.ref b7), .val (.int (-1 : Int32))] [(.ref b7)])) (fun t k => XS.aload X7.here hx rfl (hb hby at_132) rfl rfl k) ?_
    obtain ⟨_, _, ⟨T9, L9, k9, j9⟩, -, X9, ⟨Lc9, hQ9, l9, y9_, z9_⟩, st9⟩ := Jvm.LawKit.callS X7 hx (y := (⟨"com/example/crossplan/crossplan/client/ClientText", "firstCharacter", "([B)I"⟩ : MethodName)) hown (mvT hZ (w_6 hw)) (mvT hZ (w_7 hw)) (mvT hZ (w_8 hw)) (mvT hZ (w_9 hw)) (by decide) (backOf (W := 0) (rm2 l Z a0 hw [] b7 ([] : List Int32) h7 n0 z8 f7_ (show 0 < 1000 from by decide)) hZ (w_9 hw) (w_8 hw) (by decide) (by decide)) (g := (mkF m 134 #[.val (.int arg0), .val (.int arg1), .val (.int arg2), .val (.int arg3), .val (.int (0 : Int32)), .val (.int z_1), .val (.int z_3), .val (.int z_5), .val (.ref b7), .val (.int (-1 : Int32))] [(.ref b7)])) rfl (by rw [hml]; rfl) (argsL := [(.ref b7)]) (rest := []) (lenOf own_pd3 rfl) rfl (by show 2 * 0 + _ ≤ _; exact Nat.le_of_eq rfl) (hb hby at_134) (fun _ _ => ⟨rfl, e7, (by decide : 4 + 0 ≤ _), (by decide : 30 + 0 ≤ _)⟩)
    dsimp only [Pt.U, Pt.locs, Pt.cells, Pt.slots] at X9 l9 y9_ z9_ st9 hQ9
    subst l9 y9_ z9_
    obtain ⟨rfl, N9q, e9q⟩ := hQ9
    have N9 := Fr.app N5 N9q
    refine own_st (B := T9.setTop (mkF m 137 #[.val (.int arg0), .val (.int arg1), .val (.int arg2), .val (.int arg3), .val (.int (0 : Int32)), .val (.int z_1), .val (.int z_3), .val (.int z_5), .val (.ref b7), .val (.int (-1 : Int32))] [(.int (own_first ([] : List Int32)))])) (fun t k => st9 t k) ?_
    refine own_st (B := T9.setTop (mkF m 139 #[.val (.int arg0), .val (.int arg1), .val (.int arg2), .val (.int arg3), .val (.int (0 : Int32)), .val (.int z_1), .val (.int z_3), .val (.int z_5), .val (.ref b7), .val (.int (-1 : Int32))] [(.int (-1 : Int32)), (.int (own_first ([] : List Int32)))])) (fun t k => XS.iload X9.here hx rfl (hb hby at_137) rfl k) ?_
    have hc10 : (own_first ([] : List Int32)) = (-1 : Int32) := by
      exact rfl
    refine own_st (B := T9.setTop (mkF m 142 #[.val (.int arg0), .val (.int arg1), .val (.int arg2), .val (.int arg3), .val (.int (0 : Int32)), .val (.int z_1), .val (.int z_3), .val (.int z_5), .val (.ref b7), .val (.int (-1 : Int32))] [])) (fun t k => XS.icmpNo X9.here hx rfl (hb hby at_139) rfl (XT.ii_ne_f hc10) k) ?_
    refine own_st (B := T9.setTop (mkF m 143 #[.val (.int arg0), .val (.int arg1), .val (.int arg2), .val (.int arg3), .val (.int (0 : Int32)), .val (.int z_1), .val (.int z_3), .val (.int z_5), .val (.ref b7), .val (.int (-1 : Int32))] [(.int (1 : Int32))])) (fun t k => XS.iconst X9.here hx rfl (hb hby at_142) k) ?_
    refine own_st (B := T9.setTop (mkF m 147 #[.val (.int arg0), .val (.int arg1), .val (.int arg2), .val (.int arg3), .val (.int (0 : Int32)), .val (.int z_1), .val (.int z_3), .val (.int z_5), .val (.ref b7), .val (.int (-1 : Int32))] [(.int (1 : Int32))])) (fun t k => XS.goto X9.here hx rfl (pc0 := 143) (pc' := 147) rfl (hb hby at_143) (by decide) (by decide) k) ?_
    refine own_retN X9 hx hlk (t := .boolean) Bd.returns (by simp) (z' := (1 : Int32)) rfl (hb hby at_147) (by decide) (by decide) ?_
    show Q0 Z arg0 arg1 arg2 arg3 h0 n0 _ T9.heap _
    rw [e9q]
    exact ⟨rfl, N9⟩
  · rw [hn]
    refine own_st (B := s₁.setTop (mkF m 5 #[.val (.int arg0), .val (.int arg1), .val (.int arg2), .val (.int arg3), .val (.int (1 : Int32)), .unset, .unset, .unset, .unset, .unset] [])) (fun t k => XS.istore X0.here hx rfl (hb hby at_3) rfl (l' := #[.val (.int arg0), .val (.int arg1), .val (.int arg2), .val (.int arg3), .val (.int (1 : Int32)), .unset, .unset, .unset, .unset, .unset]) rfl k) ?_
    refine own_st (B := s₁.setTop (mkF m 6 #[.val (.int arg0), .val (.int arg1), .val (.int arg2), .val (.int arg3), .val (.int (1 : Int32)), .unset, .unset, .unset, .unset, .unset] [(.int arg1)])) (fun t k => XS.iloadN X0.here hx rfl (hb hby at_5) rfl k) ?_
    obtain ⟨_, _, ⟨T11, L11, k11, j11⟩, -, X11, ⟨Lc11, hQ11, l11, y11_, z11_⟩, st11⟩ := Jvm.LawKit.callS X0 hx (y := (⟨"com/example/crossplan/crossplan/client/ClientTextFirstCharacterPinLaw", "draw", "(I)B"⟩ : MethodName)) hown (mvT hZ (w_0 hw)) (mvT hZ (w_1 hw)) (mvT hZ (w_2 hw)) (mvT hZ (w_3 hw)) (by decide) (backOf (W := 0) (rm1 l Z a0 hw [] arg1 h0 n0 Z0 ) hZ (w_3 hw) (w_2 hw) (by decide) (by decide)) (g := (mkF m 6 #[.val (.int arg0), .val (.int arg1), .val (.int arg2), .val (.int arg3), .val (.int (1 : Int32)), .unset, .unset, .unset, .unset, .unset] [(.int arg1)])) rfl (by rw [hml]; rfl) (argsL := [(.int arg1)]) (rest := []) (lenOf own_pd2 rfl) rfl (by show 2 * 0 + _ ≤ _; exact Nat.le_of_eq rfl) (hb hby at_6) (fun _ _ => ⟨rfl, e0, (by decide : 0 + 1 ≤ _), (by decide : 0 + 10 ≤ _)⟩)
    dsimp only [Pt.U, Pt.locs, Pt.cells, Pt.slots] at X11 l11 y11_ z11_ st11 hQ11
    subst l11 y11_ z11_
    obtain ⟨z_11, rfl, N11q, K11, r11_0⟩ := hQ11
    have N11 := Fr.app N0 N11q
    have z12 : n0 ≤ T11.heap.size := Nat.le_trans Z0 K11.1
    refine own_st (B := T11.setTop (mkF m 9 #[.val (.int arg0), .val (.int arg1), .val (.int arg2), .val (.int arg3), .val (.int (1 : Int32)), .unset, .unset, .unset, .unset, .unset] [(.int z_11)])) (fun t k => st11 t k) ?_
    refine own_st (B := T11.setTop (mkF m 11 #[.val (.int arg0), .val (.int arg1), .val (.int arg2), .val (.int arg3), .val (.int (1 : Int32)), .val (.int z_11), .unset, .unset, .unset, .unset] [])) (fun t k => XS.istore X11.here hx rfl (hb hby at_9) rfl (l' := #[.val (.int arg0), .val (.int arg1), .val (.int arg2), .val (.int arg3), .val (.int (1 : Int32)), .val (.int z_11), .unset, .unset, .unset, .unset]) rfl k) ?_
    refine own_st (B := T11.setTop (mkF m 12 #[.val (.int arg0), .val (.int arg1), .val (.int arg2), .val (.int arg3), .val (.int (1 : Int32)), .val (.int z_11), .unset, .unset, .unset, .unset] [(.int arg2)])) (fun t k => XS.iloadN X11.here hx rfl (hb hby at_11) rfl k) ?_
    obtain ⟨_, _, ⟨T13, L13, k13, j13⟩, -, X13, ⟨Lc13, hQ13, l13, y13_, z13_⟩, st13⟩ := Jvm.LawKit.callS X11 hx (y := (⟨"com/example/crossplan/crossplan/client/ClientTextFirstCharacterPinLaw", "draw", "(I)B"⟩ : MethodName)) hown (mvT hZ (w_0 hw)) (mvT hZ (w_1 hw)) (mvT hZ (w_2 hw)) (mvT hZ (w_3 hw)) (by decide) (backOf (W := 0) (rm1 l Z a0 hw [] arg2 T11.heap n0 z12 ) hZ (w_3 hw) (w_2 hw) (by decide) (by decide)) (g := (mkF m 12 #[.val (.int arg0), .val (.int arg1), .val (.int arg2), .val (.int arg3), .val (.int (1 : Int32)), .val (.int z_11), .unset, .unset, .unset, .unset] [(.int arg2)])) rfl (by rw [hml]; rfl) (argsL := [(.int arg2)]) (rest := []) (lenOf own_pd2 rfl) rfl (by show 2 * 0 + _ ≤ _; exact Nat.le_of_eq rfl) (hb hby at_12) (fun _ _ => ⟨rfl, rfl, (by decide : 1 + 1 ≤ _), (by decide : 10 + 10 ≤ _)⟩)
    dsimp only [Pt.U, Pt.locs, Pt.cells, Pt.slots] at X13 l13 y13_ z13_ st13 hQ13
    subst l13 y13_ z13_
    obtain ⟨z_13, rfl, N13q, K13, r13_0⟩ := hQ13
    have N13 := Fr.app N11 N13q
    have z14 : n0 ≤ T13.heap.size := Nat.le_trans z12 K13.1
    refine own_st (B := T13.setTop (mkF m 15 #[.val (.int arg0), .val (.int arg1), .val (.int arg2), .val (.int arg3), .val (.int (1 : Int32)), .val (.int z_11), .unset, .unset, .unset, .unset] [(.int z_13)])) (fun t k => st13 t k) ?_
    refine own_st (B := T13.setTop (mkF m 17 #[.val (.int arg0), .val (.int arg1), .val (.int arg2), .val (.int arg3), .val (.int (1 : Int32)), .val (.int z_11), .val (.int z_13), .unset, .unset, .unset] [])) (fun t k => XS.istore X13.here hx rfl (hb hby at_15) rfl (l' := #[.val (.int arg0), .val (.int arg1), .val (.int arg2), .val (.int arg3), .val (.int (1 : Int32)), .val (.int z_11), .val (.int z_13), .unset, .unset, .unset]) rfl k) ?_
    refine own_st (B := T13.setTop (mkF m 18 #[.val (.int arg0), .val (.int arg1), .val (.int arg2), .val (.int arg3), .val (.int (1 : Int32)), .val (.int z_11), .val (.int z_13), .unset, .unset, .unset] [(.int arg3)])) (fun t k => XS.iloadN X13.here hx rfl (hb hby at_17) rfl k) ?_
    obtain ⟨_, _, ⟨T15, L15, k15, j15⟩, -, X15, ⟨Lc15, hQ15, l15, y15_, z15_⟩, st15⟩ := Jvm.LawKit.callS X13 hx (y := (⟨"com/example/crossplan/crossplan/client/ClientTextFirstCharacterPinLaw", "draw", "(I)B"⟩ : MethodName)) hown (mvT hZ (w_0 hw)) (mvT hZ (w_1 hw)) (mvT hZ (w_2 hw)) (mvT hZ (w_3 hw)) (by decide) (backOf (W := 0) (rm1 l Z a0 hw [] arg3 T13.heap n0 z14 ) hZ (w_3 hw) (w_2 hw) (by decide) (by decide)) (g := (mkF m 18 #[.val (.int arg0), .val (.int arg1), .val (.int arg2), .val (.int arg3), .val (.int (1 : Int32)), .val (.int z_11), .val (.int z_13), .unset, .unset, .unset] [(.int arg3)])) rfl (by rw [hml]; rfl) (argsL := [(.int arg3)]) (rest := []) (lenOf own_pd2 rfl) rfl (by show 2 * 0 + _ ≤ _; exact Nat.le_of_eq rfl) (hb hby at_18) (fun _ _ => ⟨rfl, rfl, (by decide : 2 + 1 ≤ _), (by decide : 20 + 10 ≤ _)⟩)
    dsimp only [Pt.U, Pt.locs, Pt.cells, Pt.slots] at X15 l15 y15_ z15_ st15 hQ15
    subst l15 y15_ z15_
    obtain ⟨z_15, rfl, N15q, K15, r15_0⟩ := hQ15
    have N15 := Fr.app N13 N15q
    have z16 : n0 ≤ T15.heap.size := Nat.le_trans z14 K15.1
    refine own_st (B := T15.setTop (mkF m 21 #[.val (.int arg0), .val (.int arg1), .val (.int arg2), .val (.int arg3), .val (.int (1 : Int32)), .val (.int z_11), .val (.int z_13), .unset, .unset, .unset] [(.int z_15)])) (fun t k => st15 t k) ?_
    refine own_st (B := T15.setTop (mkF m 23 #[.val (.int arg0), .val (.int arg1), .val (.int arg2), .val (.int arg3), .val (.int (1 : Int32)), .val (.int z_11), .val (.int z_13), .val (.int z_15), .unset, .unset] [])) (fun t k => XS.istore X15.here hx rfl (hb hby at_21) rfl (l' := #[.val (.int arg0), .val (.int arg1), .val (.int arg2), .val (.int arg3), .val (.int (1 : Int32)), .val (.int z_11), .val (.int z_13), .val (.int z_15), .unset, .unset]) rfl k) ?_
    refine own_st (B := T15.setTop (mkF m 25 #[.val (.int arg0), .val (.int arg1), .val (.int arg2), .val (.int arg3), .val (.int (1 : Int32)), .val (.int z_11), .val (.int z_13), .val (.int z_15), .unset, .unset] [(.int (1 : Int32))])) (fun t k => XS.iload X15.here hx rfl (hb hby at_23) rfl k) ?_
    obtain ⟨T17, h17, X17, e17, E17, A17, x17, st17⟩ := own_newP X15 hx hZ (aty := .byte) (w_4 hw) rfl (g := (mkF m 25 #[.val (.int arg0), .val (.int arg1), .val (.int arg2), .val (.int arg3), .val (.int (1 : Int32)), .val (.int z_11), .val (.int z_13), .val (.int z_15), .unset, .unset] [(.int (1 : Int32))])) rfl (hb hby at_25) (n := (1 : Int32)) (rest := []) rfl (k := 1) (cap := 1) (by decide) (Nat.le_refl _) (by decide) (by decide) (by decide) (ad := "[B") rfl
    obtain ⟨b17, g17⟩ : ∃ z, z = T15.heap.size := ⟨_, rfl⟩
    rw [← g17] at A17 x17 st17
    have u17 : n0 ≤ b17 := Nat.le_trans z16 (Nat.le_of_eq g17.symm)
    have z18 : n0 ≤ h17.size := Nat.le_trans z16 E17.1
    have f17_ : own_A Z h17 b17 .byte [(.int (0 : Int32))] := A17
    refine own_st (B := T17.setTop (mkF m 27 #[.val (.int arg0), .val (.int arg1), .val (.int arg2), .val (.int arg3), .val (.int (1 : Int32)), .val (.int z_11), .val (.int z_13), .val (.int z_15), .unset, .unset] [(.ref b17)])) (fun t k => st17 t k) ?_
    refine own_st (B := T17.setTop (mkF m 29 #[.val (.int arg0), .val (.int arg1), .val (.int arg2), .val (.int arg3), .val (.int (1 : Int32)), .val (.int z_11), .val (.int z_13), .val (.int z_15), .val (.ref b17), .unset] [])) (fun t k => XS.astore X17.here hx rfl (hb hby at_27) rfl rfl (l' := #[.val (.int arg0), .val (.int arg1), .val (.int arg2), .val (.int arg3), .val (.int (1 : Int32)), .val (.int z_11), .val (.int z_13), .val (.int z_15), .val (.ref b17), .unset]) rfl k) ?_
    refine own_st (B := T17.setTop (mkF m 31 #[.val (.int arg0), .val (.int arg1), .val (.int arg2), .val (.int arg3), .val (.int (1 : Int32)), .val (.int z_11), .val (.int z_13), .val (.int z_15), .val (.ref b17), .unset] [(.int (1 : Int32))])) (fun t k => XS.iload X17.here hx rfl (hb hby at_29) rfl k) ?_
    refine own_st (B := T17.setTop (mkF m 34 #[.val (.int arg0), .val (.int arg1), .val (.int arg2), .val (.int arg3), .val (.int (1 : Int32)), .val (.int z_11), .val (.int z_13), .val (.int z_15), .val (.ref b17), .unset] [])) (fun t k => XS.ifNo X17.here hx rfl (hb hby at_31) rfl (by decide) k) ?_
    refine own_st (B := T17.setTop (mkF m 36 #[.val (.int arg0), .val (.int arg1), .val (.int arg2), .val (.int arg3), .val (.int (1 : Int32)), .val (.int z_11), .val (.int z_13), .val (.int z_15), .val (.ref b17), .unset] [(.ref b17)])) (fun t k => XS.aload X17.here hx rfl (hb hby at_34) rfl rfl k) ?_
    refine own_st (B := T17.setTop (mkF m 37 #[.val (.int arg0), .val (.int arg1), .val (.int arg2), .val (.int arg3), .val (.int (1 : Int32)), .val (.int z_11), .val (.int z_13), .val (.int z_15), .val (.ref b17), .unset] [(.int (0 : Int32)), (.ref b17)])) (fun t k => XS.iconst X17.here hx rfl (hb hby at_36) k) ?_
    refine own_st (B := T17.setTop (mkF m 39 #[.val (.int arg0), .val (.int arg1), .val (.int arg2), .val (.int arg3), .val (.int (1 : Int32)), .val (.int z_11), .val (.int z_13), .val (.int z_15), .val (.ref b17), .unset] [(.int z_11), (.int (0 : Int32)), (.ref b17)])) (fun t k => XS.iload X17.here hx rfl (hb hby at_37) rfl k) ?_
    obtain ⟨T19, h19, X19, e19, W19, A19, st19⟩ := own_stB X17 hx hZ e17 f17_ (j := (0 : Int32)) (x := z_11) (i := 0) (by decide) (show 0 < 1 from by decide) (g := (mkF m 39 #[.val (.int arg0), .val (.int arg1), .val (.int arg2), .val (.int arg3), .val (.int (1 : Int32)), .val (.int z_11), .val (.int z_13), .val (.int z_15), .val (.ref b17), .unset] [(.int z_11), (.int (0 : Int32)), (.ref b17)])) rfl rfl (hb hby at_39)
    have f19_ : own_A Z h19 b17 .byte [(.int (z_11.toInt8.toInt32))] := A19
    have z20 : n0 ≤ h19.size := Nat.le_trans z18 (Keep.of_wr W19).1
    have n21 := Fr.snoc X19 N15 u17
    refine own_st (B := T19.setTop (mkF m 40 #[.val (.int arg0), .val (.int arg1), .val (.int arg2), .val (.int arg3), .val (.int (1 : Int32)), .val (.int z_11), .val (.int z_13), .val (.int z_15), .val (.ref b17), .unset] [])) (fun t k => st19 t k) ?_
    refine own_st (B := T19.setTop (mkF m 42 #[.val (.int arg0), .val (.int arg1), .val (.int arg2), .val (.int arg3), .val (.int (1 : Int32)), .val (.int z_11), .val (.int z_13), .val (.int z_15), .val (.ref b17), .unset] [(.int (1 : Int32))])) (fun t k => XS.iload X19.here hx rfl (hb hby at_40) rfl k) ?_
    refine own_st (B := T19.setTop (mkF m 43 #[.val (.int arg0), .val (.int arg1), .val (.int arg2), .val (.int arg3), .val (.int (1 : Int32)), .val (.int z_11), .val (.int z_13), .val (.int z_15), .val (.ref b17), .unset] [(.int (1 : Int32)), (.int (1 : Int32))])) (fun t k => XS.iconst X19.here hx rfl (hb hby at_42) k) ?_
    refine own_st (B := T19.setTop (mkF m 52 #[.val (.int arg0), .val (.int arg1), .val (.int arg2), .val (.int arg3), .val (.int (1 : Int32)), .val (.int z_11), .val (.int z_13), .val (.int z_15), .val (.ref b17), .unset] [])) (fun t k => XS.icmpYes X19.here hx rfl (pc0 := 43) (pc' := 52) rfl (hb hby at_43) rfl (by decide) (by decide) (by decide) k) ?_
    refine own_st (B := T19.setTop (mkF m 54 #[.val (.int arg0), .val (.int arg1), .val (.int arg2), .val (.int arg3), .val (.int (1 : Int32)), .val (.int z_11), .val (.int z_13), .val (.int z_15), .val (.ref b17), .unset] [(.int (1 : Int32))])) (fun t k => XS.iload X19.here hx rfl (hb hby at_52) rfl k) ?_
    refine own_st (B := T19.setTop (mkF m 55 #[.val (.int arg0), .val (.int arg1), .val (.int arg2), .val (.int arg3), .val (.int (1 : Int32)), .val (.int z_11), .val (.int z_13), .val (.int z_15), .val (.ref b17), .unset] [(.int (2 : Int32)), (.int (1 : Int32))])) (fun t k => XS.iconst X19.here hx rfl (hb hby at_54) k) ?_
    refine own_st (B := T19.setTop (mkF m 64 #[.val (.int arg0), .val (.int arg1), .val (.int arg2), .val (.int arg3), .val (.int (1 : Int32)), .val (.int z_11), .val (.int z_13), .val (.int z_15), .val (.ref b17), .unset] [])) (fun t k => XS.icmpYes X19.here hx rfl (pc0 := 55) (pc' := 64) rfl (hb hby at_55) rfl (by decide) (by decide) (by decide) k) ?_
    refine own_st (B := T19.setTop (mkF m 65 #[.val (.int arg0), .val (.int arg1), .val (.int arg2), .val (.int arg3), .val (.int (1 : Int32)), .val (.int z_11), .val (.int z_13), .val (.int z_15), .val (.ref b17), .unset] [(.int (-1 : Int32))])) (fun t k => XS.iconst X19.here hx rfl (hb hby at_64) k) ?_
    refine own_st (B := T19.setTop (mkF m 67 #[.val (.int arg0), .val (.int arg1), .val (.int arg2), .val (.int arg3), .val (.int (1 : Int32)), .val (.int z_11), .val (.int z_13), .val (.int z_15), .val (.ref b17), .val (.int (-1 : Int32))] [])) (fun t k => XS.istore X19.here hx rfl (hb hby at_65) rfl (l' := #[.val (.int arg0), .val (.int arg1), .val (.int arg2), .val (.int arg3), .val (.int (1 : Int32)), .val (.int z_11), .val (.int z_13), .val (.int z_15), .val (.ref b17), .val (.int (-1 : Int32))]) rfl k) ?_
    refine own_st (B := T19.setTop (mkF m 69 #[.val (.int arg0), .val (.int arg1), .val (.int arg2), .val (.int arg3), .val (.int (1 : Int32)), .val (.int z_11), .val (.int z_13), .val (.int z_15), .val (.ref b17), .val (.int (-1 : Int32))] [(.int (1 : Int32))])) (fun t k => XS.iload X19.here hx rfl (hb hby at_67) rfl k) ?_
    refine own_st (B := T19.setTop (mkF m 70 #[.val (.int arg0), .val (.int arg1), .val (.int arg2), .val (.int arg3), .val (.int (1 : Int32)), .val (.int z_11), .val (.int z_13), .val (.int z_15), .val (.ref b17), .val (.int (-1 : Int32))] [(.int (2 : Int32)), (.int (1 : Int32))])) (fun t k => XS.iconst X19.here hx rfl (hb hby at_69) k) ?_
    refine own_st (B := T19.setTop (mkF m 89 #[.val (.int arg0), .val (.int arg1), .val (.int arg2), .val (.int arg3), .val (.int (1 : Int32)), .val (.int z_11), .val (.int z_13), .val (.int z_15), .val (.ref b17), .val (.int (-1 : Int32))] [])) (fun t k => XS.icmpYes X19.here hx rfl (pc0 := 70) (pc' := 89) rfl (hb hby at_70) rfl (by decide) (by decide) (by decide) k) ?_
    refine own_st (B := T19.setTop (mkF m 91 #[.val (.int arg0), .val (.int arg1), .val (.int arg2), .val (.int arg3), .val (.int (1 : Int32)), .val (.int z_11), .val (.int z_13), .val (.int z_15), .val (.ref b17), .val (.int (-1 : Int32))] [(.int (1 : Int32))])) (fun t k => XS.iload X19.here hx rfl (hb hby at_89) rfl k) ?_
    refine own_st (B := T19.setTop (mkF m 92 #[.val (.int arg0), .val (.int arg1), .val (.int arg2), .val (.int arg3), .val (.int (1 : Int32)), .val (.int z_11), .val (.int z_13), .val (.int z_15), .val (.ref b17), .val (.int (-1 : Int32))] [(.int (1 : Int32)), (.int (1 : Int32))])) (fun t k => XS.iconst X19.here hx rfl (hb hby at_91) k) ?_
    refine own_st (B := T19.setTop (mkF m 111 #[.val (.int arg0), .val (.int arg1), .val (.int arg2), .val (.int arg3), .val (.int (1 : Int32)), .val (.int z_11), .val (.int z_13), .val (.int z_15), .val (.ref b17), .val (.int (-1 : Int32))] [])) (fun t k => XS.icmpYes X19.here hx rfl (pc0 := 92) (pc' := 111) rfl (hb hby at_92) rfl (by decide) (by decide) (by decide) k) ?_
    refine own_st (B := T19.setTop (mkF m 113 #[.val (.int arg0), .val (.int arg1), .val (.int arg2), .val (.int arg3), .val (.int (1 : Int32)), .val (.int z_11), .val (.int z_13), .val (.int z_15), .val (.ref b17), .val (.int (-1 : Int32))] [(.int (1 : Int32))])) (fun t k => XS.iload X19.here hx rfl (hb hby at_111) rfl k) ?_
    refine own_st (B := T19.setTop (mkF m 116 #[.val (.int arg0), .val (.int arg1), .val (.int arg2), .val (.int arg3), .val (.int (1 : Int32)), .val (.int z_11), .val (.int z_13), .val (.int z_15), .val (.ref b17), .val (.int (-1 : Int32))] [])) (fun t k => XS.ifNo X19.here hx rfl (hb hby at_113) rfl (by decide) k) ?_
    refine own_st (B := T19.setTop (mkF m 118 #[.val (.int arg0), .val (.int arg1), .val (.int arg2), .val (.int arg3), .val (.int (1 : Int32)), .val (.int z_11), .val (.int z_13), .val (.int z_15), .val (.ref b17), .val (.int (-1 : Int32))] [(.int z_11)])) (fun t k => XS.iload X19.here hx rfl (hb hby at_116) rfl k) ?_
    obtain ⟨_, _, ⟨T22, L22, k22, j22⟩, -, X22, ⟨Lc22, hQ22, l22, y22_, z22_⟩, st22⟩ := Jvm.LawKit.callS X19 hx (y := (⟨"com/example/crossplan/crossplan/client/ClientTextFirstCharacterPinLaw", "skipped", "(B)Z"⟩ : MethodName)) hown (mvT hZ (w_10 hw)) (mvT hZ (w_11 hw)) (mvT hZ (w_2 hw)) (mvT hZ (w_12 hw)) (by decide) (backOf (W := 0) (rm3 l Z a0 hw [] z_11 h19 n0 z20 ) hZ (w_12 hw) (w_2 hw) (by decide) (by decide)) (g := (mkF m 118 #[.val (.int arg0), .val (.int arg1), .val (.int arg2), .val (.int arg3), .val (.int (1 : Int32)), .val (.int z_11), .val (.int z_13), .val (.int z_15), .val (.ref b17), .val (.int (-1 : Int32))] [(.int z_11)])) rfl (by rw [hml]; rfl) (argsL := [(.int z_11)]) (rest := []) (lenOf own_pd4 rfl) rfl (by show 2 * 0 + _ ≤ _; exact Nat.le_of_eq rfl) (hb hby at_118) (fun _ _ => ⟨rfl, e19, (by decide : 4 + 0 ≤ _), (by decide : 31 + 0 ≤ _)⟩)
    dsimp only [Pt.U, Pt.locs, Pt.cells, Pt.slots] at X22 l22 y22_ z22_ st22 hQ22
    subst l22 y22_ z22_
    obtain ⟨rfl, N22q, e22q⟩ := hQ22
    have N22 := Fr.app n21 N22q
    refine own_st (B := T22.setTop (mkF m 121 #[.val (.int arg0), .val (.int arg1), .val (.int arg2), .val (.int arg3), .val (.int (1 : Int32)), .val (.int z_11), .val (.int z_13), .val (.int z_15), .val (.ref b17), .val (.int (-1 : Int32))] [(.int (own_f3 z_11))])) (fun t k => st22 t k) ?_
    refine own_cut (P := ∀ (v25 : Int32), (v25 = (if (own_f3 z_11) = (0 : Int32) then (z_11 &&& (255 : Int32)) else (-1 : Int32))) → own_Go p e below s (Q0 Z arg0 arg1 arg2 arg3 h0 n0) 16 192 (T22.setTop (mkF m 132 #[.val (.int arg0), .val (.int arg1), .val (.int arg2), .val (.int arg3), .val (.int (1 : Int32)), .val (.int z_11), .val (.int z_13), .val (.int z_15), .val (.ref b17), .val (.int v25)] []))) (fun J26 => ?_) ?_
    · by_cases hc23 : (own_f3 z_11) = (0 : Int32)
      · refine own_st (B := T22.setTop (mkF m 124 #[.val (.int arg0), .val (.int arg1), .val (.int arg2), .val (.int arg3), .val (.int (1 : Int32)), .val (.int z_11), .val (.int z_13), .val (.int z_15), .val (.ref b17), .val (.int (-1 : Int32))] [])) (fun t k => XS.ifNo X22.here hx rfl (hb hby at_121) rfl (XT.i0_ne_f hc23) k) ?_
        refine own_st (B := T22.setTop (mkF m 126 #[.val (.int arg0), .val (.int arg1), .val (.int arg2), .val (.int arg3), .val (.int (1 : Int32)), .val (.int z_11), .val (.int z_13), .val (.int z_15), .val (.ref b17), .val (.int (-1 : Int32))] [(.int z_11)])) (fun t k => XS.iload X22.here hx rfl (hb hby at_124) rfl k) ?_
        refine own_st (B := T22.setTop (mkF m 129 #[.val (.int arg0), .val (.int arg1), .val (.int arg2), .val (.int arg3), .val (.int (1 : Int32)), .val (.int z_11), .val (.int z_13), .val (.int z_15), .val (.ref b17), .val (.int (-1 : Int32))] [(.int (255 : Int32)), (.int z_11)])) (fun t k => XS.sipush X22.here hx rfl (hb hby at_126) k) ?_
        refine own_st (B := T22.setTop (mkF m 130 #[.val (.int arg0), .val (.int arg1), .val (.int arg2), .val (.int arg3), .val (.int (1 : Int32)), .val (.int z_11), .val (.int z_13), .val (.int z_15), .val (.ref b17), .val (.int (-1 : Int32))] [(.int (z_11 &&& (255 : Int32)))])) (fun t k => XS.iand X22.here hx rfl (hb hby at_129) rfl k) ?_
        obtain ⟨v24, ev24⟩ : ∃ z : Int32, z = (z_11 &&& (255 : Int32)) := ⟨_, rfl⟩
        rw [← ev24]
        refine own_st (B := T22.setTop (mkF m 132 #[.val (.int arg0), .val (.int arg1), .val (.int arg2), .val (.int arg3), .val (.int (1 : Int32)), .val (.int z_11), .val (.int z_13), .val (.int z_15), .val (.ref b17), .val (.int v24)] [])) (fun t k => XS.istore X22.here hx rfl (hb hby at_130) rfl (l' := #[.val (.int arg0), .val (.int arg1), .val (.int arg2), .val (.int arg3), .val (.int (1 : Int32)), .val (.int z_11), .val (.int z_13), .val (.int z_15), .val (.ref b17), .val (.int v24)]) rfl k) ?_
        exact J26 v24 (by subst v24; rw [if_pos hc23])
      · refine own_st (B := T22.setTop (mkF m 132 #[.val (.int arg0), .val (.int arg1), .val (.int arg2), .val (.int arg3), .val (.int (1 : Int32)), .val (.int z_11), .val (.int z_13), .val (.int z_15), .val (.ref b17), .val (.int (-1 : Int32))] [])) (fun t k => XS.ifYes X22.here hx rfl (pc0 := 121) (pc' := 132) rfl (hb hby at_121) rfl (XT.i0_ne_t hc23) (by decide) (by decide) k) ?_
        exact J26 (-1 : Int32) (by rw [if_neg hc23])
    intro v25 hv25
    refine own_st (B := T22.setTop (mkF m 134 #[.val (.int arg0), .val (.int arg1), .val (.int arg2), .val (.int arg3), .val (.int (1 : Int32)), .val (.int z_11), .val (.int z_13), .val (.int z_15), .val (.ref b17), .val (.int v25)] [(.ref b17)])) (fun t k => XS.aload X22.here hx rfl (hb hby at_132) rfl rfl k) ?_
    obtain ⟨_, _, ⟨T27, L27, k27, j27⟩, -, X27, ⟨Lc27, hQ27, l27, y27_, z27_⟩, st27⟩ := Jvm.LawKit.callS X22 hx (y := (⟨"com/example/crossplan/crossplan/client/ClientText", "firstCharacter", "([B)I"⟩ : MethodName)) hown (mvT hZ (w_6 hw)) (mvT hZ (w_7 hw)) (mvT hZ (w_8 hw)) (mvT hZ (w_9 hw)) (by decide) (backOf (W := 0) (rm2 l Z a0 hw [] b17 [(z_11.toInt8.toInt32)] h19 n0 z20 f19_ (show 1 < 1000 from by decide)) hZ (w_9 hw) (w_8 hw) (by decide) (by decide)) (g := (mkF m 134 #[.val (.int arg0), .val (.int arg1), .val (.int arg2), .val (.int arg3), .val (.int (1 : Int32)), .val (.int z_11), .val (.int z_13), .val (.int z_15), .val (.ref b17), .val (.int v25)] [(.ref b17)])) rfl (by rw [hml]; rfl) (argsL := [(.ref b17)]) (rest := []) (lenOf own_pd3 rfl) rfl (by show 2 * 0 + _ ≤ _; exact Nat.le_of_eq rfl) (hb hby at_134) (fun _ _ => ⟨rfl, e22q, (by decide : 4 + 0 ≤ _), (by decide : 31 + 0 ≤ _)⟩)
    dsimp only [Pt.U, Pt.locs, Pt.cells, Pt.slots] at X27 l27 y27_ z27_ st27 hQ27
    subst l27 y27_ z27_
    obtain ⟨rfl, N27q, e27q⟩ := hQ27
    have N27 := Fr.app N22 N27q
    refine own_st (B := T27.setTop (mkF m 137 #[.val (.int arg0), .val (.int arg1), .val (.int arg2), .val (.int arg3), .val (.int (1 : Int32)), .val (.int z_11), .val (.int z_13), .val (.int z_15), .val (.ref b17), .val (.int v25)] [(.int (own_first [(z_11.toInt8.toInt32)]))])) (fun t k => st27 t k) ?_
    refine own_st (B := T27.setTop (mkF m 139 #[.val (.int arg0), .val (.int arg1), .val (.int arg2), .val (.int arg3), .val (.int (1 : Int32)), .val (.int z_11), .val (.int z_13), .val (.int z_15), .val (.ref b17), .val (.int v25)] [(.int v25), (.int (own_first [(z_11.toInt8.toInt32)]))])) (fun t k => XS.iload X27.here hx rfl (hb hby at_137) rfl k) ?_
    have hc28 : (own_first [(z_11.toInt8.toInt32)]) = v25 := by
      exact (own_chain r11_0 rfl hv25)
    refine own_st (B := T27.setTop (mkF m 142 #[.val (.int arg0), .val (.int arg1), .val (.int arg2), .val (.int arg3), .val (.int (1 : Int32)), .val (.int z_11), .val (.int z_13), .val (.int z_15), .val (.ref b17), .val (.int v25)] [])) (fun t k => XS.icmpNo X27.here hx rfl (hb hby at_139) rfl (XT.ii_ne_f hc28) k) ?_
    refine own_st (B := T27.setTop (mkF m 143 #[.val (.int arg0), .val (.int arg1), .val (.int arg2), .val (.int arg3), .val (.int (1 : Int32)), .val (.int z_11), .val (.int z_13), .val (.int z_15), .val (.ref b17), .val (.int v25)] [(.int (1 : Int32))])) (fun t k => XS.iconst X27.here hx rfl (hb hby at_142) k) ?_
    refine own_st (B := T27.setTop (mkF m 147 #[.val (.int arg0), .val (.int arg1), .val (.int arg2), .val (.int arg3), .val (.int (1 : Int32)), .val (.int z_11), .val (.int z_13), .val (.int z_15), .val (.ref b17), .val (.int v25)] [(.int (1 : Int32))])) (fun t k => XS.goto X27.here hx rfl (pc0 := 143) (pc' := 147) rfl (hb hby at_143) (by decide) (by decide) k) ?_
    refine own_retN X27 hx hlk (t := .boolean) Bd.returns (by simp) (z' := (1 : Int32)) rfl (hb hby at_147) (by decide) (by decide) ?_
    show Q0 Z arg0 arg1 arg2 arg3 h0 n0 _ T27.heap _
    rw [e27q]
    exact ⟨rfl, N27⟩
  · rw [hn]
    refine own_st (B := s₁.setTop (mkF m 5 #[.val (.int arg0), .val (.int arg1), .val (.int arg2), .val (.int arg3), .val (.int (2 : Int32)), .unset, .unset, .unset, .unset, .unset] [])) (fun t k => XS.istore X0.here hx rfl (hb hby at_3) rfl (l' := #[.val (.int arg0), .val (.int arg1), .val (.int arg2), .val (.int arg3), .val (.int (2 : Int32)), .unset, .unset, .unset, .unset, .unset]) rfl k) ?_
    refine own_st (B := s₁.setTop (mkF m 6 #[.val (.int arg0), .val (.int arg1), .val (.int arg2), .val (.int arg3), .val (.int (2 : Int32)), .unset, .unset, .unset, .unset, .unset] [(.int arg1)])) (fun t k => XS.iloadN X0.here hx rfl (hb hby at_5) rfl k) ?_
    obtain ⟨_, _, ⟨T29, L29, k29, j29⟩, -, X29, ⟨Lc29, hQ29, l29, y29_, z29_⟩, st29⟩ := Jvm.LawKit.callS X0 hx (y := (⟨"com/example/crossplan/crossplan/client/ClientTextFirstCharacterPinLaw", "draw", "(I)B"⟩ : MethodName)) hown (mvT hZ (w_0 hw)) (mvT hZ (w_1 hw)) (mvT hZ (w_2 hw)) (mvT hZ (w_3 hw)) (by decide) (backOf (W := 0) (rm1 l Z a0 hw [] arg1 h0 n0 Z0 ) hZ (w_3 hw) (w_2 hw) (by decide) (by decide)) (g := (mkF m 6 #[.val (.int arg0), .val (.int arg1), .val (.int arg2), .val (.int arg3), .val (.int (2 : Int32)), .unset, .unset, .unset, .unset, .unset] [(.int arg1)])) rfl (by rw [hml]; rfl) (argsL := [(.int arg1)]) (rest := []) (lenOf own_pd2 rfl) rfl (by show 2 * 0 + _ ≤ _; exact Nat.le_of_eq rfl) (hb hby at_6) (fun _ _ => ⟨rfl, e0, (by decide : 0 + 1 ≤ _), (by decide : 0 + 10 ≤ _)⟩)
    dsimp only [Pt.U, Pt.locs, Pt.cells, Pt.slots] at X29 l29 y29_ z29_ st29 hQ29
    subst l29 y29_ z29_
    obtain ⟨z_29, rfl, N29q, K29, r29_0⟩ := hQ29
    have N29 := Fr.app N0 N29q
    have z30 : n0 ≤ T29.heap.size := Nat.le_trans Z0 K29.1
    refine own_st (B := T29.setTop (mkF m 9 #[.val (.int arg0), .val (.int arg1), .val (.int arg2), .val (.int arg3), .val (.int (2 : Int32)), .unset, .unset, .unset, .unset, .unset] [(.int z_29)])) (fun t k => st29 t k) ?_
    refine own_st (B := T29.setTop (mkF m 11 #[.val (.int arg0), .val (.int arg1), .val (.int arg2), .val (.int arg3), .val (.int (2 : Int32)), .val (.int z_29), .unset, .unset, .unset, .unset] [])) (fun t k => XS.istore X29.here hx rfl (hb hby at_9) rfl (l' := #[.val (.int arg0), .val (.int arg1), .val (.int arg2), .val (.int arg3), .val (.int (2 : Int32)), .val (.int z_29), .unset, .unset, .unset, .unset]) rfl k) ?_
    refine own_st (B := T29.setTop (mkF m 12 #[.val (.int arg0), .val (.int arg1), .val (.int arg2), .val (.int arg3), .val (.int (2 : Int32)), .val (.int z_29), .unset, .unset, .unset, .unset] [(.int arg2)])) (fun t k => XS.iloadN X29.here hx rfl (hb hby at_11) rfl k) ?_
    obtain ⟨_, _, ⟨T31, L31, k31, j31⟩, -, X31, ⟨Lc31, hQ31, l31, y31_, z31_⟩, st31⟩ := Jvm.LawKit.callS X29 hx (y := (⟨"com/example/crossplan/crossplan/client/ClientTextFirstCharacterPinLaw", "draw", "(I)B"⟩ : MethodName)) hown (mvT hZ (w_0 hw)) (mvT hZ (w_1 hw)) (mvT hZ (w_2 hw)) (mvT hZ (w_3 hw)) (by decide) (backOf (W := 0) (rm1 l Z a0 hw [] arg2 T29.heap n0 z30 ) hZ (w_3 hw) (w_2 hw) (by decide) (by decide)) (g := (mkF m 12 #[.val (.int arg0), .val (.int arg1), .val (.int arg2), .val (.int arg3), .val (.int (2 : Int32)), .val (.int z_29), .unset, .unset, .unset, .unset] [(.int arg2)])) rfl (by rw [hml]; rfl) (argsL := [(.int arg2)]) (rest := []) (lenOf own_pd2 rfl) rfl (by show 2 * 0 + _ ≤ _; exact Nat.le_of_eq rfl) (hb hby at_12) (fun _ _ => ⟨rfl, rfl, (by decide : 1 + 1 ≤ _), (by decide : 10 + 10 ≤ _)⟩)
    dsimp only [Pt.U, Pt.locs, Pt.cells, Pt.slots] at X31 l31 y31_ z31_ st31 hQ31
    subst l31 y31_ z31_
    obtain ⟨z_31, rfl, N31q, K31, r31_0⟩ := hQ31
    have N31 := Fr.app N29 N31q
    have z32 : n0 ≤ T31.heap.size := Nat.le_trans z30 K31.1
    refine own_st (B := T31.setTop (mkF m 15 #[.val (.int arg0), .val (.int arg1), .val (.int arg2), .val (.int arg3), .val (.int (2 : Int32)), .val (.int z_29), .unset, .unset, .unset, .unset] [(.int z_31)])) (fun t k => st31 t k) ?_
    refine own_st (B := T31.setTop (mkF m 17 #[.val (.int arg0), .val (.int arg1), .val (.int arg2), .val (.int arg3), .val (.int (2 : Int32)), .val (.int z_29), .val (.int z_31), .unset, .unset, .unset] [])) (fun t k => XS.istore X31.here hx rfl (hb hby at_15) rfl (l' := #[.val (.int arg0), .val (.int arg1), .val (.int arg2), .val (.int arg3), .val (.int (2 : Int32)), .val (.int z_29), .val (.int z_31), .unset, .unset, .unset]) rfl k) ?_
    refine own_st (B := T31.setTop (mkF m 18 #[.val (.int arg0), .val (.int arg1), .val (.int arg2), .val (.int arg3), .val (.int (2 : Int32)), .val (.int z_29), .val (.int z_31), .unset, .unset, .unset] [(.int arg3)])) (fun t k => XS.iloadN X31.here hx rfl (hb hby at_17) rfl k) ?_
    obtain ⟨_, _, ⟨T33, L33, k33, j33⟩, -, X33, ⟨Lc33, hQ33, l33, y33_, z33_⟩, st33⟩ := Jvm.LawKit.callS X31 hx (y := (⟨"com/example/crossplan/crossplan/client/ClientTextFirstCharacterPinLaw", "draw", "(I)B"⟩ : MethodName)) hown (mvT hZ (w_0 hw)) (mvT hZ (w_1 hw)) (mvT hZ (w_2 hw)) (mvT hZ (w_3 hw)) (by decide) (backOf (W := 0) (rm1 l Z a0 hw [] arg3 T31.heap n0 z32 ) hZ (w_3 hw) (w_2 hw) (by decide) (by decide)) (g := (mkF m 18 #[.val (.int arg0), .val (.int arg1), .val (.int arg2), .val (.int arg3), .val (.int (2 : Int32)), .val (.int z_29), .val (.int z_31), .unset, .unset, .unset] [(.int arg3)])) rfl (by rw [hml]; rfl) (argsL := [(.int arg3)]) (rest := []) (lenOf own_pd2 rfl) rfl (by show 2 * 0 + _ ≤ _; exact Nat.le_of_eq rfl) (hb hby at_18) (fun _ _ => ⟨rfl, rfl, (by decide : 2 + 1 ≤ _), (by decide : 20 + 10 ≤ _)⟩)
    dsimp only [Pt.U, Pt.locs, Pt.cells, Pt.slots] at X33 l33 y33_ z33_ st33 hQ33
    subst l33 y33_ z33_
    obtain ⟨z_33, rfl, N33q, K33, r33_0⟩ := hQ33
    have N33 := Fr.app N31 N33q
    have z34 : n0 ≤ T33.heap.size := Nat.le_trans z32 K33.1
    refine own_st (B := T33.setTop (mkF m 21 #[.val (.int arg0), .val (.int arg1), .val (.int arg2), .val (.int arg3), .val (.int (2 : Int32)), .val (.int z_29), .val (.int z_31), .unset, .unset, .unset] [(.int z_33)])) (fun t k => st33 t k) ?_
    refine own_st (B := T33.setTop (mkF m 23 #[.val (.int arg0), .val (.int arg1), .val (.int arg2), .val (.int arg3), .val (.int (2 : Int32)), .val (.int z_29), .val (.int z_31), .val (.int z_33), .unset, .unset] [])) (fun t k => XS.istore X33.here hx rfl (hb hby at_21) rfl (l' := #[.val (.int arg0), .val (.int arg1), .val (.int arg2), .val (.int arg3), .val (.int (2 : Int32)), .val (.int z_29), .val (.int z_31), .val (.int z_33), .unset, .unset]) rfl k) ?_
    refine own_st (B := T33.setTop (mkF m 25 #[.val (.int arg0), .val (.int arg1), .val (.int arg2), .val (.int arg3), .val (.int (2 : Int32)), .val (.int z_29), .val (.int z_31), .val (.int z_33), .unset, .unset] [(.int (2 : Int32))])) (fun t k => XS.iload X33.here hx rfl (hb hby at_23) rfl k) ?_
    obtain ⟨T35, h35, X35, e35, E35, A35, x35, st35⟩ := own_newP X33 hx hZ (aty := .byte) (w_4 hw) rfl (g := (mkF m 25 #[.val (.int arg0), .val (.int arg1), .val (.int arg2), .val (.int arg3), .val (.int (2 : Int32)), .val (.int z_29), .val (.int z_31), .val (.int z_33), .unset, .unset] [(.int (2 : Int32))])) rfl (hb hby at_25) (n := (2 : Int32)) (rest := []) rfl (k := 2) (cap := 2) (by decide) (Nat.le_refl _) (by decide) (by decide) (by decide) (ad := "[B") rfl
    obtain ⟨b35, g35⟩ : ∃ z, z = T33.heap.size := ⟨_, rfl⟩
    rw [← g35] at A35 x35 st35
    have u35 : n0 ≤ b35 := Nat.le_trans z34 (Nat.le_of_eq g35.symm)
    have z36 : n0 ≤ h35.size := Nat.le_trans z34 E35.1
    have f35_ : own_A Z h35 b35 .byte [(.int (0 : Int32)), (.int (0 : Int32))] := A35
    refine own_st (B := T35.setTop (mkF m 27 #[.val (.int arg0), .val (.int arg1), .val (.int arg2), .val (.int arg3), .val (.int (2 : Int32)), .val (.int z_29), .val (.int z_31), .val (.int z_33), .unset, .unset] [(.ref b35)])) (fun t k => st35 t k) ?_
    refine own_st (B := T35.setTop (mkF m 29 #[.val (.int arg0), .val (.int arg1), .val (.int arg2), .val (.int arg3), .val (.int (2 : Int32)), .val (.int z_29), .val (.int z_31), .val (.int z_33), .val (.ref b35), .unset] [])) (fun t k => XS.astore X35.here hx rfl (hb hby at_27) rfl rfl (l' := #[.val (.int arg0), .val (.int arg1), .val (.int arg2), .val (.int arg3), .val (.int (2 : Int32)), .val (.int z_29), .val (.int z_31), .val (.int z_33), .val (.ref b35), .unset]) rfl k) ?_
    refine own_st (B := T35.setTop (mkF m 31 #[.val (.int arg0), .val (.int arg1), .val (.int arg2), .val (.int arg3), .val (.int (2 : Int32)), .val (.int z_29), .val (.int z_31), .val (.int z_33), .val (.ref b35), .unset] [(.int (2 : Int32))])) (fun t k => XS.iload X35.here hx rfl (hb hby at_29) rfl k) ?_
    refine own_st (B := T35.setTop (mkF m 34 #[.val (.int arg0), .val (.int arg1), .val (.int arg2), .val (.int arg3), .val (.int (2 : Int32)), .val (.int z_29), .val (.int z_31), .val (.int z_33), .val (.ref b35), .unset] [])) (fun t k => XS.ifNo X35.here hx rfl (hb hby at_31) rfl (by decide) k) ?_
    refine own_st (B := T35.setTop (mkF m 36 #[.val (.int arg0), .val (.int arg1), .val (.int arg2), .val (.int arg3), .val (.int (2 : Int32)), .val (.int z_29), .val (.int z_31), .val (.int z_33), .val (.ref b35), .unset] [(.ref b35)])) (fun t k => XS.aload X35.here hx rfl (hb hby at_34) rfl rfl k) ?_
    refine own_st (B := T35.setTop (mkF m 37 #[.val (.int arg0), .val (.int arg1), .val (.int arg2), .val (.int arg3), .val (.int (2 : Int32)), .val (.int z_29), .val (.int z_31), .val (.int z_33), .val (.ref b35), .unset] [(.int (0 : Int32)), (.ref b35)])) (fun t k => XS.iconst X35.here hx rfl (hb hby at_36) k) ?_
    refine own_st (B := T35.setTop (mkF m 39 #[.val (.int arg0), .val (.int arg1), .val (.int arg2), .val (.int arg3), .val (.int (2 : Int32)), .val (.int z_29), .val (.int z_31), .val (.int z_33), .val (.ref b35), .unset] [(.int z_29), (.int (0 : Int32)), (.ref b35)])) (fun t k => XS.iload X35.here hx rfl (hb hby at_37) rfl k) ?_
    obtain ⟨T37, h37, X37, e37, W37, A37, st37⟩ := own_stB X35 hx hZ e35 f35_ (j := (0 : Int32)) (x := z_29) (i := 0) (by decide) (show 0 < 2 from by decide) (g := (mkF m 39 #[.val (.int arg0), .val (.int arg1), .val (.int arg2), .val (.int arg3), .val (.int (2 : Int32)), .val (.int z_29), .val (.int z_31), .val (.int z_33), .val (.ref b35), .unset] [(.int z_29), (.int (0 : Int32)), (.ref b35)])) rfl rfl (hb hby at_39)
    have f37_ : own_A Z h37 b35 .byte [(.int (z_29.toInt8.toInt32)), (.int (0 : Int32))] := A37
    have z38 : n0 ≤ h37.size := Nat.le_trans z36 (Keep.of_wr W37).1
    have n39 := Fr.snoc X37 N33 u35
    refine own_st (B := T37.setTop (mkF m 40 #[.val (.int arg0), .val (.int arg1), .val (.int arg2), .val (.int arg3), .val (.int (2 : Int32)), .val (.int z_29), .val (.int z_31), .val (.int z_33), .val (.ref b35), .unset] [])) (fun t k => st37 t k) ?_
    refine own_st (B := T37.setTop (mkF m 42 #[.val (.int arg0), .val (.int arg1), .val (.int arg2), .val (.int arg3), .val (.int (2 : Int32)), .val (.int z_29), .val (.int z_31), .val (.int z_33), .val (.ref b35), .unset] [(.int (2 : Int32))])) (fun t k => XS.iload X37.here hx rfl (hb hby at_40) rfl k) ?_
    refine own_st (B := T37.setTop (mkF m 43 #[.val (.int arg0), .val (.int arg1), .val (.int arg2), .val (.int arg3), .val (.int (2 : Int32)), .val (.int z_29), .val (.int z_31), .val (.int z_33), .val (.ref b35), .unset] [(.int (1 : Int32)), (.int (2 : Int32))])) (fun t k => XS.iconst X37.here hx rfl (hb hby at_42) k) ?_
    refine own_st (B := T37.setTop (mkF m 46 #[.val (.int arg0), .val (.int arg1), .val (.int arg2), .val (.int arg3), .val (.int (2 : Int32)), .val (.int z_29), .val (.int z_31), .val (.int z_33), .val (.ref b35), .unset] [])) (fun t k => XS.icmpNo X37.here hx rfl (hb hby at_43) rfl (by decide) k) ?_
    refine own_st (B := T37.setTop (mkF m 48 #[.val (.int arg0), .val (.int arg1), .val (.int arg2), .val (.int arg3), .val (.int (2 : Int32)), .val (.int z_29), .val (.int z_31), .val (.int z_33), .val (.ref b35), .unset] [(.ref b35)])) (fun t k => XS.aload X37.here hx rfl (hb hby at_46) rfl rfl k) ?_
    refine own_st (B := T37.setTop (mkF m 49 #[.val (.int arg0), .val (.int arg1), .val (.int arg2), .val (.int arg3), .val (.int (2 : Int32)), .val (.int z_29), .val (.int z_31), .val (.int z_33), .val (.ref b35), .unset] [(.int (1 : Int32)), (.ref b35)])) (fun t k => XS.iconst X37.here hx rfl (hb hby at_48) k) ?_
    refine own_st (B := T37.setTop (mkF m 51 #[.val (.int arg0), .val (.int arg1), .val (.int arg2), .val (.int arg3), .val (.int (2 : Int32)), .val (.int z_29), .val (.int z_31), .val (.int z_33), .val (.ref b35), .unset] [(.int z_31), (.int (1 : Int32)), (.ref b35)])) (fun t k => XS.iload X37.here hx rfl (hb hby at_49) rfl k) ?_
    obtain ⟨T40, h40, X40, e40, W40, A40, st40⟩ := own_stB X37 hx hZ e37 f37_ (j := (1 : Int32)) (x := z_31) (i := 1) (by decide) (show 1 < 2 from by decide) (g := (mkF m 51 #[.val (.int arg0), .val (.int arg1), .val (.int arg2), .val (.int arg3), .val (.int (2 : Int32)), .val (.int z_29), .val (.int z_31), .val (.int z_33), .val (.ref b35), .unset] [(.int z_31), (.int (1 : Int32)), (.ref b35)])) rfl rfl (hb hby at_51)
    have f40_ : own_A Z h40 b35 .byte [(.int (z_29.toInt8.toInt32)), (.int (z_31.toInt8.toInt32))] := A40
    have z41 : n0 ≤ h40.size := Nat.le_trans z38 (Keep.of_wr W40).1
    have n42 := Fr.snoc X40 n39 u35
    refine own_st (B := T40.setTop (mkF m 52 #[.val (.int arg0), .val (.int arg1), .val (.int arg2), .val (.int arg3), .val (.int (2 : Int32)), .val (.int z_29), .val (.int z_31), .val (.int z_33), .val (.ref b35), .unset] [])) (fun t k => st40 t k) ?_
    refine own_st (B := T40.setTop (mkF m 54 #[.val (.int arg0), .val (.int arg1), .val (.int arg2), .val (.int arg3), .val (.int (2 : Int32)), .val (.int z_29), .val (.int z_31), .val (.int z_33), .val (.ref b35), .unset] [(.int (2 : Int32))])) (fun t k => XS.iload X40.here hx rfl (hb hby at_52) rfl k) ?_
    refine own_st (B := T40.setTop (mkF m 55 #[.val (.int arg0), .val (.int arg1), .val (.int arg2), .val (.int arg3), .val (.int (2 : Int32)), .val (.int z_29), .val (.int z_31), .val (.int z_33), .val (.ref b35), .unset] [(.int (2 : Int32)), (.int (2 : Int32))])) (fun t k => XS.iconst X40.here hx rfl (hb hby at_54) k) ?_
    refine own_st (B := T40.setTop (mkF m 64 #[.val (.int arg0), .val (.int arg1), .val (.int arg2), .val (.int arg3), .val (.int (2 : Int32)), .val (.int z_29), .val (.int z_31), .val (.int z_33), .val (.ref b35), .unset] [])) (fun t k => XS.icmpYes X40.here hx rfl (pc0 := 55) (pc' := 64) rfl (hb hby at_55) rfl (by decide) (by decide) (by decide) k) ?_
    refine own_st (B := T40.setTop (mkF m 65 #[.val (.int arg0), .val (.int arg1), .val (.int arg2), .val (.int arg3), .val (.int (2 : Int32)), .val (.int z_29), .val (.int z_31), .val (.int z_33), .val (.ref b35), .unset] [(.int (-1 : Int32))])) (fun t k => XS.iconst X40.here hx rfl (hb hby at_64) k) ?_
    refine own_st (B := T40.setTop (mkF m 67 #[.val (.int arg0), .val (.int arg1), .val (.int arg2), .val (.int arg3), .val (.int (2 : Int32)), .val (.int z_29), .val (.int z_31), .val (.int z_33), .val (.ref b35), .val (.int (-1 : Int32))] [])) (fun t k => XS.istore X40.here hx rfl (hb hby at_65) rfl (l' := #[.val (.int arg0), .val (.int arg1), .val (.int arg2), .val (.int arg3), .val (.int (2 : Int32)), .val (.int z_29), .val (.int z_31), .val (.int z_33), .val (.ref b35), .val (.int (-1 : Int32))]) rfl k) ?_
    refine own_st (B := T40.setTop (mkF m 69 #[.val (.int arg0), .val (.int arg1), .val (.int arg2), .val (.int arg3), .val (.int (2 : Int32)), .val (.int z_29), .val (.int z_31), .val (.int z_33), .val (.ref b35), .val (.int (-1 : Int32))] [(.int (2 : Int32))])) (fun t k => XS.iload X40.here hx rfl (hb hby at_67) rfl k) ?_
    refine own_st (B := T40.setTop (mkF m 70 #[.val (.int arg0), .val (.int arg1), .val (.int arg2), .val (.int arg3), .val (.int (2 : Int32)), .val (.int z_29), .val (.int z_31), .val (.int z_33), .val (.ref b35), .val (.int (-1 : Int32))] [(.int (2 : Int32)), (.int (2 : Int32))])) (fun t k => XS.iconst X40.here hx rfl (hb hby at_69) k) ?_
    refine own_st (B := T40.setTop (mkF m 89 #[.val (.int arg0), .val (.int arg1), .val (.int arg2), .val (.int arg3), .val (.int (2 : Int32)), .val (.int z_29), .val (.int z_31), .val (.int z_33), .val (.ref b35), .val (.int (-1 : Int32))] [])) (fun t k => XS.icmpYes X40.here hx rfl (pc0 := 70) (pc' := 89) rfl (hb hby at_70) rfl (by decide) (by decide) (by decide) k) ?_
    refine own_st (B := T40.setTop (mkF m 91 #[.val (.int arg0), .val (.int arg1), .val (.int arg2), .val (.int arg3), .val (.int (2 : Int32)), .val (.int z_29), .val (.int z_31), .val (.int z_33), .val (.ref b35), .val (.int (-1 : Int32))] [(.int (2 : Int32))])) (fun t k => XS.iload X40.here hx rfl (hb hby at_89) rfl k) ?_
    refine own_st (B := T40.setTop (mkF m 92 #[.val (.int arg0), .val (.int arg1), .val (.int arg2), .val (.int arg3), .val (.int (2 : Int32)), .val (.int z_29), .val (.int z_31), .val (.int z_33), .val (.ref b35), .val (.int (-1 : Int32))] [(.int (1 : Int32)), (.int (2 : Int32))])) (fun t k => XS.iconst X40.here hx rfl (hb hby at_91) k) ?_
    refine own_st (B := T40.setTop (mkF m 95 #[.val (.int arg0), .val (.int arg1), .val (.int arg2), .val (.int arg3), .val (.int (2 : Int32)), .val (.int z_29), .val (.int z_31), .val (.int z_33), .val (.ref b35), .val (.int (-1 : Int32))] [])) (fun t k => XS.icmpNo X40.here hx rfl (hb hby at_92) rfl (by decide) k) ?_
    refine own_st (B := T40.setTop (mkF m 97 #[.val (.int arg0), .val (.int arg1), .val (.int arg2), .val (.int arg3), .val (.int (2 : Int32)), .val (.int z_29), .val (.int z_31), .val (.int z_33), .val (.ref b35), .val (.int (-1 : Int32))] [(.int z_31)])) (fun t k => XS.iload X40.here hx rfl (hb hby at_95) rfl k) ?_
    obtain ⟨_, _, ⟨T43, L43, k43, j43⟩, -, X43, ⟨Lc43, hQ43, l43, y43_, z43_⟩, st43⟩ := Jvm.LawKit.callS X40 hx (y := (⟨"com/example/crossplan/crossplan/client/ClientTextFirstCharacterPinLaw", "skipped", "(B)Z"⟩ : MethodName)) hown (mvT hZ (w_10 hw)) (mvT hZ (w_11 hw)) (mvT hZ (w_2 hw)) (mvT hZ (w_12 hw)) (by decide) (backOf (W := 0) (rm3 l Z a0 hw [] z_31 h40 n0 z41 ) hZ (w_12 hw) (w_2 hw) (by decide) (by decide)) (g := (mkF m 97 #[.val (.int arg0), .val (.int arg1), .val (.int arg2), .val (.int arg3), .val (.int (2 : Int32)), .val (.int z_29), .val (.int z_31), .val (.int z_33), .val (.ref b35), .val (.int (-1 : Int32))] [(.int z_31)])) rfl (by rw [hml]; rfl) (argsL := [(.int z_31)]) (rest := []) (lenOf own_pd4 rfl) rfl (by show 2 * 0 + _ ≤ _; exact Nat.le_of_eq rfl) (hb hby at_97) (fun _ _ => ⟨rfl, e40, (by decide : 4 + 0 ≤ _), (by decide : 32 + 0 ≤ _)⟩)
    dsimp only [Pt.U, Pt.locs, Pt.cells, Pt.slots] at X43 l43 y43_ z43_ st43 hQ43
    subst l43 y43_ z43_
    obtain ⟨rfl, N43q, e43q⟩ := hQ43
    have N43 := Fr.app n42 N43q
    refine own_st (B := T43.setTop (mkF m 100 #[.val (.int arg0), .val (.int arg1), .val (.int arg2), .val (.int arg3), .val (.int (2 : Int32)), .val (.int z_29), .val (.int z_31), .val (.int z_33), .val (.ref b35), .val (.int (-1 : Int32))] [(.int (own_f3 z_31))])) (fun t k => st43 t k) ?_
    refine own_cut (P := ∀ (v46 : Int32), (v46 = (if (own_f3 z_31) = (0 : Int32) then (z_31 &&& (255 : Int32)) else (-1 : Int32))) → own_Go p e below s (Q0 Z arg0 arg1 arg2 arg3 h0 n0) 16 192 (T43.setTop (mkF m 111 #[.val (.int arg0), .val (.int arg1), .val (.int arg2), .val (.int arg3), .val (.int (2 : Int32)), .val (.int z_29), .val (.int z_31), .val (.int z_33), .val (.ref b35), .val (.int v46)] []))) (fun J47 => ?_) ?_
    · by_cases hc44 : (own_f3 z_31) = (0 : Int32)
      · refine own_st (B := T43.setTop (mkF m 103 #[.val (.int arg0), .val (.int arg1), .val (.int arg2), .val (.int arg3), .val (.int (2 : Int32)), .val (.int z_29), .val (.int z_31), .val (.int z_33), .val (.ref b35), .val (.int (-1 : Int32))] [])) (fun t k => XS.ifNo X43.here hx rfl (hb hby at_100) rfl (XT.i0_ne_f hc44) k) ?_
        refine own_st (B := T43.setTop (mkF m 105 #[.val (.int arg0), .val (.int arg1), .val (.int arg2), .val (.int arg3), .val (.int (2 : Int32)), .val (.int z_29), .val (.int z_31), .val (.int z_33), .val (.ref b35), .val (.int (-1 : Int32))] [(.int z_31)])) (fun t k => XS.iload X43.here hx rfl (hb hby at_103) rfl k) ?_
        refine own_st (B := T43.setTop (mkF m 108 #[.val (.int arg0), .val (.int arg1), .val (.int arg2), .val (.int arg3), .val (.int (2 : Int32)), .val (.int z_29), .val (.int z_31), .val (.int z_33), .val (.ref b35), .val (.int (-1 : Int32))] [(.int (255 : Int32)), (.int z_31)])) (fun t k => XS.sipush X43.here hx rfl (hb hby at_105) k) ?_
        refine own_st (B := T43.setTop (mkF m 109 #[.val (.int arg0), .val (.int arg1), .val (.int arg2), .val (.int arg3), .val (.int (2 : Int32)), .val (.int z_29), .val (.int z_31), .val (.int z_33), .val (.ref b35), .val (.int (-1 : Int32))] [(.int (z_31 &&& (255 : Int32)))])) (fun t k => XS.iand X43.here hx rfl (hb hby at_108) rfl k) ?_
        obtain ⟨v45, ev45⟩ : ∃ z : Int32, z = (z_31 &&& (255 : Int32)) := ⟨_, rfl⟩
        rw [← ev45]
        refine own_st (B := T43.setTop (mkF m 111 #[.val (.int arg0), .val (.int arg1), .val (.int arg2), .val (.int arg3), .val (.int (2 : Int32)), .val (.int z_29), .val (.int z_31), .val (.int z_33), .val (.ref b35), .val (.int v45)] [])) (fun t k => XS.istore X43.here hx rfl (hb hby at_109) rfl (l' := #[.val (.int arg0), .val (.int arg1), .val (.int arg2), .val (.int arg3), .val (.int (2 : Int32)), .val (.int z_29), .val (.int z_31), .val (.int z_33), .val (.ref b35), .val (.int v45)]) rfl k) ?_
        exact J47 v45 (by subst v45; rw [if_pos hc44])
      · refine own_st (B := T43.setTop (mkF m 111 #[.val (.int arg0), .val (.int arg1), .val (.int arg2), .val (.int arg3), .val (.int (2 : Int32)), .val (.int z_29), .val (.int z_31), .val (.int z_33), .val (.ref b35), .val (.int (-1 : Int32))] [])) (fun t k => XS.ifYes X43.here hx rfl (pc0 := 100) (pc' := 111) rfl (hb hby at_100) rfl (XT.i0_ne_t hc44) (by decide) (by decide) k) ?_
        exact J47 (-1 : Int32) (by rw [if_neg hc44])
    intro v46 hv46
    refine own_st (B := T43.setTop (mkF m 113 #[.val (.int arg0), .val (.int arg1), .val (.int arg2), .val (.int arg3), .val (.int (2 : Int32)), .val (.int z_29), .val (.int z_31), .val (.int z_33), .val (.ref b35), .val (.int v46)] [(.int (2 : Int32))])) (fun t k => XS.iload X43.here hx rfl (hb hby at_111) rfl k) ?_
    refine own_st (B := T43.setTop (mkF m 116 #[.val (.int arg0), .val (.int arg1), .val (.int arg2), .val (.int arg3), .val (.int (2 : Int32)), .val (.int z_29), .val (.int z_31), .val (.int z_33), .val (.ref b35), .val (.int v46)] [])) (fun t k => XS.ifNo X43.here hx rfl (hb hby at_113) rfl (by decide) k) ?_
    refine own_st (B := T43.setTop (mkF m 118 #[.val (.int arg0), .val (.int arg1), .val (.int arg2), .val (.int arg3), .val (.int (2 : Int32)), .val (.int z_29), .val (.int z_31), .val (.int z_33), .val (.ref b35), .val (.int v46)] [(.int z_29)])) (fun t k => XS.iload X43.here hx rfl (hb hby at_116) rfl k) ?_
    obtain ⟨_, _, ⟨T48, L48, k48, j48⟩, -, X48, ⟨Lc48, hQ48, l48, y48_, z48_⟩, st48⟩ := Jvm.LawKit.callS X43 hx (y := (⟨"com/example/crossplan/crossplan/client/ClientTextFirstCharacterPinLaw", "skipped", "(B)Z"⟩ : MethodName)) hown (mvT hZ (w_10 hw)) (mvT hZ (w_11 hw)) (mvT hZ (w_2 hw)) (mvT hZ (w_12 hw)) (by decide) (backOf (W := 0) (rm3 l Z a0 hw [] z_29 h40 n0 z41 ) hZ (w_12 hw) (w_2 hw) (by decide) (by decide)) (g := (mkF m 118 #[.val (.int arg0), .val (.int arg1), .val (.int arg2), .val (.int arg3), .val (.int (2 : Int32)), .val (.int z_29), .val (.int z_31), .val (.int z_33), .val (.ref b35), .val (.int v46)] [(.int z_29)])) rfl (by rw [hml]; rfl) (argsL := [(.int z_29)]) (rest := []) (lenOf own_pd4 rfl) rfl (by show 2 * 0 + _ ≤ _; exact Nat.le_of_eq rfl) (hb hby at_118) (fun _ _ => ⟨rfl, e43q, (by decide : 4 + 0 ≤ _), (by decide : 32 + 0 ≤ _)⟩)
    dsimp only [Pt.U, Pt.locs, Pt.cells, Pt.slots] at X48 l48 y48_ z48_ st48 hQ48
    subst l48 y48_ z48_
    obtain ⟨rfl, N48q, e48q⟩ := hQ48
    have N48 := Fr.app N43 N48q
    refine own_st (B := T48.setTop (mkF m 121 #[.val (.int arg0), .val (.int arg1), .val (.int arg2), .val (.int arg3), .val (.int (2 : Int32)), .val (.int z_29), .val (.int z_31), .val (.int z_33), .val (.ref b35), .val (.int v46)] [(.int (own_f3 z_29))])) (fun t k => st48 t k) ?_
    refine own_cut (P := ∀ (v51 : Int32), (v51 = (if (own_f3 z_29) = (0 : Int32) then (z_29 &&& (255 : Int32)) else v46)) → own_Go p e below s (Q0 Z arg0 arg1 arg2 arg3 h0 n0) 16 192 (T48.setTop (mkF m 132 #[.val (.int arg0), .val (.int arg1), .val (.int arg2), .val (.int arg3), .val (.int (2 : Int32)), .val (.int z_29), .val (.int z_31), .val (.int z_33), .val (.ref b35), .val (.int v51)] []))) (fun J52 => ?_) ?_
    · by_cases hc49 : (own_f3 z_29) = (0 : Int32)
      · refine own_st (B := T48.setTop (mkF m 124 #[.val (.int arg0), .val (.int arg1), .val (.int arg2), .val (.int arg3), .val (.int (2 : Int32)), .val (.int z_29), .val (.int z_31), .val (.int z_33), .val (.ref b35), .val (.int v46)] [])) (fun t k => XS.ifNo X48.here hx rfl (hb hby at_121) rfl (XT.i0_ne_f hc49) k) ?_
        refine own_st (B := T48.setTop (mkF m 126 #[.val (.int arg0), .val (.int arg1), .val (.int arg2), .val (.int arg3), .val (.int (2 : Int32)), .val (.int z_29), .val (.int z_31), .val (.int z_33), .val (.ref b35), .val (.int v46)] [(.int z_29)])) (fun t k => XS.iload X48.here hx rfl (hb hby at_124) rfl k) ?_
        refine own_st (B := T48.setTop (mkF m 129 #[.val (.int arg0), .val (.int arg1), .val (.int arg2), .val (.int arg3), .val (.int (2 : Int32)), .val (.int z_29), .val (.int z_31), .val (.int z_33), .val (.ref b35), .val (.int v46)] [(.int (255 : Int32)), (.int z_29)])) (fun t k => XS.sipush X48.here hx rfl (hb hby at_126) k) ?_
        refine own_st (B := T48.setTop (mkF m 130 #[.val (.int arg0), .val (.int arg1), .val (.int arg2), .val (.int arg3), .val (.int (2 : Int32)), .val (.int z_29), .val (.int z_31), .val (.int z_33), .val (.ref b35), .val (.int v46)] [(.int (z_29 &&& (255 : Int32)))])) (fun t k => XS.iand X48.here hx rfl (hb hby at_129) rfl k) ?_
        obtain ⟨v50, ev50⟩ : ∃ z : Int32, z = (z_29 &&& (255 : Int32)) := ⟨_, rfl⟩
        rw [← ev50]
        refine own_st (B := T48.setTop (mkF m 132 #[.val (.int arg0), .val (.int arg1), .val (.int arg2), .val (.int arg3), .val (.int (2 : Int32)), .val (.int z_29), .val (.int z_31), .val (.int z_33), .val (.ref b35), .val (.int v50)] [])) (fun t k => XS.istore X48.here hx rfl (hb hby at_130) rfl (l' := #[.val (.int arg0), .val (.int arg1), .val (.int arg2), .val (.int arg3), .val (.int (2 : Int32)), .val (.int z_29), .val (.int z_31), .val (.int z_33), .val (.ref b35), .val (.int v50)]) rfl k) ?_
        exact J52 v50 (by subst v50; rw [if_pos hc49])
      · refine own_st (B := T48.setTop (mkF m 132 #[.val (.int arg0), .val (.int arg1), .val (.int arg2), .val (.int arg3), .val (.int (2 : Int32)), .val (.int z_29), .val (.int z_31), .val (.int z_33), .val (.ref b35), .val (.int v46)] [])) (fun t k => XS.ifYes X48.here hx rfl (pc0 := 121) (pc' := 132) rfl (hb hby at_121) rfl (XT.i0_ne_t hc49) (by decide) (by decide) k) ?_
        exact J52 v46 (by rw [if_neg hc49])
    intro v51 hv51
    refine own_st (B := T48.setTop (mkF m 134 #[.val (.int arg0), .val (.int arg1), .val (.int arg2), .val (.int arg3), .val (.int (2 : Int32)), .val (.int z_29), .val (.int z_31), .val (.int z_33), .val (.ref b35), .val (.int v51)] [(.ref b35)])) (fun t k => XS.aload X48.here hx rfl (hb hby at_132) rfl rfl k) ?_
    obtain ⟨_, _, ⟨T53, L53, k53, j53⟩, -, X53, ⟨Lc53, hQ53, l53, y53_, z53_⟩, st53⟩ := Jvm.LawKit.callS X48 hx (y := (⟨"com/example/crossplan/crossplan/client/ClientText", "firstCharacter", "([B)I"⟩ : MethodName)) hown (mvT hZ (w_6 hw)) (mvT hZ (w_7 hw)) (mvT hZ (w_8 hw)) (mvT hZ (w_9 hw)) (by decide) (backOf (W := 0) (rm2 l Z a0 hw [] b35 [(z_29.toInt8.toInt32), (z_31.toInt8.toInt32)] h40 n0 z41 f40_ (show 2 < 1000 from by decide)) hZ (w_9 hw) (w_8 hw) (by decide) (by decide)) (g := (mkF m 134 #[.val (.int arg0), .val (.int arg1), .val (.int arg2), .val (.int arg3), .val (.int (2 : Int32)), .val (.int z_29), .val (.int z_31), .val (.int z_33), .val (.ref b35), .val (.int v51)] [(.ref b35)])) rfl (by rw [hml]; rfl) (argsL := [(.ref b35)]) (rest := []) (lenOf own_pd3 rfl) rfl (by show 2 * 0 + _ ≤ _; exact Nat.le_of_eq rfl) (hb hby at_134) (fun _ _ => ⟨rfl, e48q, (by decide : 4 + 0 ≤ _), (by decide : 32 + 0 ≤ _)⟩)
    dsimp only [Pt.U, Pt.locs, Pt.cells, Pt.slots] at X53 l53 y53_ z53_ st53 hQ53
    subst l53 y53_ z53_
    obtain ⟨rfl, N53q, e53q⟩ := hQ53
    have N53 := Fr.app N48 N53q
    refine own_st (B := T53.setTop (mkF m 137 #[.val (.int arg0), .val (.int arg1), .val (.int arg2), .val (.int arg3), .val (.int (2 : Int32)), .val (.int z_29), .val (.int z_31), .val (.int z_33), .val (.ref b35), .val (.int v51)] [(.int (own_first [(z_29.toInt8.toInt32), (z_31.toInt8.toInt32)]))])) (fun t k => st53 t k) ?_
    refine own_st (B := T53.setTop (mkF m 139 #[.val (.int arg0), .val (.int arg1), .val (.int arg2), .val (.int arg3), .val (.int (2 : Int32)), .val (.int z_29), .val (.int z_31), .val (.int z_33), .val (.ref b35), .val (.int v51)] [(.int v51), (.int (own_first [(z_29.toInt8.toInt32), (z_31.toInt8.toInt32)]))])) (fun t k => XS.iload X53.here hx rfl (hb hby at_137) rfl k) ?_
    have hc54 : (own_first [(z_29.toInt8.toInt32), (z_31.toInt8.toInt32)]) = v51 := by
      exact (own_chain r29_0 (own_chain r31_0 rfl hv46) hv51)
    refine own_st (B := T53.setTop (mkF m 142 #[.val (.int arg0), .val (.int arg1), .val (.int arg2), .val (.int arg3), .val (.int (2 : Int32)), .val (.int z_29), .val (.int z_31), .val (.int z_33), .val (.ref b35), .val (.int v51)] [])) (fun t k => XS.icmpNo X53.here hx rfl (hb hby at_139) rfl (XT.ii_ne_f hc54) k) ?_
    refine own_st (B := T53.setTop (mkF m 143 #[.val (.int arg0), .val (.int arg1), .val (.int arg2), .val (.int arg3), .val (.int (2 : Int32)), .val (.int z_29), .val (.int z_31), .val (.int z_33), .val (.ref b35), .val (.int v51)] [(.int (1 : Int32))])) (fun t k => XS.iconst X53.here hx rfl (hb hby at_142) k) ?_
    refine own_st (B := T53.setTop (mkF m 147 #[.val (.int arg0), .val (.int arg1), .val (.int arg2), .val (.int arg3), .val (.int (2 : Int32)), .val (.int z_29), .val (.int z_31), .val (.int z_33), .val (.ref b35), .val (.int v51)] [(.int (1 : Int32))])) (fun t k => XS.goto X53.here hx rfl (pc0 := 143) (pc' := 147) rfl (hb hby at_143) (by decide) (by decide) k) ?_
    refine own_retN X53 hx hlk (t := .boolean) Bd.returns (by simp) (z' := (1 : Int32)) rfl (hb hby at_147) (by decide) (by decide) ?_
    show Q0 Z arg0 arg1 arg2 arg3 h0 n0 _ T53.heap _
    rw [e53q]
    exact ⟨rfl, N53⟩
  · rw [hn]
    refine own_st (B := s₁.setTop (mkF m 5 #[.val (.int arg0), .val (.int arg1), .val (.int arg2), .val (.int arg3), .val (.int (3 : Int32)), .unset, .unset, .unset, .unset, .unset] [])) (fun t k => XS.istore X0.here hx rfl (hb hby at_3) rfl (l' := #[.val (.int arg0), .val (.int arg1), .val (.int arg2), .val (.int arg3), .val (.int (3 : Int32)), .unset, .unset, .unset, .unset, .unset]) rfl k) ?_
    refine own_st (B := s₁.setTop (mkF m 6 #[.val (.int arg0), .val (.int arg1), .val (.int arg2), .val (.int arg3), .val (.int (3 : Int32)), .unset, .unset, .unset, .unset, .unset] [(.int arg1)])) (fun t k => XS.iloadN X0.here hx rfl (hb hby at_5) rfl k) ?_
    obtain ⟨_, _, ⟨T55, L55, k55, j55⟩, -, X55, ⟨Lc55, hQ55, l55, y55_, z55_⟩, st55⟩ := Jvm.LawKit.callS X0 hx (y := (⟨"com/example/crossplan/crossplan/client/ClientTextFirstCharacterPinLaw", "draw", "(I)B"⟩ : MethodName)) hown (mvT hZ (w_0 hw)) (mvT hZ (w_1 hw)) (mvT hZ (w_2 hw)) (mvT hZ (w_3 hw)) (by decide) (backOf (W := 0) (rm1 l Z a0 hw [] arg1 h0 n0 Z0 ) hZ (w_3 hw) (w_2 hw) (by decide) (by decide)) (g := (mkF m 6 #[.val (.int arg0), .val (.int arg1), .val (.int arg2), .val (.int arg3), .val (.int (3 : Int32)), .unset, .unset, .unset, .unset, .unset] [(.int arg1)])) rfl (by rw [hml]; rfl) (argsL := [(.int arg1)]) (rest := []) (lenOf own_pd2 rfl) rfl (by show 2 * 0 + _ ≤ _; exact Nat.le_of_eq rfl) (hb hby at_6) (fun _ _ => ⟨rfl, e0, (by decide : 0 + 1 ≤ _), (by decide : 0 + 10 ≤ _)⟩)
    dsimp only [Pt.U, Pt.locs, Pt.cells, Pt.slots] at X55 l55 y55_ z55_ st55 hQ55
    subst l55 y55_ z55_
    obtain ⟨z_55, rfl, N55q, K55, r55_0⟩ := hQ55
    have N55 := Fr.app N0 N55q
    have z56 : n0 ≤ T55.heap.size := Nat.le_trans Z0 K55.1
    refine own_st (B := T55.setTop (mkF m 9 #[.val (.int arg0), .val (.int arg1), .val (.int arg2), .val (.int arg3), .val (.int (3 : Int32)), .unset, .unset, .unset, .unset, .unset] [(.int z_55)])) (fun t k => st55 t k) ?_
    refine own_st (B := T55.setTop (mkF m 11 #[.val (.int arg0), .val (.int arg1), .val (.int arg2), .val (.int arg3), .val (.int (3 : Int32)), .val (.int z_55), .unset, .unset, .unset, .unset] [])) (fun t k => XS.istore X55.here hx rfl (hb hby at_9) rfl (l' := #[.val (.int arg0), .val (.int arg1), .val (.int arg2), .val (.int arg3), .val (.int (3 : Int32)), .val (.int z_55), .unset, .unset, .unset, .unset]) rfl k) ?_
    refine own_st (B := T55.setTop (mkF m 12 #[.val (.int arg0), .val (.int arg1), .val (.int arg2), .val (.int arg3), .val (.int (3 : Int32)), .val (.int z_55), .unset, .unset, .unset, .unset] [(.int arg2)])) (fun t k => XS.iloadN X55.here hx rfl (hb hby at_11) rfl k) ?_
    obtain ⟨_, _, ⟨T57, L57, k57, j57⟩, -, X57, ⟨Lc57, hQ57, l57, y57_, z57_⟩, st57⟩ := Jvm.LawKit.callS X55 hx (y := (⟨"com/example/crossplan/crossplan/client/ClientTextFirstCharacterPinLaw", "draw", "(I)B"⟩ : MethodName)) hown (mvT hZ (w_0 hw)) (mvT hZ (w_1 hw)) (mvT hZ (w_2 hw)) (mvT hZ (w_3 hw)) (by decide) (backOf (W := 0) (rm1 l Z a0 hw [] arg2 T55.heap n0 z56 ) hZ (w_3 hw) (w_2 hw) (by decide) (by decide)) (g := (mkF m 12 #[.val (.int arg0), .val (.int arg1), .val (.int arg2), .val (.int arg3), .val (.int (3 : Int32)), .val (.int z_55), .unset, .unset, .unset, .unset] [(.int arg2)])) rfl (by rw [hml]; rfl) (argsL := [(.int arg2)]) (rest := []) (lenOf own_pd2 rfl) rfl (by show 2 * 0 + _ ≤ _; exact Nat.le_of_eq rfl) (hb hby at_12) (fun _ _ => ⟨rfl, rfl, (by decide : 1 + 1 ≤ _), (by decide : 10 + 10 ≤ _)⟩)
    dsimp only [Pt.U, Pt.locs, Pt.cells, Pt.slots] at X57 l57 y57_ z57_ st57 hQ57
    subst l57 y57_ z57_
    obtain ⟨z_57, rfl, N57q, K57, r57_0⟩ := hQ57
    have N57 := Fr.app N55 N57q
    have z58 : n0 ≤ T57.heap.size := Nat.le_trans z56 K57.1
    refine own_st (B := T57.setTop (mkF m 15 #[.val (.int arg0), .val (.int arg1), .val (.int arg2), .val (.int arg3), .val (.int (3 : Int32)), .val (.int z_55), .unset, .unset, .unset, .unset] [(.int z_57)])) (fun t k => st57 t k) ?_
    refine own_st (B := T57.setTop (mkF m 17 #[.val (.int arg0), .val (.int arg1), .val (.int arg2), .val (.int arg3), .val (.int (3 : Int32)), .val (.int z_55), .val (.int z_57), .unset, .unset, .unset] [])) (fun t k => XS.istore X57.here hx rfl (hb hby at_15) rfl (l' := #[.val (.int arg0), .val (.int arg1), .val (.int arg2), .val (.int arg3), .val (.int (3 : Int32)), .val (.int z_55), .val (.int z_57), .unset, .unset, .unset]) rfl k) ?_
    refine own_st (B := T57.setTop (mkF m 18 #[.val (.int arg0), .val (.int arg1), .val (.int arg2), .val (.int arg3), .val (.int (3 : Int32)), .val (.int z_55), .val (.int z_57), .unset, .unset, .unset] [(.int arg3)])) (fun t k => XS.iloadN X57.here hx rfl (hb hby at_17) rfl k) ?_
    obtain ⟨_, _, ⟨T59, L59, k59, j59⟩, -, X59, ⟨Lc59, hQ59, l59, y59_, z59_⟩, st59⟩ := Jvm.LawKit.callS X57 hx (y := (⟨"com/example/crossplan/crossplan/client/ClientTextFirstCharacterPinLaw", "draw", "(I)B"⟩ : MethodName)) hown (mvT hZ (w_0 hw)) (mvT hZ (w_1 hw)) (mvT hZ (w_2 hw)) (mvT hZ (w_3 hw)) (by decide) (backOf (W := 0) (rm1 l Z a0 hw [] arg3 T57.heap n0 z58 ) hZ (w_3 hw) (w_2 hw) (by decide) (by decide)) (g := (mkF m 18 #[.val (.int arg0), .val (.int arg1), .val (.int arg2), .val (.int arg3), .val (.int (3 : Int32)), .val (.int z_55), .val (.int z_57), .unset, .unset, .unset] [(.int arg3)])) rfl (by rw [hml]; rfl) (argsL := [(.int arg3)]) (rest := []) (lenOf own_pd2 rfl) rfl (by show 2 * 0 + _ ≤ _; exact Nat.le_of_eq rfl) (hb hby at_18) (fun _ _ => ⟨rfl, rfl, (by decide : 2 + 1 ≤ _), (by decide : 20 + 10 ≤ _)⟩)
    dsimp only [Pt.U, Pt.locs, Pt.cells, Pt.slots] at X59 l59 y59_ z59_ st59 hQ59
    subst l59 y59_ z59_
    obtain ⟨z_59, rfl, N59q, K59, r59_0⟩ := hQ59
    have N59 := Fr.app N57 N59q
    have z60 : n0 ≤ T59.heap.size := Nat.le_trans z58 K59.1
    refine own_st (B := T59.setTop (mkF m 21 #[.val (.int arg0), .val (.int arg1), .val (.int arg2), .val (.int arg3), .val (.int (3 : Int32)), .val (.int z_55), .val (.int z_57), .unset, .unset, .unset] [(.int z_59)])) (fun t k => st59 t k) ?_
    refine own_st (B := T59.setTop (mkF m 23 #[.val (.int arg0), .val (.int arg1), .val (.int arg2), .val (.int arg3), .val (.int (3 : Int32)), .val (.int z_55), .val (.int z_57), .val (.int z_59), .unset, .unset] [])) (fun t k => XS.istore X59.here hx rfl (hb hby at_21) rfl (l' := #[.val (.int arg0), .val (.int arg1), .val (.int arg2), .val (.int arg3), .val (.int (3 : Int32)), .val (.int z_55), .val (.int z_57), .val (.int z_59), .unset, .unset]) rfl k) ?_
    refine own_st (B := T59.setTop (mkF m 25 #[.val (.int arg0), .val (.int arg1), .val (.int arg2), .val (.int arg3), .val (.int (3 : Int32)), .val (.int z_55), .val (.int z_57), .val (.int z_59), .unset, .unset] [(.int (3 : Int32))])) (fun t k => XS.iload X59.here hx rfl (hb hby at_23) rfl k) ?_
    obtain ⟨T61, h61, X61, e61, E61, A61, x61, st61⟩ := own_newP X59 hx hZ (aty := .byte) (w_4 hw) rfl (g := (mkF m 25 #[.val (.int arg0), .val (.int arg1), .val (.int arg2), .val (.int arg3), .val (.int (3 : Int32)), .val (.int z_55), .val (.int z_57), .val (.int z_59), .unset, .unset] [(.int (3 : Int32))])) rfl (hb hby at_25) (n := (3 : Int32)) (rest := []) rfl (k := 3) (cap := 3) (by decide) (Nat.le_refl _) (by decide) (by decide) (by decide) (ad := "[B") rfl
    obtain ⟨b61, g61⟩ : ∃ z, z = T59.heap.size := ⟨_, rfl⟩
    rw [← g61] at A61 x61 st61
    have u61 : n0 ≤ b61 := Nat.le_trans z60 (Nat.le_of_eq g61.symm)
    have z62 : n0 ≤ h61.size := Nat.le_trans z60 E61.1
    have f61_ : own_A Z h61 b61 .byte [(.int (0 : Int32)), (.int (0 : Int32)), (.int (0 : Int32))] := A61
    refine own_st (B := T61.setTop (mkF m 27 #[.val (.int arg0), .val (.int arg1), .val (.int arg2), .val (.int arg3), .val (.int (3 : Int32)), .val (.int z_55), .val (.int z_57), .val (.int z_59), .unset, .unset] [(.ref b61)])) (fun t k => st61 t k) ?_
    refine own_st (B := T61.setTop (mkF m 29 #[.val (.int arg0), .val (.int arg1), .val (.int arg2), .val (.int arg3), .val (.int (3 : Int32)), .val (.int z_55), .val (.int z_57), .val (.int z_59), .val (.ref b61), .unset] [])) (fun t k => XS.astore X61.here hx rfl (hb hby at_27) rfl rfl (l' := #[.val (.int arg0), .val (.int arg1), .val (.int arg2), .val (.int arg3), .val (.int (3 : Int32)), .val (.int z_55), .val (.int z_57), .val (.int z_59), .val (.ref b61), .unset]) rfl k) ?_
    refine own_st (B := T61.setTop (mkF m 31 #[.val (.int arg0), .val (.int arg1), .val (.int arg2), .val (.int arg3), .val (.int (3 : Int32)), .val (.int z_55), .val (.int z_57), .val (.int z_59), .val (.ref b61), .unset] [(.int (3 : Int32))])) (fun t k => XS.iload X61.here hx rfl (hb hby at_29) rfl k) ?_
    refine own_st (B := T61.setTop (mkF m 34 #[.val (.int arg0), .val (.int arg1), .val (.int arg2), .val (.int arg3), .val (.int (3 : Int32)), .val (.int z_55), .val (.int z_57), .val (.int z_59), .val (.ref b61), .unset] [])) (fun t k => XS.ifNo X61.here hx rfl (hb hby at_31) rfl (by decide) k) ?_
    refine own_st (B := T61.setTop (mkF m 36 #[.val (.int arg0), .val (.int arg1), .val (.int arg2), .val (.int arg3), .val (.int (3 : Int32)), .val (.int z_55), .val (.int z_57), .val (.int z_59), .val (.ref b61), .unset] [(.ref b61)])) (fun t k => XS.aload X61.here hx rfl (hb hby at_34) rfl rfl k) ?_
    refine own_st (B := T61.setTop (mkF m 37 #[.val (.int arg0), .val (.int arg1), .val (.int arg2), .val (.int arg3), .val (.int (3 : Int32)), .val (.int z_55), .val (.int z_57), .val (.int z_59), .val (.ref b61), .unset] [(.int (0 : Int32)), (.ref b61)])) (fun t k => XS.iconst X61.here hx rfl (hb hby at_36) k) ?_
    refine own_st (B := T61.setTop (mkF m 39 #[.val (.int arg0), .val (.int arg1), .val (.int arg2), .val (.int arg3), .val (.int (3 : Int32)), .val (.int z_55), .val (.int z_57), .val (.int z_59), .val (.ref b61), .unset] [(.int z_55), (.int (0 : Int32)), (.ref b61)])) (fun t k => XS.iload X61.here hx rfl (hb hby at_37) rfl k) ?_
    obtain ⟨T63, h63, X63, e63, W63, A63, st63⟩ := own_stB X61 hx hZ e61 f61_ (j := (0 : Int32)) (x := z_55) (i := 0) (by decide) (show 0 < 3 from by decide) (g := (mkF m 39 #[.val (.int arg0), .val (.int arg1), .val (.int arg2), .val (.int arg3), .val (.int (3 : Int32)), .val (.int z_55), .val (.int z_57), .val (.int z_59), .val (.ref b61), .unset] [(.int z_55), (.int (0 : Int32)), (.ref b61)])) rfl rfl (hb hby at_39)
    have f63_ : own_A Z h63 b61 .byte [(.int (z_55.toInt8.toInt32)), (.int (0 : Int32)), (.int (0 : Int32))] := A63
    have z64 : n0 ≤ h63.size := Nat.le_trans z62 (Keep.of_wr W63).1
    have n65 := Fr.snoc X63 N59 u61
    refine own_st (B := T63.setTop (mkF m 40 #[.val (.int arg0), .val (.int arg1), .val (.int arg2), .val (.int arg3), .val (.int (3 : Int32)), .val (.int z_55), .val (.int z_57), .val (.int z_59), .val (.ref b61), .unset] [])) (fun t k => st63 t k) ?_
    refine own_st (B := T63.setTop (mkF m 42 #[.val (.int arg0), .val (.int arg1), .val (.int arg2), .val (.int arg3), .val (.int (3 : Int32)), .val (.int z_55), .val (.int z_57), .val (.int z_59), .val (.ref b61), .unset] [(.int (3 : Int32))])) (fun t k => XS.iload X63.here hx rfl (hb hby at_40) rfl k) ?_
    refine own_st (B := T63.setTop (mkF m 43 #[.val (.int arg0), .val (.int arg1), .val (.int arg2), .val (.int arg3), .val (.int (3 : Int32)), .val (.int z_55), .val (.int z_57), .val (.int z_59), .val (.ref b61), .unset] [(.int (1 : Int32)), (.int (3 : Int32))])) (fun t k => XS.iconst X63.here hx rfl (hb hby at_42) k) ?_
    refine own_st (B := T63.setTop (mkF m 46 #[.val (.int arg0), .val (.int arg1), .val (.int arg2), .val (.int arg3), .val (.int (3 : Int32)), .val (.int z_55), .val (.int z_57), .val (.int z_59), .val (.ref b61), .unset] [])) (fun t k => XS.icmpNo X63.here hx rfl (hb hby at_43) rfl (by decide) k) ?_
    refine own_st (B := T63.setTop (mkF m 48 #[.val (.int arg0), .val (.int arg1), .val (.int arg2), .val (.int arg3), .val (.int (3 : Int32)), .val (.int z_55), .val (.int z_57), .val (.int z_59), .val (.ref b61), .unset] [(.ref b61)])) (fun t k => XS.aload X63.here hx rfl (hb hby at_46) rfl rfl k) ?_
    refine own_st (B := T63.setTop (mkF m 49 #[.val (.int arg0), .val (.int arg1), .val (.int arg2), .val (.int arg3), .val (.int (3 : Int32)), .val (.int z_55), .val (.int z_57), .val (.int z_59), .val (.ref b61), .unset] [(.int (1 : Int32)), (.ref b61)])) (fun t k => XS.iconst X63.here hx rfl (hb hby at_48) k) ?_
    refine own_st (B := T63.setTop (mkF m 51 #[.val (.int arg0), .val (.int arg1), .val (.int arg2), .val (.int arg3), .val (.int (3 : Int32)), .val (.int z_55), .val (.int z_57), .val (.int z_59), .val (.ref b61), .unset] [(.int z_57), (.int (1 : Int32)), (.ref b61)])) (fun t k => XS.iload X63.here hx rfl (hb hby at_49) rfl k) ?_
    obtain ⟨T66, h66, X66, e66, W66, A66, st66⟩ := own_stB X63 hx hZ e63 f63_ (j := (1 : Int32)) (x := z_57) (i := 1) (by decide) (show 1 < 3 from by decide) (g := (mkF m 51 #[.val (.int arg0), .val (.int arg1), .val (.int arg2), .val (.int arg3), .val (.int (3 : Int32)), .val (.int z_55), .val (.int z_57), .val (.int z_59), .val (.ref b61), .unset] [(.int z_57), (.int (1 : Int32)), (.ref b61)])) rfl rfl (hb hby at_51)
    have f66_ : own_A Z h66 b61 .byte [(.int (z_55.toInt8.toInt32)), (.int (z_57.toInt8.toInt32)), (.int (0 : Int32))] := A66
    have z67 : n0 ≤ h66.size := Nat.le_trans z64 (Keep.of_wr W66).1
    have n68 := Fr.snoc X66 n65 u61
    refine own_st (B := T66.setTop (mkF m 52 #[.val (.int arg0), .val (.int arg1), .val (.int arg2), .val (.int arg3), .val (.int (3 : Int32)), .val (.int z_55), .val (.int z_57), .val (.int z_59), .val (.ref b61), .unset] [])) (fun t k => st66 t k) ?_
    refine own_st (B := T66.setTop (mkF m 54 #[.val (.int arg0), .val (.int arg1), .val (.int arg2), .val (.int arg3), .val (.int (3 : Int32)), .val (.int z_55), .val (.int z_57), .val (.int z_59), .val (.ref b61), .unset] [(.int (3 : Int32))])) (fun t k => XS.iload X66.here hx rfl (hb hby at_52) rfl k) ?_
    refine own_st (B := T66.setTop (mkF m 55 #[.val (.int arg0), .val (.int arg1), .val (.int arg2), .val (.int arg3), .val (.int (3 : Int32)), .val (.int z_55), .val (.int z_57), .val (.int z_59), .val (.ref b61), .unset] [(.int (2 : Int32)), (.int (3 : Int32))])) (fun t k => XS.iconst X66.here hx rfl (hb hby at_54) k) ?_
    refine own_st (B := T66.setTop (mkF m 58 #[.val (.int arg0), .val (.int arg1), .val (.int arg2), .val (.int arg3), .val (.int (3 : Int32)), .val (.int z_55), .val (.int z_57), .val (.int z_59), .val (.ref b61), .unset] [])) (fun t k => XS.icmpNo X66.here hx rfl (hb hby at_55) rfl (by decide) k) ?_
    refine own_st (B := T66.setTop (mkF m 60 #[.val (.int arg0), .val (.int arg1), .val (.int arg2), .val (.int arg3), .val (.int (3 : Int32)), .val (.int z_55), .val (.int z_57), .val (.int z_59), .val (.ref b61), .unset] [(.ref b61)])) (fun t k => XS.aload X66.here hx rfl (hb hby at_58) rfl rfl k) ?_
    refine own_st (B := T66.setTop (mkF m 61 #[.val (.int arg0), .val (.int arg1), .val (.int arg2), .val (.int arg3), .val (.int (3 : Int32)), .val (.int z_55), .val (.int z_57), .val (.int z_59), .val (.ref b61), .unset] [(.int (2 : Int32)), (.ref b61)])) (fun t k => XS.iconst X66.here hx rfl (hb hby at_60) k) ?_
    refine own_st (B := T66.setTop (mkF m 63 #[.val (.int arg0), .val (.int arg1), .val (.int arg2), .val (.int arg3), .val (.int (3 : Int32)), .val (.int z_55), .val (.int z_57), .val (.int z_59), .val (.ref b61), .unset] [(.int z_59), (.int (2 : Int32)), (.ref b61)])) (fun t k => XS.iload X66.here hx rfl (hb hby at_61) rfl k) ?_
    obtain ⟨T69, h69, X69, e69, W69, A69, st69⟩ := own_stB X66 hx hZ e66 f66_ (j := (2 : Int32)) (x := z_59) (i := 2) (by decide) (show 2 < 3 from by decide) (g := (mkF m 63 #[.val (.int arg0), .val (.int arg1), .val (.int arg2), .val (.int arg3), .val (.int (3 : Int32)), .val (.int z_55), .val (.int z_57), .val (.int z_59), .val (.ref b61), .unset] [(.int z_59), (.int (2 : Int32)), (.ref b61)])) rfl rfl (hb hby at_63)
    have f69_ : own_A Z h69 b61 .byte [(.int (z_55.toInt8.toInt32)), (.int (z_57.toInt8.toInt32)), (.int (z_59.toInt8.toInt32))] := A69
    have z70 : n0 ≤ h69.size := Nat.le_trans z67 (Keep.of_wr W69).1
    have n71 := Fr.snoc X69 n68 u61
    refine own_st (B := T69.setTop (mkF m 64 #[.val (.int arg0), .val (.int arg1), .val (.int arg2), .val (.int arg3), .val (.int (3 : Int32)), .val (.int z_55), .val (.int z_57), .val (.int z_59), .val (.ref b61), .unset] [])) (fun t k => st69 t k) ?_
    refine own_st (B := T69.setTop (mkF m 65 #[.val (.int arg0), .val (.int arg1), .val (.int arg2), .val (.int arg3), .val (.int (3 : Int32)), .val (.int z_55), .val (.int z_57), .val (.int z_59), .val (.ref b61), .unset] [(.int (-1 : Int32))])) (fun t k => XS.iconst X69.here hx rfl (hb hby at_64) k) ?_
    refine own_st (B := T69.setTop (mkF m 67 #[.val (.int arg0), .val (.int arg1), .val (.int arg2), .val (.int arg3), .val (.int (3 : Int32)), .val (.int z_55), .val (.int z_57), .val (.int z_59), .val (.ref b61), .val (.int (-1 : Int32))] [])) (fun t k => XS.istore X69.here hx rfl (hb hby at_65) rfl (l' := #[.val (.int arg0), .val (.int arg1), .val (.int arg2), .val (.int arg3), .val (.int (3 : Int32)), .val (.int z_55), .val (.int z_57), .val (.int z_59), .val (.ref b61), .val (.int (-1 : Int32))]) rfl k) ?_
    refine own_st (B := T69.setTop (mkF m 69 #[.val (.int arg0), .val (.int arg1), .val (.int arg2), .val (.int arg3), .val (.int (3 : Int32)), .val (.int z_55), .val (.int z_57), .val (.int z_59), .val (.ref b61), .val (.int (-1 : Int32))] [(.int (3 : Int32))])) (fun t k => XS.iload X69.here hx rfl (hb hby at_67) rfl k) ?_
    refine own_st (B := T69.setTop (mkF m 70 #[.val (.int arg0), .val (.int arg1), .val (.int arg2), .val (.int arg3), .val (.int (3 : Int32)), .val (.int z_55), .val (.int z_57), .val (.int z_59), .val (.ref b61), .val (.int (-1 : Int32))] [(.int (2 : Int32)), (.int (3 : Int32))])) (fun t k => XS.iconst X69.here hx rfl (hb hby at_69) k) ?_
    refine own_st (B := T69.setTop (mkF m 73 #[.val (.int arg0), .val (.int arg1), .val (.int arg2), .val (.int arg3), .val (.int (3 : Int32)), .val (.int z_55), .val (.int z_57), .val (.int z_59), .val (.ref b61), .val (.int (-1 : Int32))] [])) (fun t k => XS.icmpNo X69.here hx rfl (hb hby at_70) rfl (by decide) k) ?_
    refine own_st (B := T69.setTop (mkF m 75 #[.val (.int arg0), .val (.int arg1), .val (.int arg2), .val (.int arg3), .val (.int (3 : Int32)), .val (.int z_55), .val (.int z_57), .val (.int z_59), .val (.ref b61), .val (.int (-1 : Int32))] [(.int z_59)])) (fun t k => XS.iload X69.here hx rfl (hb hby at_73) rfl k) ?_
    obtain ⟨_, _, ⟨T72, L72, k72, j72⟩, -, X72, ⟨Lc72, hQ72, l72, y72_, z72_⟩, st72⟩ := Jvm.LawKit.callS X69 hx (y := (⟨"com/example/crossplan/crossplan/client/ClientTextFirstCharacterPinLaw", "skipped", "(B)Z"⟩ : MethodName)) hown (mvT hZ (w_10 hw)) (mvT hZ (w_11 hw)) (mvT hZ (w_2 hw)) (mvT hZ (w_12 hw)) (by decide) (backOf (W := 0) (rm3 l Z a0 hw [] z_59 h69 n0 z70 ) hZ (w_12 hw) (w_2 hw) (by decide) (by decide)) (g := (mkF m 75 #[.val (.int arg0), .val (.int arg1), .val (.int arg2), .val (.int arg3), .val (.int (3 : Int32)), .val (.int z_55), .val (.int z_57), .val (.int z_59), .val (.ref b61), .val (.int (-1 : Int32))] [(.int z_59)])) rfl (by rw [hml]; rfl) (argsL := [(.int z_59)]) (rest := []) (lenOf own_pd4 rfl) rfl (by show 2 * 0 + _ ≤ _; exact Nat.le_of_eq rfl) (hb hby at_75) (fun _ _ => ⟨rfl, e69, (by decide : 4 + 0 ≤ _), (by decide : 33 + 0 ≤ _)⟩)
    dsimp only [Pt.U, Pt.locs, Pt.cells, Pt.slots] at X72 l72 y72_ z72_ st72 hQ72
    subst l72 y72_ z72_
    obtain ⟨rfl, N72q, e72q⟩ := hQ72
    have N72 := Fr.app n71 N72q
    refine own_st (B := T72.setTop (mkF m 78 #[.val (.int arg0), .val (.int arg1), .val (.int arg2), .val (.int arg3), .val (.int (3 : Int32)), .val (.int z_55), .val (.int z_57), .val (.int z_59), .val (.ref b61), .val (.int (-1 : Int32))] [(.int (own_f3 z_59))])) (fun t k => st72 t k) ?_
    refine own_cut (P := ∀ (v75 : Int32), (v75 = (if (own_f3 z_59) = (0 : Int32) then (z_59 &&& (255 : Int32)) else (-1 : Int32))) → own_Go p e below s (Q0 Z arg0 arg1 arg2 arg3 h0 n0) 16 192 (T72.setTop (mkF m 89 #[.val (.int arg0), .val (.int arg1), .val (.int arg2), .val (.int arg3), .val (.int (3 : Int32)), .val (.int z_55), .val (.int z_57), .val (.int z_59), .val (.ref b61), .val (.int v75)] []))) (fun J76 => ?_) ?_
    · by_cases hc73 : (own_f3 z_59) = (0 : Int32)
      · refine own_st (B := T72.setTop (mkF m 81 #[.val (.int arg0), .val (.int arg1), .val (.int arg2), .val (.int arg3), .val (.int (3 : Int32)), .val (.int z_55), .val (.int z_57), .val (.int z_59), .val (.ref b61), .val (.int (-1 : Int32))] [])) (fun t k => XS.ifNo X72.here hx rfl (hb hby at_78) rfl (XT.i0_ne_f hc73) k) ?_
        refine own_st (B := T72.setTop (mkF m 83 #[.val (.int arg0), .val (.int arg1), .val (.int arg2), .val (.int arg3), .val (.int (3 : Int32)), .val (.int z_55), .val (.int z_57), .val (.int z_59), .val (.ref b61), .val (.int (-1 : Int32))] [(.int z_59)])) (fun t k => XS.iload X72.here hx rfl (hb hby at_81) rfl k) ?_
        refine own_st (B := T72.setTop (mkF m 86 #[.val (.int arg0), .val (.int arg1), .val (.int arg2), .val (.int arg3), .val (.int (3 : Int32)), .val (.int z_55), .val (.int z_57), .val (.int z_59), .val (.ref b61), .val (.int (-1 : Int32))] [(.int (255 : Int32)), (.int z_59)])) (fun t k => XS.sipush X72.here hx rfl (hb hby at_83) k) ?_
        refine own_st (B := T72.setTop (mkF m 87 #[.val (.int arg0), .val (.int arg1), .val (.int arg2), .val (.int arg3), .val (.int (3 : Int32)), .val (.int z_55), .val (.int z_57), .val (.int z_59), .val (.ref b61), .val (.int (-1 : Int32))] [(.int (z_59 &&& (255 : Int32)))])) (fun t k => XS.iand X72.here hx rfl (hb hby at_86) rfl k) ?_
        obtain ⟨v74, ev74⟩ : ∃ z : Int32, z = (z_59 &&& (255 : Int32)) := ⟨_, rfl⟩
        rw [← ev74]
        refine own_st (B := T72.setTop (mkF m 89 #[.val (.int arg0), .val (.int arg1), .val (.int arg2), .val (.int arg3), .val (.int (3 : Int32)), .val (.int z_55), .val (.int z_57), .val (.int z_59), .val (.ref b61), .val (.int v74)] [])) (fun t k => XS.istore X72.here hx rfl (hb hby at_87) rfl (l' := #[.val (.int arg0), .val (.int arg1), .val (.int arg2), .val (.int arg3), .val (.int (3 : Int32)), .val (.int z_55), .val (.int z_57), .val (.int z_59), .val (.ref b61), .val (.int v74)]) rfl k) ?_
        exact J76 v74 (by subst v74; rw [if_pos hc73])
      · refine own_st (B := T72.setTop (mkF m 89 #[.val (.int arg0), .val (.int arg1), .val (.int arg2), .val (.int arg3), .val (.int (3 : Int32)), .val (.int z_55), .val (.int z_57), .val (.int z_59), .val (.ref b61), .val (.int (-1 : Int32))] [])) (fun t k => XS.ifYes X72.here hx rfl (pc0 := 78) (pc' := 89) rfl (hb hby at_78) rfl (XT.i0_ne_t hc73) (by decide) (by decide) k) ?_
        exact J76 (-1 : Int32) (by rw [if_neg hc73])
    intro v75 hv75
    refine own_st (B := T72.setTop (mkF m 91 #[.val (.int arg0), .val (.int arg1), .val (.int arg2), .val (.int arg3), .val (.int (3 : Int32)), .val (.int z_55), .val (.int z_57), .val (.int z_59), .val (.ref b61), .val (.int v75)] [(.int (3 : Int32))])) (fun t k => XS.iload X72.here hx rfl (hb hby at_89) rfl k) ?_
    refine own_st (B := T72.setTop (mkF m 92 #[.val (.int arg0), .val (.int arg1), .val (.int arg2), .val (.int arg3), .val (.int (3 : Int32)), .val (.int z_55), .val (.int z_57), .val (.int z_59), .val (.ref b61), .val (.int v75)] [(.int (1 : Int32)), (.int (3 : Int32))])) (fun t k => XS.iconst X72.here hx rfl (hb hby at_91) k) ?_
    refine own_st (B := T72.setTop (mkF m 95 #[.val (.int arg0), .val (.int arg1), .val (.int arg2), .val (.int arg3), .val (.int (3 : Int32)), .val (.int z_55), .val (.int z_57), .val (.int z_59), .val (.ref b61), .val (.int v75)] [])) (fun t k => XS.icmpNo X72.here hx rfl (hb hby at_92) rfl (by decide) k) ?_
    refine own_st (B := T72.setTop (mkF m 97 #[.val (.int arg0), .val (.int arg1), .val (.int arg2), .val (.int arg3), .val (.int (3 : Int32)), .val (.int z_55), .val (.int z_57), .val (.int z_59), .val (.ref b61), .val (.int v75)] [(.int z_57)])) (fun t k => XS.iload X72.here hx rfl (hb hby at_95) rfl k) ?_
    obtain ⟨_, _, ⟨T77, L77, k77, j77⟩, -, X77, ⟨Lc77, hQ77, l77, y77_, z77_⟩, st77⟩ := Jvm.LawKit.callS X72 hx (y := (⟨"com/example/crossplan/crossplan/client/ClientTextFirstCharacterPinLaw", "skipped", "(B)Z"⟩ : MethodName)) hown (mvT hZ (w_10 hw)) (mvT hZ (w_11 hw)) (mvT hZ (w_2 hw)) (mvT hZ (w_12 hw)) (by decide) (backOf (W := 0) (rm3 l Z a0 hw [] z_57 h69 n0 z70 ) hZ (w_12 hw) (w_2 hw) (by decide) (by decide)) (g := (mkF m 97 #[.val (.int arg0), .val (.int arg1), .val (.int arg2), .val (.int arg3), .val (.int (3 : Int32)), .val (.int z_55), .val (.int z_57), .val (.int z_59), .val (.ref b61), .val (.int v75)] [(.int z_57)])) rfl (by rw [hml]; rfl) (argsL := [(.int z_57)]) (rest := []) (lenOf own_pd4 rfl) rfl (by show 2 * 0 + _ ≤ _; exact Nat.le_of_eq rfl) (hb hby at_97) (fun _ _ => ⟨rfl, e72q, (by decide : 4 + 0 ≤ _), (by decide : 33 + 0 ≤ _)⟩)
    dsimp only [Pt.U, Pt.locs, Pt.cells, Pt.slots] at X77 l77 y77_ z77_ st77 hQ77
    subst l77 y77_ z77_
    obtain ⟨rfl, N77q, e77q⟩ := hQ77
    have N77 := Fr.app N72 N77q
    refine own_st (B := T77.setTop (mkF m 100 #[.val (.int arg0), .val (.int arg1), .val (.int arg2), .val (.int arg3), .val (.int (3 : Int32)), .val (.int z_55), .val (.int z_57), .val (.int z_59), .val (.ref b61), .val (.int v75)] [(.int (own_f3 z_57))])) (fun t k => st77 t k) ?_
    refine own_cut (P := ∀ (v80 : Int32), (v80 = (if (own_f3 z_57) = (0 : Int32) then (z_57 &&& (255 : Int32)) else v75)) → own_Go p e below s (Q0 Z arg0 arg1 arg2 arg3 h0 n0) 16 192 (T77.setTop (mkF m 111 #[.val (.int arg0), .val (.int arg1), .val (.int arg2), .val (.int arg3), .val (.int (3 : Int32)), .val (.int z_55), .val (.int z_57), .val (.int z_59), .val (.ref b61), .val (.int v80)] []))) (fun J81 => ?_) ?_
    · by_cases hc78 : (own_f3 z_57) = (0 : Int32)
      · refine own_st (B := T77.setTop (mkF m 103 #[.val (.int arg0), .val (.int arg1), .val (.int arg2), .val (.int arg3), .val (.int (3 : Int32)), .val (.int z_55), .val (.int z_57), .val (.int z_59), .val (.ref b61), .val (.int v75)] [])) (fun t k => XS.ifNo X77.here hx rfl (hb hby at_100) rfl (XT.i0_ne_f hc78) k) ?_
        refine own_st (B := T77.setTop (mkF m 105 #[.val (.int arg0), .val (.int arg1), .val (.int arg2), .val (.int arg3), .val (.int (3 : Int32)), .val (.int z_55), .val (.int z_57), .val (.int z_59), .val (.ref b61), .val (.int v75)] [(.int z_57)])) (fun t k => XS.iload X77.here hx rfl (hb hby at_103) rfl k) ?_
        refine own_st (B := T77.setTop (mkF m 108 #[.val (.int arg0), .val (.int arg1), .val (.int arg2), .val (.int arg3), .val (.int (3 : Int32)), .val (.int z_55), .val (.int z_57), .val (.int z_59), .val (.ref b61), .val (.int v75)] [(.int (255 : Int32)), (.int z_57)])) (fun t k => XS.sipush X77.here hx rfl (hb hby at_105) k) ?_
        refine own_st (B := T77.setTop (mkF m 109 #[.val (.int arg0), .val (.int arg1), .val (.int arg2), .val (.int arg3), .val (.int (3 : Int32)), .val (.int z_55), .val (.int z_57), .val (.int z_59), .val (.ref b61), .val (.int v75)] [(.int (z_57 &&& (255 : Int32)))])) (fun t k => XS.iand X77.here hx rfl (hb hby at_108) rfl k) ?_
        obtain ⟨v79, ev79⟩ : ∃ z : Int32, z = (z_57 &&& (255 : Int32)) := ⟨_, rfl⟩
        rw [← ev79]
        refine own_st (B := T77.setTop (mkF m 111 #[.val (.int arg0), .val (.int arg1), .val (.int arg2), .val (.int arg3), .val (.int (3 : Int32)), .val (.int z_55), .val (.int z_57), .val (.int z_59), .val (.ref b61), .val (.int v79)] [])) (fun t k => XS.istore X77.here hx rfl (hb hby at_109) rfl (l' := #[.val (.int arg0), .val (.int arg1), .val (.int arg2), .val (.int arg3), .val (.int (3 : Int32)), .val (.int z_55), .val (.int z_57), .val (.int z_59), .val (.ref b61), .val (.int v79)]) rfl k) ?_
        exact J81 v79 (by subst v79; rw [if_pos hc78])
      · refine own_st (B := T77.setTop (mkF m 111 #[.val (.int arg0), .val (.int arg1), .val (.int arg2), .val (.int arg3), .val (.int (3 : Int32)), .val (.int z_55), .val (.int z_57), .val (.int z_59), .val (.ref b61), .val (.int v75)] [])) (fun t k => XS.ifYes X77.here hx rfl (pc0 := 100) (pc' := 111) rfl (hb hby at_100) rfl (XT.i0_ne_t hc78) (by decide) (by decide) k) ?_
        exact J81 v75 (by rw [if_neg hc78])
    intro v80 hv80
    refine own_st (B := T77.setTop (mkF m 113 #[.val (.int arg0), .val (.int arg1), .val (.int arg2), .val (.int arg3), .val (.int (3 : Int32)), .val (.int z_55), .val (.int z_57), .val (.int z_59), .val (.ref b61), .val (.int v80)] [(.int (3 : Int32))])) (fun t k => XS.iload X77.here hx rfl (hb hby at_111) rfl k) ?_
    refine own_st (B := T77.setTop (mkF m 116 #[.val (.int arg0), .val (.int arg1), .val (.int arg2), .val (.int arg3), .val (.int (3 : Int32)), .val (.int z_55), .val (.int z_57), .val (.int z_59), .val (.ref b61), .val (.int v80)] [])) (fun t k => XS.ifNo X77.here hx rfl (hb hby at_113) rfl (by decide) k) ?_
    refine own_st (B := T77.setTop (mkF m 118 #[.val (.int arg0), .val (.int arg1), .val (.int arg2), .val (.int arg3), .val (.int (3 : Int32)), .val (.int z_55), .val (.int z_57), .val (.int z_59), .val (.ref b61), .val (.int v80)] [(.int z_55)])) (fun t k => XS.iload X77.here hx rfl (hb hby at_116) rfl k) ?_
    obtain ⟨_, _, ⟨T82, L82, k82, j82⟩, -, X82, ⟨Lc82, hQ82, l82, y82_, z82_⟩, st82⟩ := Jvm.LawKit.callS X77 hx (y := (⟨"com/example/crossplan/crossplan/client/ClientTextFirstCharacterPinLaw", "skipped", "(B)Z"⟩ : MethodName)) hown (mvT hZ (w_10 hw)) (mvT hZ (w_11 hw)) (mvT hZ (w_2 hw)) (mvT hZ (w_12 hw)) (by decide) (backOf (W := 0) (rm3 l Z a0 hw [] z_55 h69 n0 z70 ) hZ (w_12 hw) (w_2 hw) (by decide) (by decide)) (g := (mkF m 118 #[.val (.int arg0), .val (.int arg1), .val (.int arg2), .val (.int arg3), .val (.int (3 : Int32)), .val (.int z_55), .val (.int z_57), .val (.int z_59), .val (.ref b61), .val (.int v80)] [(.int z_55)])) rfl (by rw [hml]; rfl) (argsL := [(.int z_55)]) (rest := []) (lenOf own_pd4 rfl) rfl (by show 2 * 0 + _ ≤ _; exact Nat.le_of_eq rfl) (hb hby at_118) (fun _ _ => ⟨rfl, e77q, (by decide : 4 + 0 ≤ _), (by decide : 33 + 0 ≤ _)⟩)
    dsimp only [Pt.U, Pt.locs, Pt.cells, Pt.slots] at X82 l82 y82_ z82_ st82 hQ82
    subst l82 y82_ z82_
    obtain ⟨rfl, N82q, e82q⟩ := hQ82
    have N82 := Fr.app N77 N82q
    refine own_st (B := T82.setTop (mkF m 121 #[.val (.int arg0), .val (.int arg1), .val (.int arg2), .val (.int arg3), .val (.int (3 : Int32)), .val (.int z_55), .val (.int z_57), .val (.int z_59), .val (.ref b61), .val (.int v80)] [(.int (own_f3 z_55))])) (fun t k => st82 t k) ?_
    refine own_cut (P := ∀ (v85 : Int32), (v85 = (if (own_f3 z_55) = (0 : Int32) then (z_55 &&& (255 : Int32)) else v80)) → own_Go p e below s (Q0 Z arg0 arg1 arg2 arg3 h0 n0) 16 192 (T82.setTop (mkF m 132 #[.val (.int arg0), .val (.int arg1), .val (.int arg2), .val (.int arg3), .val (.int (3 : Int32)), .val (.int z_55), .val (.int z_57), .val (.int z_59), .val (.ref b61), .val (.int v85)] []))) (fun J86 => ?_) ?_
    · by_cases hc83 : (own_f3 z_55) = (0 : Int32)
      · refine own_st (B := T82.setTop (mkF m 124 #[.val (.int arg0), .val (.int arg1), .val (.int arg2), .val (.int arg3), .val (.int (3 : Int32)), .val (.int z_55), .val (.int z_57), .val (.int z_59), .val (.ref b61), .val (.int v80)] [])) (fun t k => XS.ifNo X82.here hx rfl (hb hby at_121) rfl (XT.i0_ne_f hc83) k) ?_
        refine own_st (B := T82.setTop (mkF m 126 #[.val (.int arg0), .val (.int arg1), .val (.int arg2), .val (.int arg3), .val (.int (3 : Int32)), .val (.int z_55), .val (.int z_57), .val (.int z_59), .val (.ref b61), .val (.int v80)] [(.int z_55)])) (fun t k => XS.iload X82.here hx rfl (hb hby at_124) rfl k) ?_
        refine own_st (B := T82.setTop (mkF m 129 #[.val (.int arg0), .val (.int arg1), .val (.int arg2), .val (.int arg3), .val (.int (3 : Int32)), .val (.int z_55), .val (.int z_57), .val (.int z_59), .val (.ref b61), .val (.int v80)] [(.int (255 : Int32)), (.int z_55)])) (fun t k => XS.sipush X82.here hx rfl (hb hby at_126) k) ?_
        refine own_st (B := T82.setTop (mkF m 130 #[.val (.int arg0), .val (.int arg1), .val (.int arg2), .val (.int arg3), .val (.int (3 : Int32)), .val (.int z_55), .val (.int z_57), .val (.int z_59), .val (.ref b61), .val (.int v80)] [(.int (z_55 &&& (255 : Int32)))])) (fun t k => XS.iand X82.here hx rfl (hb hby at_129) rfl k) ?_
        obtain ⟨v84, ev84⟩ : ∃ z : Int32, z = (z_55 &&& (255 : Int32)) := ⟨_, rfl⟩
        rw [← ev84]
        refine own_st (B := T82.setTop (mkF m 132 #[.val (.int arg0), .val (.int arg1), .val (.int arg2), .val (.int arg3), .val (.int (3 : Int32)), .val (.int z_55), .val (.int z_57), .val (.int z_59), .val (.ref b61), .val (.int v84)] [])) (fun t k => XS.istore X82.here hx rfl (hb hby at_130) rfl (l' := #[.val (.int arg0), .val (.int arg1), .val (.int arg2), .val (.int arg3), .val (.int (3 : Int32)), .val (.int z_55), .val (.int z_57), .val (.int z_59), .val (.ref b61), .val (.int v84)]) rfl k) ?_
        exact J86 v84 (by subst v84; rw [if_pos hc83])
      · refine own_st (B := T82.setTop (mkF m 132 #[.val (.int arg0), .val (.int arg1), .val (.int arg2), .val (.int arg3), .val (.int (3 : Int32)), .val (.int z_55), .val (.int z_57), .val (.int z_59), .val (.ref b61), .val (.int v80)] [])) (fun t k => XS.ifYes X82.here hx rfl (pc0 := 121) (pc' := 132) rfl (hb hby at_121) rfl (XT.i0_ne_t hc83) (by decide) (by decide) k) ?_
        exact J86 v80 (by rw [if_neg hc83])
    intro v85 hv85
    refine own_st (B := T82.setTop (mkF m 134 #[.val (.int arg0), .val (.int arg1), .val (.int arg2), .val (.int arg3), .val (.int (3 : Int32)), .val (.int z_55), .val (.int z_57), .val (.int z_59), .val (.ref b61), .val (.int v85)] [(.ref b61)])) (fun t k => XS.aload X82.here hx rfl (hb hby at_132) rfl rfl k) ?_
    obtain ⟨_, _, ⟨T87, L87, k87, j87⟩, -, X87, ⟨Lc87, hQ87, l87, y87_, z87_⟩, st87⟩ := Jvm.LawKit.callS X82 hx (y := (⟨"com/example/crossplan/crossplan/client/ClientText", "firstCharacter", "([B)I"⟩ : MethodName)) hown (mvT hZ (w_6 hw)) (mvT hZ (w_7 hw)) (mvT hZ (w_8 hw)) (mvT hZ (w_9 hw)) (by decide) (backOf (W := 0) (rm2 l Z a0 hw [] b61 [(z_55.toInt8.toInt32), (z_57.toInt8.toInt32), (z_59.toInt8.toInt32)] h69 n0 z70 f69_ (show 3 < 1000 from by decide)) hZ (w_9 hw) (w_8 hw) (by decide) (by decide)) (g := (mkF m 134 #[.val (.int arg0), .val (.int arg1), .val (.int arg2), .val (.int arg3), .val (.int (3 : Int32)), .val (.int z_55), .val (.int z_57), .val (.int z_59), .val (.ref b61), .val (.int v85)] [(.ref b61)])) rfl (by rw [hml]; rfl) (argsL := [(.ref b61)]) (rest := []) (lenOf own_pd3 rfl) rfl (by show 2 * 0 + _ ≤ _; exact Nat.le_of_eq rfl) (hb hby at_134) (fun _ _ => ⟨rfl, e82q, (by decide : 4 + 0 ≤ _), (by decide : 33 + 0 ≤ _)⟩)
    dsimp only [Pt.U, Pt.locs, Pt.cells, Pt.slots] at X87 l87 y87_ z87_ st87 hQ87
    subst l87 y87_ z87_
    obtain ⟨rfl, N87q, e87q⟩ := hQ87
    have N87 := Fr.app N82 N87q
    refine own_st (B := T87.setTop (mkF m 137 #[.val (.int arg0), .val (.int arg1), .val (.int arg2), .val (.int arg3), .val (.int (3 : Int32)), .val (.int z_55), .val (.int z_57), .val (.int z_59), .val (.ref b61), .val (.int v85)] [(.int (own_first [(z_55.toInt8.toInt32), (z_57.toInt8.toInt32), (z_59.toInt8.toInt32)]))])) (fun t k => st87 t k) ?_
    refine own_st (B := T87.setTop (mkF m 139 #[.val (.int arg0), .val (.int arg1), .val (.int arg2), .val (.int arg3), .val (.int (3 : Int32)), .val (.int z_55), .val (.int z_57), .val (.int z_59), .val (.ref b61), .val (.int v85)] [(.int v85), (.int (own_first [(z_55.toInt8.toInt32), (z_57.toInt8.toInt32), (z_59.toInt8.toInt32)]))])) (fun t k => XS.iload X87.here hx rfl (hb hby at_137) rfl k) ?_
    have hc88 : (own_first [(z_55.toInt8.toInt32), (z_57.toInt8.toInt32), (z_59.toInt8.toInt32)]) = v85 := by
      exact (own_chain r55_0 (own_chain r57_0 (own_chain r59_0 rfl hv75) hv80) hv85)
    refine own_st (B := T87.setTop (mkF m 142 #[.val (.int arg0), .val (.int arg1), .val (.int arg2), .val (.int arg3), .val (.int (3 : Int32)), .val (.int z_55), .val (.int z_57), .val (.int z_59), .val (.ref b61), .val (.int v85)] [])) (fun t k => XS.icmpNo X87.here hx rfl (hb hby at_139) rfl (XT.ii_ne_f hc88) k) ?_
    refine own_st (B := T87.setTop (mkF m 143 #[.val (.int arg0), .val (.int arg1), .val (.int arg2), .val (.int arg3), .val (.int (3 : Int32)), .val (.int z_55), .val (.int z_57), .val (.int z_59), .val (.ref b61), .val (.int v85)] [(.int (1 : Int32))])) (fun t k => XS.iconst X87.here hx rfl (hb hby at_142) k) ?_
    refine own_st (B := T87.setTop (mkF m 147 #[.val (.int arg0), .val (.int arg1), .val (.int arg2), .val (.int arg3), .val (.int (3 : Int32)), .val (.int z_55), .val (.int z_57), .val (.int z_59), .val (.ref b61), .val (.int v85)] [(.int (1 : Int32))])) (fun t k => XS.goto X87.here hx rfl (pc0 := 143) (pc' := 147) rfl (hb hby at_143) (by decide) (by decide) k) ?_
    refine own_retN X87 hx hlk (t := .boolean) Bd.returns (by simp) (z' := (1 : Int32)) rfl (hb hby at_147) (by decide) (by decide) ?_
    show Q0 Z arg0 arg1 arg2 arg3 h0 n0 _ T87.heap _
    rw [e87q]
    exact ⟨rfl, N87⟩
set_option maxHeartbeats 40000000 in
theorem comes_1 {Post : Tables → Env → Array Value → State → Outcome → State → Prop} (hpost : ∀ tb e args s v u, (limb_1_1.after args s (.returned v) u = true ∧ limb_1_2.after args s (.returned v) u = true ∧ True) → FrameEnd s (.returned v) u (Jvm.fieldLocs frame_1_writes args s ++ Jvm.arrayLocs frame_1_arrays args s ++ Jvm.staticLocs frame_1_statics s) 16 192 → Post tb e args s (.returned v) u) :
    ArmFor flags0 classFile x code maxLocals ret World_1 tables_1 room_1 Calls_1 rest_1 Pre_1 Post := by
  intro l hfl _ _ p e ha hc hk s m args below hf hA hF happ hP
  obtain ⟨hcalls, hrest, hpre⟩ := hP
  obtain ⟨-, -, -, hnamed, -, -, -, hat⟩ := (Spec.applies_iff hf).mp happ
  obtain ⟨hg, hn⟩ := and_e (Cond.before_iff.mp (show (Jvm.Cond.and given_1 narrow_1).before args s = true from hpre))
  obtain ⟨g1a, g1b⟩ := and_e hg
  obtain ⟨g2a, g2b⟩ := and_e g1b
  obtain ⟨g3a, g3b⟩ := and_e g2b
  obtain ⟨g4a, g4b⟩ := and_e g3b
  obtain ⟨w0, w1, w2, w3, rfl⟩ : ∃ w0 w1 w2 w3 : Value, args = #[w0, w1, w2, w3] := by
    have hs : args.size = 4 := by simpa [Cond.value, given_1] using g1a
    obtain ⟨L⟩ := args
    match L, hs with
    | [w0, w1, w2, w3], _ => exact ⟨w0, w1, w2, w3, rfl⟩
  have hw := fun d (hd : d ∈ tables_1) => atoms_spec (ws := Jvm.Cond.code x code maxLocals ret :: tables_1) hat d (List.mem_cons_of_mem _ hd)
  have hfit : Fit s := fun {y c} hc i hi => by
    obtain ⟨ha, rfl⟩ := Array.getElem?_eq_some_iff.mp hc
    have q := List.all_eq_true.mp ((Array.all_eq_true_iff_forall_mem.mp hF) _ (Array.getElem_mem ha)) i (List.mem_range.mpr hi)
    simpa [Array.getElem?_eq_getElem hi] using q
  obtain ⟨i0, ei0⟩ := is_v g2a
  obtain rfl : w0 = (.int i0) := Option.some.inj ei0
  obtain ⟨i1, ei1⟩ := is_v g3a
  obtain rfl : w1 = (.int i1) := Option.some.inj ei1
  obtain ⟨i2, ei2⟩ := is_v g4a
  obtain rfl : w2 = (.int i2) := Option.some.inj ei2
  obtain ⟨i3, ei3⟩ := is_v g4b
  obtain rfl : w3 = (.int i3) := Option.some.inj ei3
  obtain ⟨n, o, h1, h2, h3, _, L, rfl, ⟨rfl, N⟩, hq⟩ := rm0 l s _ hw tables_1 i0 i1 i2 i3 s.heap s.heap.size (Nat.le_refl _)  p e ha hc hk s m _ below hf ((Spec.applies_iff_loose hf).mp happ).1 ⟨rfl, State.Warmed39.refl s, rfl⟩ trivial
  refine ⟨n, _, h1, h2, h3, hpost _ _ _ _ _ _ ⟨Cond.after_iff.mpr rfl, Cond.after_iff.mpr (eq_i res_at (Term.int_eval (1)) rfl), trivial⟩ ⟨hq.1, hq.2.1, (hq.2.2.sift fun y hy => Or.inr (N y hy)).mono (by decide) (by decide)⟩⟩
theorem main_1_1 : Claimed_1_1 := comes_1 fun _ _ _ _ _ _ h hF => ⟨h.1, hF⟩
theorem main_1_2 : Claimed_1_2 := comes_1 fun _ _ _ _ _ _ h hF => ⟨h.2.1, hF⟩
end Jvm.Pilot.@@N@@
namespace Jvm.Pilot.@@N@@
open Jvm Jvm.ClassFile Sem Op Lib Jvm.Free Jvm.Stand Jvm.Pilot.@@N@@.Jvm.D
/-! MADE BY PROGRAM (witnessworld.py) out of the Statement's table words and the real class files: 9 classes; the members and pool entries that the words name. The judged class is class 1, her method 3. -/
namespace start1
open Jvm.ClassFile
def u (s : String) : CpInfo := .utf8 (stringToUtf16 s)
/-- a pool by its gaps: so many unusable entries, then the entry; so many at the end -/
def gap : Nat → List CpInfo → List CpInfo
  | 0, r => r
  | n + 1, r => .unusable :: gap n r
def poolList (es : List (Nat × CpInfo)) (last : Nat) : List CpInfo := es.foldr (fun e r => gap e.1 (e.2 :: r)) (gap last [])
def pool (es : List (Nat × CpInfo)) (last : Nat) : Array CpInfo := ⟨poolList es last⟩
def fileOf (pool : Array CpInfo) (this : Nat) (attrs : Array Attribute := #[]) (ms : Array MethodInfo := #[]) (fl : Nat := 33) (sup : Nat := 0) (ifs : Array Nat := #[]) (fds : Array FieldInfo := #[]) : ClassFile where
  minorVersion := 0
  majorVersion := 65
  constantPool := pool
  accessFlags := fl
  thisClass := this
  superClass := sup
  interfaces := ifs
  fields := fds
  methods := ms
  attributes := attrs
def plain (name : String) (sup : Option ClassId) : Class where
  name := name
  kind := .ordinary
  loader := none
  accessFlags := 33
  super := sup
  interfaces := #[]
  cf := none
  fields := #[]
  methods := #[]
  instanceTypes := #[]
  staticTypes := #[]
  resolved := #[]
  callSites := []
  init := .initialized
  statics := none
  mirror := none

def pool0 : Array CpInfo := pool [(5, u "<init>"), (0, u "()V"), (1, .class_ 10), (1, u "java/lang/Object")] 113

def k0m0 : Method := { name := "<init>", desc := "()V", sig := { parameters := [], returnType := none }, accessFlags := 1, code := none }
/-- java/lang/Object -/
def k0 : Class := { plain "java/lang/Object" none with
  accessFlags := 33
  interfaces := #[]
  cf := some (fileOf pool0 8 #[] #[{ accessFlags := 1, nameIndex := 5, descriptorIndex := 6, attributes := #[] }] 33 0 #[] #[])
  fields := #[]
  methods := #[k0m0]
  instanceTypes := #[]
  staticTypes := #[]
  resolved := Array.replicate 124 none
  statics := none }

def pool1 : Array CpInfo := pool [(2, .class_ 4), (1, u "java/lang/Object"), (0, u "<init>"), (0, u "()V"), (0, .integer 2147483647), (0, .methodref 9 10), (0, .class_ 11), (0, .nameAndType 12 13), (0, u "com/example/crossplan/crossplan/client/ClientTextFirstCharacterPinLaw"), (0, u "draw"), (0, u "(I)B"), (0, .methodref 9 15), (0, .nameAndType 16 17), (0, u "skipped"), (0, u "(B)Z"), (0, .methodref 19 20), (0, .class_ 21), (0, .nameAndType 22 23), (0, u "com/example/crossplan/crossplan/client/ClientText"), (0, u "firstCharacter"), (0, u "([B)I"), (3, u "law"), (0, u "(IIII)Z")] 4

def k1m0 : Method := { name := "<init>", desc := "()V", sig := { parameters := [], returnType := none }, accessFlags := 2, code := none }
def k1c1 : Code := { maxStack := 4, maxLocals := 2, code := method_2_code, exceptionTable := #[], attributes := #[] }
def k1m1 : Method := { name := "draw", desc := "(I)B", sig := { parameters := [.int], returnType := some .byte }, accessFlags := 10, code := some k1c1 }
def k1c2 : Code := { maxStack := 2, maxLocals := 2, code := method_3_code, exceptionTable := #[], attributes := #[] }
def k1m2 : Method := { name := "skipped", desc := "(B)Z", sig := { parameters := [.byte], returnType := some .boolean }, accessFlags := 10, code := some k1c2 }
def k1c3 : Code := { maxStack := 3, maxLocals := 10, code := code, exceptionTable := #[], attributes := #[] }
def k1m3 : Method := { name := "law", desc := "(IIII)Z", sig := { parameters := [.int, .int, .int, .int], returnType := some .boolean }, accessFlags := 9, code := some k1c3 }
/-- com/example/crossplan/crossplan/client/ClientTextFirstCharacterPinLaw -/
def k1 : Class := { plain "com/example/crossplan/crossplan/client/ClientTextFirstCharacterPinLaw" (some 0) with
  accessFlags := 49
  interfaces := #[]
  cf := some (fileOf pool1 9 #[] #[{ accessFlags := 2, nameIndex := 5, descriptorIndex := 6, attributes := #[] }, { accessFlags := 10, nameIndex := 12, descriptorIndex := 13, attributes := #[] }, { accessFlags := 10, nameIndex := 16, descriptorIndex := 17, attributes := #[] }, { accessFlags := 9, nameIndex := 27, descriptorIndex := 28, attributes := #[] }] 49 2 #[] #[])
  fields := #[]
  methods := #[k1m0, k1m1, k1m2, k1m3]
  instanceTypes := #[]
  staticTypes := #[]
  resolved := Array.replicate 33 none
  statics := none }

def pool2 : Array CpInfo := pool [(2, .class_ 4), (1, u "java/lang/Object"), (0, u "<init>"), (0, u "()V"), (4, .class_ 13), (1, u "com/example/crossplan/crossplan/client/ClientText"), (0, u "VERTICALS"), (0, u "Ljava/util/List;"), (52, u "VERTICAL_BYTES"), (18, u "VERTICAL_BOX_DRAWING"), (0, u "[Z"), (71, .class_ 161), (0, u "com/example/crossplan/crossplan/client/ClientText$LineChars"), (9, .class_ 172), (0, u "com/example/crossplan/crossplan/client/ClientText$LinesAbove"), (54, u "VERTICAL_CHARACTERS"), (0, u "Ljava/lang/String;"), (30, u "ASCII_VERTICAL"), (0, u "C"), (5, u "BOX_DRAWING_BYTES"), (0, u "I"), (1, u "BOX_DRAWING_START"), (1, u "BOX_DRAWING_CHARACTERS"), (26, u "firstCharacter"), (0, u "([B)I"), (6, .class_ 307), (0, u "com/example/crossplan/crossplan/client/ClientText$Layout"), (0, .class_ 309), (0, u "com/example/crossplan/crossplan/client/ClientText$Separator")] 30

def k2m0 : Method := { name := "<init>", desc := "()V", sig := { parameters := [], returnType := none }, accessFlags := 2, code := none }
def k2c1 : Code := { maxStack := 2, maxLocals := 5, code := prog_28_method_31_code, exceptionTable := #[], attributes := #[] }
def k2m1 : Method := { name := "firstCharacter", desc := "([B)I", sig := { parameters := [(.array .byte)], returnType := some .int }, accessFlags := 9, code := some k2c1 }
/-- com/example/crossplan/crossplan/client/ClientText -/
def k2 : Class := { plain "com/example/crossplan/crossplan/client/ClientText" (some 0) with
  accessFlags := 49
  interfaces := #[]
  cf := some (fileOf pool2 11 #[.nestMembers #[160, 171, 306, 308]] #[{ accessFlags := 2, nameIndex := 5, descriptorIndex := 6, attributes := #[] }, { accessFlags := 9, nameIndex := 298, descriptorIndex := 299, attributes := #[] }] 49 2 #[] #[{ accessFlags := 26, nameIndex := 259, descriptorIndex := 260, attributes := #[] }, { accessFlags := 25, nameIndex := 14, descriptorIndex := 15, attributes := #[] }, { accessFlags := 26, nameIndex := 68, descriptorIndex := 15, attributes := #[] }, { accessFlags := 26, nameIndex := 227, descriptorIndex := 228, attributes := #[] }, { accessFlags := 25, nameIndex := 266, descriptorIndex := 267, attributes := #[] }, { accessFlags := 26, nameIndex := 269, descriptorIndex := 267, attributes := #[] }, { accessFlags := 26, nameIndex := 271, descriptorIndex := 267, attributes := #[] }, { accessFlags := 26, nameIndex := 87, descriptorIndex := 88, attributes := #[] }])
  fields := #[{ name := "ASCII_VERTICAL", type := .char, accessFlags := 26, slot := 0, constantValue := 0 }, { name := "VERTICALS", type := (.object "java/util/List"), accessFlags := 25, slot := 1, constantValue := 0 }, { name := "VERTICAL_BYTES", type := (.object "java/util/List"), accessFlags := 26, slot := 2, constantValue := 0 }, { name := "VERTICAL_CHARACTERS", type := (.object "java/lang/String"), accessFlags := 26, slot := 3, constantValue := 0 }, { name := "BOX_DRAWING_BYTES", type := .int, accessFlags := 25, slot := 4, constantValue := 0 }, { name := "BOX_DRAWING_START", type := .int, accessFlags := 26, slot := 5, constantValue := 0 }, { name := "BOX_DRAWING_CHARACTERS", type := .int, accessFlags := 26, slot := 6, constantValue := 0 }, { name := "VERTICAL_BOX_DRAWING", type := (.array .boolean), accessFlags := 26, slot := 7, constantValue := 0 }]
  methods := #[k2m0, k2m1]
  instanceTypes := #[]
  staticTypes := #[.char, (.object "java/util/List"), (.object "java/util/List"), (.object "java/lang/String"), .int, .int, .int, (.array .boolean)]
  resolved := Array.replicate 340 none
  statics := none }

def pool3 : Array CpInfo := pool [(1, u "java/lang/Cloneable"), (0, .class_ 1), (0, u "java/lang/Object"), (0, .class_ 3)] 3

/-- java/lang/Cloneable -/
def k3 : Class := { plain "java/lang/Cloneable" (some 0) with
  accessFlags := 1537
  interfaces := #[]
  cf := some (fileOf pool3 2 #[] #[] 1537 4 #[] #[])
  fields := #[]
  methods := #[]
  instanceTypes := #[]
  staticTypes := #[]
  resolved := Array.replicate 8 none
  statics := none }

def pool4 : Array CpInfo := pool [(1, u "java/io/Serializable"), (0, .class_ 1), (0, u "java/lang/Object"), (0, .class_ 3)] 3

/-- java/io/Serializable -/
def k4 : Class := { plain "java/io/Serializable" (some 0) with
  accessFlags := 1537
  interfaces := #[]
  cf := some (fileOf pool4 2 #[] #[] 1537 4 #[] #[])
  fields := #[]
  methods := #[]
  instanceTypes := #[]
  staticTypes := #[]
  resolved := Array.replicate 8 none
  statics := none }

/-- the primitive byte -/
def k5 : Class := { plain "byte" none with kind := .primitive 'B', accessFlags := 0x411 }
/-- [B -/
def k6 : Class := { plain "[B" (some 0) with kind := .array 5 .byte, interfaces := #[3, 4], accessFlags := 1041 }

/-- the primitive int -/
def k7 : Class := { plain "int" none with kind := .primitive 'I', accessFlags := 0x411 }
/-- [I -/
def k8 : Class := { plain "[I" (some 0) with kind := .array 7 .int, interfaces := #[3, 4], accessFlags := 1041 }

def heap : Heap := #[]
def classes : Array Class := #[k0, k1, k2, k3, k4, k5, k6, k7, k8]
def interned : List (Array UInt16 × Addr) := []
def slotsUsed : Nat := 0
def theMethod : MethodId := ⟨1, 3⟩
def args0 : Array Value := #[.int 5, .int 5, .int 5, .int 5]
def aboutOver (below : List Frame) : State where
  vm := { classes := classes, interned := interned.toArray }
  heap := heap
  slotsUsed := slotsUsed
  threads := #[{ frames := .invoking theMethod args0 :: below }]
def below0 : List Frame := [.native { method := ⟨0, 0⟩, args := #[] }]
def about1 : State := aboutOver below0
def p0 : Program := .bare "" "" ""
def e0 : Env := launch0.env 0 0 0
theorem w_frames : about1.frames = Frame.invoking theMethod args0 :: below0 := rfl
set_option maxRecDepth 65536 in
theorem w_args : argsFit about1.vm theMethod args0 = true := by decide +kernel
set_option maxRecDepth 65536 in
theorem w_heap : heapFits about1 = true := by decide +kernel
set_option maxRecDepth 65536 in
theorem w_runnable : about1.curStatus? = some .runnable := by decide +kernel
set_option maxRecDepth 65536 in
theorem w_alone : about1.alone = true := by decide +kernel
set_option maxRecDepth 65536 in
theorem w_named : about1.methodNamed? x = some theMethod := by decide +kernel
set_option maxRecDepth 65536 in
theorem w_hears : about1.hears theMethod below0 = true := by decide +kernel
set_option maxRecDepth 65536 in
theorem w_ripe : about1.ripe theMethod args0 below0 = true := by decide +kernel
theorem w_running : about1.status = .running := rfl
set_option maxRecDepth 65536 in
theorem w_room : about1.hasRoom e0.platform room_1 = true :=
  launch0.hasRoom_least _ room_1 (by decide +kernel) (by decide +kernel) (by decide +kernel) (by decide +kernel) (by decide +kernel) (by decide +kernel)
theorem allAtoms_all (ts : List Jvm.Cond) (a : Array Jvm.Value) (st : Jvm.State) : (allAtoms ts).before a st = ts.all (fun c => c.before a st) := by
  induction ts with
  | nil => rfl
  | cons c t ih =>
    show (Jvm.Cond.and c (allAtoms t)).before a st = _
    rw [Jvm.Cond.before_and, ih, List.all_cons]
def words1 : List Jvm.Cond := Jvm.Cond.code x code maxLocals ret :: tables_1
/-- a 'code' word, met by the world's own term for the bytes: nothing is compared byte by byte -/
theorem code_word {y : MethodName} {bytes : ByteArray} {mx : Nat} {rt : Option FieldType} {a : Array Value} {s : State} {m : MethodId} {meth : Method} {c : Code} (h1 : s.methodNamed? y = some m) (h2 : s.vm.method? m = some meth) (h3 : meth.code = some c) (h4 : c.code = bytes)
    (h5 : (c.maxLocals == mx && c.exceptionTable.isEmpty && decide (c.maxStack ≤ mostOperands) && decide (meth.sig.returnType = rt) && !meth.locks && decide (parseMethodDescriptor y.desc = some meth.sig)) = true) : (Jvm.Cond.code y bytes mx rt).before a s = true := by
  simp only [Bool.and_eq_true, beq_iff_eq, Bool.not_eq_true', decide_eq_true_eq] at h5
  obtain ⟨⟨⟨⟨⟨g1, g2⟩, g3⟩, g4⟩, g5⟩, g6⟩ := h5
  simp [Cond.before, Cond.holds, Cond.value, h1, h2, h3, h4, g1, g2, g3, g4, g5, g6]
def isCode : Jvm.Cond → Bool
  | .code _ _ _ _ => true
  | _ => false
theorem all_split {L : List Jvm.Cond} {P : Jvm.Cond → Bool} (h1 : L.all (fun c => isCode c || P c) = true) (h2 : ∀ c ∈ L.filter isCode, P c = true) : L.all P = true := by
  refine List.all_eq_true.mpr fun c hc => ?_
  have h := List.all_eq_true.mp h1 c hc
  rcases Bool.eq_false_or_eq_true (isCode c) with hi | hi
  · exact h2 c (List.mem_filter.mpr ⟨hc, hi⟩)
  · simpa [hi] using h
set_option maxRecDepth 65536 in
theorem w_c0 : (Jvm.Cond.code x code maxLocals ret).before args0 about1 = true := code_word (m := ⟨1, 3⟩) (meth := k1m3) (c := k1c3) (by decide +kernel) rfl rfl rfl (by decide +kernel)
set_option maxRecDepth 65536 in
theorem w_c1 : (Jvm.Cond.code ({ cls := "com/example/crossplan/crossplan/client/ClientTextFirstCharacterPinLaw", name := "draw", desc := "(I)B" } : Jvm.MethodName) method_2_code (2 : Nat) (Option.some Jvm.ClassFile.FieldType.byte)).before args0 about1 = true := code_word (m := ⟨1, 1⟩) (meth := k1m1) (c := k1c1) (by decide +kernel) rfl rfl rfl (by decide +kernel)
set_option maxRecDepth 65536 in
theorem w_c2 : (Jvm.Cond.code ({ cls := "com/example/crossplan/crossplan/client/ClientText", name := "firstCharacter", desc := "([B)I" } : Jvm.MethodName) prog_28_method_31_code (5 : Nat) (Option.some Jvm.ClassFile.FieldType.int)).before args0 about1 = true := code_word (m := ⟨2, 1⟩) (meth := k2m1) (c := k2c1) (by decide +kernel) rfl rfl rfl (by decide +kernel)
set_option maxRecDepth 65536 in
theorem w_c3 : (Jvm.Cond.code ({ cls := "com/example/crossplan/crossplan/client/ClientTextFirstCharacterPinLaw", name := "skipped", desc := "(B)Z" } : Jvm.MethodName) method_3_code (2 : Nat) (Option.some Jvm.ClassFile.FieldType.boolean)).before args0 about1 = true := code_word (m := ⟨1, 2⟩) (meth := k1m2) (c := k1c2) (by decide +kernel) rfl rfl rfl (by decide +kernel)
def codes1 : List Jvm.Cond := [Jvm.Cond.code x code maxLocals ret, Jvm.Cond.code ({ cls := "com/example/crossplan/crossplan/client/ClientTextFirstCharacterPinLaw", name := "draw", desc := "(I)B" } : Jvm.MethodName) method_2_code (2 : Nat) (Option.some Jvm.ClassFile.FieldType.byte), Jvm.Cond.code ({ cls := "com/example/crossplan/crossplan/client/ClientText", name := "firstCharacter", desc := "([B)I" } : Jvm.MethodName) prog_28_method_31_code (5 : Nat) (Option.some Jvm.ClassFile.FieldType.int), Jvm.Cond.code ({ cls := "com/example/crossplan/crossplan/client/ClientTextFirstCharacterPinLaw", name := "skipped", desc := "(B)Z" } : Jvm.MethodName) method_3_code (2 : Nat) (Option.some Jvm.ClassFile.FieldType.boolean)]
set_option maxRecDepth 65536 in
theorem codes_eq : words1.filter isCode = codes1 := rfl
theorem w_codes : ∀ c ∈ words1.filter isCode, c.before args0 about1 = true := by
  rw [codes_eq]
  intro c hc
  simp only [codes1, List.mem_cons, List.not_mem_nil, or_false] at hc
  rcases hc with rfl | rfl | rfl | rfl
  · exact w_c0
  · exact w_c1
  · exact w_c2
  · exact w_c3
set_option maxRecDepth 65536 in
theorem w_t1 : words1.all (fun c => isCode c || c.before args0 about1) = true := by decide +kernel
theorem w_tables : (allAtoms (Jvm.Cond.code x code maxLocals ret :: tables_1)).before args0 about1 = true := by
  rw [allAtoms_all]
  show words1.all (fun c => c.before args0 about1) = true
  refine all_split ?_ w_codes
  rw [w_t1]
set_option maxRecDepth 65536 in
theorem w_case : (Jvm.Cond.and given_1 narrow_1).before args0 about1 = true := by decide +kernel
theorem w_applies : (headSpec (Jvm.Cond.code x code maxLocals ret :: tables_1) room_1).applies x e0.platform about1 = true :=
  (Spec.applies_iff w_frames).mpr ⟨w_running, w_runnable, w_alone, w_named, w_hears, w_ripe, w_room, w_tables⟩
theorem atStart : AtStart classFile x code maxLocals ret World_1 tables_1 room_1 Calls_1 rest_1 Pre_1 launch0 p0 e0 about1 theMethod args0 below0 :=
  ⟨lists_1, trivial, launch0.admits_env _ _ _, launch0.least_env, fairChoices_fair.cas, fairChoices_fair.clock, w_frames, w_args, w_heap, w_applies, trivial, trivial, w_case⟩
end start1
theorem witness_1 : WitnessClaimed_1 := ⟨start1.p0, start1.e0, start1.about1, start1.theMethod, start1.args0, start1.below0, start1.atStart⟩
end Jvm.Pilot.@@N@@
