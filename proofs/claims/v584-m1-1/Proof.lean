import JvmDerived
import JvmDerived.Pilot.@@N@@Statement
import JvmDerived.Pilot.@@N@@Code
set_option linter.unusedVariables false
set_option linter.unusedSimpArgs false
namespace Jvm.Pilot.@@N@@
open Jvm Jvm.ClassFile Sem Op Lib Jvm.Free Jvm.Stand Jvm.LawKit Jvm.RoadKit Bundle Jvm.Pilot.@@N@@.Jvm.D
set_option maxRecDepth 65536
/-! the run still has to be led to its end from A: the goal of a walk, taken step by step -/
def own_Go (p : Program) (e : Env) (below : List Frame) (s : State) (Q : Option Value → Heap → List Loc → Prop) (C S : Nat) (A : State) : Prop :=
  ∃ s₂ o, Steps p.tables e below A s₂ ∧ s₂.status = .running ∧ Ended s₂ below o ∧ ∃ v L, o = .returned v ∧ Q v s₂.heap L ∧ FrameEnd s o s₂ L C S
section OwnA
variable {p : Program} {l : Launch} {e : Env} {R : Room} {s : State} {m : MethodId} {args : Array Value} {below : List Frame} {meth : Method} {c : Code} {T : State} {locs : List Loc} {cells slots : Nat} {Q : Option Value → Heap → List Loc → Prop} {C S : Nat}
theorem own_st {A B : State} (h : ∀ t, Steps p.tables e below B t → Steps p.tables e below A t) (g : own_Go p e below s Q C S B) : own_Go p e below s Q C S A := by
  obtain ⟨s₂, o, h1, r⟩ := g
  exact ⟨s₂, o, h _ h1, r⟩
theorem own_ss {A B : State} (h : Steps p.tables e below A B) (g : own_Go p e below s Q C S B) : own_Go p e below s Q C S A := own_st (fun _ k => h.trans k) g
theorem own_cut {P G : Prop} (a : P → G) (b : P) : G := a b
theorem own_leave (X : Stand p l e R s m args below meth c T locs cells slots) {v : Option Value} (hv : meth.sig.returnType = none → v = none) (hlk : meth.locks = false) (hQ : Q v T.heap locs) (hc : cells ≤ C) (hs : slots ≤ S) {A : State}
    (hr : ∀ fs, (∀ (f : JFrame) (acts : List Action), f.method = m → f.locked = none → f.entered = [] → (doReturn e (T.setTop f) acts v).1 = T.setFrames fs) → Steps p.tables e below A (T.setFrames fs)) : own_Go p e below s Q C S A := by
  obtain ⟨fs, hr', hrun, hended, hW, hsame⟩ := X.leave (v := v) hv hlk
  exact ⟨_, _, hr fs hr', hrun, hended, _, _, rfl, hQ, ⟨_, rfl⟩, hW, hsame.mono hc hs⟩
theorem own_retV (X : Stand p l e R s m args below meth c T locs cells slots) (hx : p.tables.exec = Jvm.exec) (hlk : meth.locks = false) (hret : meth.sig.returnType = none) {pc : Nat} {Ls : Array Slot} (hd : decode c.code pc = .ok (.return_, 1)) (hc : cells ≤ C) (hs : slots ≤ S) (hQ : Q none T.heap locs) :
    own_Go p e below s Q C S (T.setTop (mkF m pc Ls [])) := own_leave X (fun _ => rfl) hlk hQ hc hs fun _ hr => X.returnOut hx hret hd hr
theorem own_retI (X : Stand p l e R s m args below meth c T locs cells slots) (hx : p.tables.exec = Jvm.exec) (hlk : meth.locks = false) (hret : meth.sig.returnType = some .int) {pc : Nat} {Ls : Array Slot} {z : Int32} {rest : List Value} (hd : decode c.code pc = .ok (.ireturn, 1)) (hc : cells ≤ C) (hs : slots ≤ S) (hQ : Q (some (.int z)) T.heap locs) :
    own_Go p e below s Q C S (T.setTop (mkF m pc Ls (.int z :: rest))) := own_leave X (fun h => by rw [hret] at h; cases h) hlk hQ hc hs fun _ hr => retOut X hx hret rfl (Or.inl ⟨rfl, Or.inl rfl, _, rfl⟩) hd hr
theorem own_retJ (X : Stand p l e R s m args below meth c T locs cells slots) (hx : p.tables.exec = Jvm.exec) (hlk : meth.locks = false) (hret : meth.sig.returnType = some .long) {pc : Nat} {Ls : Array Slot} {z : Int64} {rest : List Value} (hd : decode c.code pc = .ok (.lreturn, 1)) (hc : cells ≤ C) (hs : slots ≤ S) (hQ : Q (some (.long z)) T.heap locs) :
    own_Go p e below s Q C S (T.setTop (mkF m pc Ls (.long z :: rest))) := own_leave X (fun h => by rw [hret] at h; cases h) hlk hQ hc hs fun _ hr => retOut X hx hret rfl (Or.inr (Or.inl ⟨rfl, rfl, _, rfl⟩)) hd hr
theorem own_retR (X : Stand p l e R s m args below meth c T locs cells slots) (hx : p.tables.exec = Jvm.exec) (hlk : meth.locks = false) {t : FieldType} (hret : meth.sig.returnType = some t) (ht : t.isReference = true) {pc : Nat} {Ls : Array Slot} {w : Value} {rest : List Value} (hn : narrow t w = w) (hw : w.isRef = true) (hd : decode c.code pc = .ok (.areturn, 1)) (hc : cells ≤ C) (hs : slots ≤ S) (hQ : Q (some w) T.heap locs) :
    own_Go p e below s Q C S (T.setTop (mkF m pc Ls (w :: rest))) := own_leave X (fun h => by rw [hret] at h; cases h) hlk hQ hc hs fun _ hr => retOut X hx hret hn (Or.inr (Or.inr (Or.inr (Or.inr ⟨rfl, ht, hw⟩)))) hd hr
theorem own_retN (X : Stand p l e R s m args below meth c T locs cells slots) (hx : p.tables.exec = Jvm.exec) (hlk : meth.locks = false) {t : FieldType} (hret : meth.sig.returnType = some t) (ht : t = .boolean ∨ t = .byte ∨ t = .char ∨ t = .short) {pc : Nat} {Ls : Array Slot} {z z' : Int32} {rest : List Value} (hz : nar t z = z') (hd : decode c.code pc = .ok (.ireturn, 1)) (hc : cells ≤ C) (hs : slots ≤ S) (hQ : Q (some (.int z')) T.heap locs) :
    own_Go p e below s Q C S (T.setTop (mkF m pc Ls (.int z :: rest))) := by
  subst hz
  exact own_leave X (fun h => by rw [hret] at h; cases h) hlk hQ hc hs fun _ hr => retN X hx hret ht hd hr
/-! arrays by the whole list of what they hold -/
variable {Z : State} {h h' : Heap} {a b : Addr} {ty : FieldType} {vs : List Value}
def own_A (Z : State) (h : Heap) (a : Addr) (ty : FieldType) (vs : List Value) : Prop := ∃ c : Cell, Arr Z h a c ty ∧ c.slots.toList = vs
theorem own_A.lt (F : own_A Z h a ty vs) : a < h.size := by obtain ⟨c, A, -⟩ := F; exact A.lt
theorem own_A.ext (F : own_A Z h a ty vs) (E : Ext h h') : own_A Z h' a ty vs := by obtain ⟨c, A, q⟩ := F; exact ⟨c, A.ext E, q⟩
theorem own_A.other {sl : Nat} {v : Value} (F : own_A Z h a ty vs) (W : Wr h h' b sl v) (q : a ≠ b) : own_A Z h' a ty vs := by obtain ⟨c, A, r⟩ := F; exact ⟨c, A.other W q, r⟩
theorem own_A.keep {ws : List Addr} (F : own_A Z h a ty vs) (K : Keep h h' ws) (q : a ∉ ws) : own_A Z h' a ty vs := by obtain ⟨c, A, r⟩ := F; exact ⟨c, ⟨K.2.1 a c A.1 q, A.2⟩, r⟩
theorem own_A.set {i : Nat} {v : Value} (F : own_A Z h a ty vs) (W : Wr h h' a i v) : own_A Z h' a ty (vs.set i v) := by
  obtain ⟨c, A, rfl⟩ := F
  exact ⟨_, A.same W, by simp [Cell.setSlot]⟩
theorem own_ix {j : Int32} {i : Nat} (hj : j.toInt = (i : Int)) : ¬ j < 0 ∧ j.toNatClampNeg = i := by
  refine ⟨?_, ?_⟩
  · rw [Int32.lt_iff_toInt_lt, hj]
    show ¬ ((i : Int) < 0)
    omega
  · have h1 : j.toNatClampNeg = j.toInt.toNat := rfl
    rw [h1, hj]; rfl
theorem own_in {cl : Cell} {j : Int32} {i : Nat} {v : Value} (hj : j.toInt = (i : Int)) (hv : cl.slots.toList[i]? = some v) : ¬ (j < 0 ∨ cl.slots.size ≤ j.toNatClampNeg) ∧ cl.slots[j.toNatClampNeg]? = some v := by
  obtain ⟨n0, n1⟩ := own_ix hj
  rw [n1]
  rw [Array.getElem?_toList] at hv
  refine ⟨?_, hv⟩
  have h2 := (Array.getElem?_eq_some_iff.mp hv).1
  rintro (q | q)
  · exact n0 q
  · omega
theorem own_ldI (X : Stand p l e R s m args below meth c T locs cells slots) (hx : p.tables.exec = Jvm.exec) (hZ : Z.Warmed39 s.vm) (eT : T.heap = h) (A : own_A Z h a .int vs) {j : Int32} {i : Nat} {v : Value} (hj : j.toInt = (i : Int)) (hv : vs[i]? = some v) {g : JFrame} (hg : g.method = m) {rest : List Value} (hs : g.stack = .int j :: .ref a :: rest) (hd : decode c.code g.pc = .ok (.iaload, 1)) {t : State}
    (k : Steps p.tables e below (T.setTop { g with pc := g.pc + 1, stack := v :: rest }) t) : Steps p.tables e below (T.setTop g) t := by
  obtain ⟨cl, A, rfl⟩ := A
  exact X.iaload hx (by rw [eT]; exact A.1) (State.isArrayOf_alike hZ.alike A.2.1) A.2.2 (own_in hj hv).1 (own_in hj hv).2 hg hs hd _ k
theorem own_ldJ (X : Stand p l e R s m args below meth c T locs cells slots) (hx : p.tables.exec = Jvm.exec) (hZ : Z.Warmed39 s.vm) (eT : T.heap = h) (A : own_A Z h a .long vs) {j : Int32} {i : Nat} {v : Value} (hj : j.toInt = (i : Int)) (hv : vs[i]? = some v) {g : JFrame} (hg : g.method = m) {rest : List Value} (hs : g.stack = .int j :: .ref a :: rest) (hd : decode c.code g.pc = .ok (.laload, 1)) {t : State}
    (k : Steps p.tables e below (T.setTop { g with pc := g.pc + 1, stack := v :: rest }) t) : Steps p.tables e below (T.setTop g) t := by
  obtain ⟨cl, A, rfl⟩ := A
  exact X.laload hx (by rw [eT]; exact A.1) (State.isArrayOf_alike hZ.alike A.2.1) A.2.2 (own_in hj hv).1 (own_in hj hv).2 hg hs hd _ k
theorem own_ldB (X : Stand p l e R s m args below meth c T locs cells slots) (hx : p.tables.exec = Jvm.exec) (hZ : Z.Warmed39 s.vm) (eT : T.heap = h) (A : own_A Z h a .byte vs) {j : Int32} {i : Nat} {v : Value} (hj : j.toInt = (i : Int)) (hv : vs[i]? = some v) {g : JFrame} (hg : g.method = m) {rest : List Value} (hs : g.stack = .int j :: .ref a :: rest) (hd : decode c.code g.pc = .ok (.baload, 1)) {t : State}
    (k : Steps p.tables e below (T.setTop { g with pc := g.pc + 1, stack := v :: rest }) t) : Steps p.tables e below (T.setTop g) t := by
  obtain ⟨cl, A, rfl⟩ := A
  exact X.baloadBytes hx (by rw [eT]; exact A.1) (State.isArrayOf_alike hZ.alike A.2.1) A.2.2 (own_in hj hv).1 (own_in hj hv).2 hg hs hd _ k
theorem own_ldZ (X : Stand p l e R s m args below meth c T locs cells slots) (hx : p.tables.exec = Jvm.exec) (hZ : Z.Warmed39 s.vm) (eT : T.heap = h) (A : own_A Z h a .boolean vs) {j : Int32} {i : Nat} {v : Value} (hj : j.toInt = (i : Int)) (hv : vs[i]? = some v) {g : JFrame} (hg : g.method = m) {rest : List Value} (hs : g.stack = .int j :: .ref a :: rest) (hd : decode c.code g.pc = .ok (.baload, 1)) {t : State}
    (k : Steps p.tables e below (T.setTop { g with pc := g.pc + 1, stack := v :: rest }) t) : Steps p.tables e below (T.setTop g) t := by
  obtain ⟨cl, A, rfl⟩ := A
  exact X.baloadBooleans hx (by rw [eT]; exact A.1) (State.isArrayOf_alike hZ.alike A.2.1) A.2.2 (own_in hj hv).1 (own_in hj hv).2 hg hs hd _ k
theorem own_ldS (X : Stand p l e R s m args below meth c T locs cells slots) (hx : p.tables.exec = Jvm.exec) (hZ : Z.Warmed39 s.vm) (eT : T.heap = h) (A : own_A Z h a .short vs) {j : Int32} {i : Nat} {v : Value} (hj : j.toInt = (i : Int)) (hv : vs[i]? = some v) {g : JFrame} (hg : g.method = m) {rest : List Value} (hs : g.stack = .int j :: .ref a :: rest) (hd : decode c.code g.pc = .ok (.saload, 1)) {t : State}
    (k : Steps p.tables e below (T.setTop { g with pc := g.pc + 1, stack := v :: rest }) t) : Steps p.tables e below (T.setTop g) t := by
  obtain ⟨cl, A, rfl⟩ := A
  exact X.saload hx (by rw [eT]; exact A.1) (State.isArrayOf_alike hZ.alike A.2.1) A.2.2 (own_in hj hv).1 (own_in hj hv).2 hg hs hd _ k
theorem own_ldC (X : Stand p l e R s m args below meth c T locs cells slots) (hx : p.tables.exec = Jvm.exec) (hZ : Z.Warmed39 s.vm) (eT : T.heap = h) (A : own_A Z h a .char vs) {j : Int32} {i : Nat} {v : Value} (hj : j.toInt = (i : Int)) (hv : vs[i]? = some v) {g : JFrame} (hg : g.method = m) {rest : List Value} (hs : g.stack = .int j :: .ref a :: rest) (hd : decode c.code g.pc = .ok (.caload, 1)) {t : State}
    (k : Steps p.tables e below (T.setTop { g with pc := g.pc + 1, stack := v :: rest }) t) : Steps p.tables e below (T.setTop g) t := by
  obtain ⟨cl, A, rfl⟩ := A
  exact X.caload hx (by rw [eT]; exact A.1) (State.isArrayOf_alike hZ.alike A.2.1) A.2.2 (own_in hj hv).1 (own_in hj hv).2 hg hs hd _ k
theorem own_ldR (X : Stand p l e R s m args below meth c T locs cells slots) (hx : p.tables.exec = Jvm.exec) (hZ : Z.Warmed39 s.vm) (eT : T.heap = h) (A : own_A Z h a ty vs) (hty : ty.isReference = true) {j : Int32} {i : Nat} {v : Value} (hj : j.toInt = (i : Int)) (hv : vs[i]? = some v) {g : JFrame} (hg : g.method = m) {rest : List Value} (hs : g.stack = .int j :: .ref a :: rest) (hd : decode c.code g.pc = .ok (.aaload, 1)) {t : State}
    (k : Steps p.tables e below (T.setTop { g with pc := g.pc + 1, stack := v :: rest }) t) : Steps p.tables e below (T.setTop g) t := by
  obtain ⟨cl, A, rfl⟩ := A
  exact X.aaload hx (by rw [eT]; exact A.1) (State.isArrayOf_alike hZ.alike A.2.1) hty A.2.2 (own_in hj hv).1 (own_in hj hv).2 hg hs hd _ k
theorem own_stI (X : Stand p l e R s m args below meth c T locs cells slots) (hx : p.tables.exec = Jvm.exec) (hZ : Z.Warmed39 s.vm) (eT : T.heap = h) (A : own_A Z h a .int vs) {j x : Int32} {i : Nat} (hj : j.toInt = (i : Int)) (hi : i < vs.length) {g : JFrame} (hg : g.method = m) {rest : List Value} (hs : g.stack = .int x :: .int j :: .ref a :: rest) (hd : decode c.code g.pc = .ok (.iastore, 1)) :
    ∃ T' h', Stand p l e R s m args below meth c T' (locs ++ [⟨a, i⟩]) cells slots ∧ T'.heap = h' ∧ Wr h h' a i (.int x) ∧ own_A Z h' a .int (vs.set i (.int x)) ∧ ∀ target, Steps p.tables e below (T'.setTop { g with pc := g.pc + 1, stack := rest }) target → Steps p.tables e below (T.setTop g) target := by
  obtain ⟨cl, A, rfl⟩ := A
  have hin := (own_in (cl := cl) (v := cl.slots.toList[i]) hj (List.getElem?_eq_getElem hi)).1
  obtain ⟨T', h', X', e', W', st⟩ := stI X hx hZ eT A (j := j) (x := x) hin hg hs hd
  rw [(own_ix hj).2] at X' W'
  exact ⟨T', h', X', e', W', own_A.set ⟨cl, A, rfl⟩ W', st⟩
theorem own_stJ (X : Stand p l e R s m args below meth c T locs cells slots) (hx : p.tables.exec = Jvm.exec) (hZ : Z.Warmed39 s.vm) (eT : T.heap = h) (A : own_A Z h a .long vs) {j : Int32} {x : Int64} {i : Nat} (hj : j.toInt = (i : Int)) (hi : i < vs.length) {g : JFrame} (hg : g.method = m) {rest : List Value} (hs : g.stack = .long x :: .int j :: .ref a :: rest) (hd : decode c.code g.pc = .ok (.lastore, 1)) :
    ∃ T' h', Stand p l e R s m args below meth c T' (locs ++ [⟨a, i⟩]) cells slots ∧ T'.heap = h' ∧ Wr h h' a i (.long x) ∧ own_A Z h' a .long (vs.set i (.long x)) ∧ ∀ target, Steps p.tables e below (T'.setTop { g with pc := g.pc + 1, stack := rest }) target → Steps p.tables e below (T.setTop g) target := by
  obtain ⟨cl, A, rfl⟩ := A
  have hin := (own_in (cl := cl) (v := cl.slots.toList[i]) hj (List.getElem?_eq_getElem hi)).1
  obtain ⟨T', h', X', e', W', st⟩ := stJ X hx hZ eT A (j := j) (x := x) hin hg hs hd
  rw [(own_ix hj).2] at X' W'
  exact ⟨T', h', X', e', W', own_A.set ⟨cl, A, rfl⟩ W', st⟩
theorem own_stB (X : Stand p l e R s m args below meth c T locs cells slots) (hx : p.tables.exec = Jvm.exec) (hZ : Z.Warmed39 s.vm) (eT : T.heap = h) (A : own_A Z h a .byte vs) {j x : Int32} {i : Nat} (hj : j.toInt = (i : Int)) (hi : i < vs.length) {g : JFrame} (hg : g.method = m) {rest : List Value} (hs : g.stack = .int x :: .int j :: .ref a :: rest) (hd : decode c.code g.pc = .ok (.bastore, 1)) :
    ∃ T' h', Stand p l e R s m args below meth c T' (locs ++ [⟨a, i⟩]) cells slots ∧ T'.heap = h' ∧ Wr h h' a i (.int x.toInt8.toInt32) ∧ own_A Z h' a .byte (vs.set i (.int x.toInt8.toInt32)) ∧ ∀ target, Steps p.tables e below (T'.setTop { g with pc := g.pc + 1, stack := rest }) target → Steps p.tables e below (T.setTop g) target := by
  obtain ⟨cl, A, rfl⟩ := A
  have hin := (own_in (cl := cl) (v := cl.slots.toList[i]) hj (List.getElem?_eq_getElem hi)).1
  obtain ⟨T', h', X', e', W', st⟩ := stB X hx hZ eT A (j := j) (x := x) hin hg hs hd
  rw [(own_ix hj).2] at X' W'
  exact ⟨T', h', X', e', W', own_A.set ⟨cl, A, rfl⟩ W', st⟩
theorem own_stS (X : Stand p l e R s m args below meth c T locs cells slots) (hx : p.tables.exec = Jvm.exec) (hZ : Z.Warmed39 s.vm) (eT : T.heap = h) (A : own_A Z h a .short vs) {j x : Int32} {i : Nat} (hj : j.toInt = (i : Int)) (hi : i < vs.length) {g : JFrame} (hg : g.method = m) {rest : List Value} (hs : g.stack = .int x :: .int j :: .ref a :: rest) (hd : decode c.code g.pc = .ok (.sastore, 1)) :
    ∃ T' h', Stand p l e R s m args below meth c T' (locs ++ [⟨a, i⟩]) cells slots ∧ T'.heap = h' ∧ Wr h h' a i (.int x.toInt16.toInt32) ∧ own_A Z h' a .short (vs.set i (.int x.toInt16.toInt32)) ∧ ∀ target, Steps p.tables e below (T'.setTop { g with pc := g.pc + 1, stack := rest }) target → Steps p.tables e below (T.setTop g) target := by
  obtain ⟨cl, A, rfl⟩ := A
  have hin := (own_in (cl := cl) (v := cl.slots.toList[i]) hj (List.getElem?_eq_getElem hi)).1
  obtain ⟨T', h', X', e', W', st⟩ := stS X hx hZ eT A (j := j) (x := x) hin hg hs hd
  rw [(own_ix hj).2] at X' W'
  exact ⟨T', h', X', e', W', own_A.set ⟨cl, A, rfl⟩ W', st⟩
theorem own_stC (X : Stand p l e R s m args below meth c T locs cells slots) (hx : p.tables.exec = Jvm.exec) (hZ : Z.Warmed39 s.vm) (eT : T.heap = h) (A : own_A Z h a .char vs) {j x : Int32} {i : Nat} (hj : j.toInt = (i : Int)) (hi : i < vs.length) {g : JFrame} (hg : g.method = m) {rest : List Value} (hs : g.stack = .int x :: .int j :: .ref a :: rest) (hd : decode c.code g.pc = .ok (.castore, 1)) :
    ∃ T' h', Stand p l e R s m args below meth c T' (locs ++ [⟨a, i⟩]) cells slots ∧ T'.heap = h' ∧ Wr h h' a i (.int x.toUInt32.toUInt16.toUInt32.toInt32) ∧ own_A Z h' a .char (vs.set i (.int x.toUInt32.toUInt16.toUInt32.toInt32)) ∧ ∀ target, Steps p.tables e below (T'.setTop { g with pc := g.pc + 1, stack := rest }) target → Steps p.tables e below (T.setTop g) target := by
  obtain ⟨cl, A, rfl⟩ := A
  have hin := (own_in (cl := cl) (v := cl.slots.toList[i]) hj (List.getElem?_eq_getElem hi)).1
  obtain ⟨T', h', X', e', W', st⟩ := stC X hx hZ eT A (j := j) (x := x) hin hg hs hd
  rw [(own_ix hj).2] at X' W'
  exact ⟨T', h', X', e', W', own_A.set ⟨cl, A, rfl⟩ W', st⟩
theorem own_newP {a0 : Array Value} (X : Stand p l e R s m args below meth c T locs cells slots) (hx : p.tables.exec = Jvm.exec) (hZ : Z.Warmed39 s.vm) {aty : ArrayType} (w : (Cond.arrayClass (newarray.typeOf aty)).before a0 Z = true) (eT : T.heap = h) {g : JFrame} (hg : g.method = m) (hd : decode c.code g.pc = .ok (.newarray aty, 2)) {n : Int32} {rest : List Value} (hs : g.stack = .int n :: rest)
    {k cap : Nat} (hk : n.toInt = (k : Int)) (hcap : k ≤ cap) (hb : cap * 8 ≤ 536870912) (hc : cells + 1 ≤ R.cells) (hl : slots + cap ≤ R.slots) {ad : String} (had : "[" ++ (newarray.typeOf aty).toString = ad) :
    ∃ T' h', Stand p l e R s m args below meth c T' locs (cells + 1) (slots + cap) ∧ T'.heap = h' ∧ Ext h h' ∧ own_A Z h' h.size (newarray.typeOf aty) (List.replicate k (defaultValue (newarray.typeOf aty))) ∧ Exa Z h' h.size ad ∧
      ∀ target, Steps p.tables e below (T'.setTop { g with pc := g.pc + 2, stack := .ref h.size :: rest }) target → Steps p.tables e below (T.setTop g) target := by
  obtain ⟨n0, n1⟩ := own_ix hk
  obtain ⟨T', h', cA, X', e', E', A', x', st⟩ := newPE X hx hZ w eT hg hd hs n0 (cap := cap) (by rw [n1]; exact hcap) hb hc hl had
  exact ⟨T', h', X', e', E', ⟨_, A', by simp [newA, n1]⟩, x', st⟩
theorem own_clone {a0 : Array Value} (X : Stand p l e R s m args below meth c T locs cells slots) (hx : p.tables.exec = Jvm.exec) (hZ : Z.Warmed39 s.vm) {own ad : String} {index : Nat} (hown : s.vm.findClass own = some m.cls)
    (w1 : (Cond.methodLink own index ⟨ad, "clone", "()Ljava/lang/Object;"⟩).before a0 Z = true) (w2 : (Cond.sameMethod ad "java/lang/Object" "clone" "()Ljava/lang/Object;").before a0 Z = true) (w3 : (Cond.native ⟨"java/lang/Object", "clone", "()Ljava/lang/Object;"⟩).before a0 Z = true)
    (w4 : (Cond.instanceMethod ⟨"java/lang/Object", "clone", "()Ljava/lang/Object;"⟩).before a0 Z = true) (w5 : (Cond.selects ad ⟨ad, "clone", "()Ljava/lang/Object;"⟩ ⟨"java/lang/Object", "clone", "()Ljava/lang/Object;"⟩).before a0 Z = true) (w6 : (Cond.castable ad "java/lang/Cloneable").before a0 Z = true)
    (eT : T.heap = h) (A : own_A Z h a ty vs) (E : Exa Z h a ad) (hf : ∀ v ∈ vs, fits ty v = true) {g : JFrame} (hg : g.method = m) (hsize : g.locals.size = c.maxLocals) {rest : List Value} (hst : g.stack = .ref a :: rest) (hd : decode c.code g.pc = .ok (.invokevirtual index, 3))
    (hfr : 1 ≤ R.frames) {W cap : Nat} (hW : 2 * g.monitorRoom + (rest.map fun v => v.category).sum ≤ W) (hl : W + 14 ≤ R.locals) (hcap : vs.length ≤ cap) (hc : cells + 1 ≤ R.cells) (hsl : slots + cap ≤ R.slots) :
    ∃ T' h', Stand p l e R s m args below meth c T' locs (cells + 1) (slots + cap) ∧ T'.heap = h' ∧ Ext h h' ∧ own_A Z h' h.size ty vs ∧ Exa Z h' h.size ad ∧
      ∀ target, Steps p.tables e below (T'.setTop { g with pc := g.pc + 3, stack := .ref h.size :: rest }) target → Steps p.tables e below (T.setTop g) target := by
  obtain ⟨cl, A, rfl⟩ := A
  have FC : FitC Z cl := fitC_of A fun i hi v hv => hf v (by
    rw [← Array.getElem?_toList] at hv
    exact List.mem_of_getElem? hv)
  obtain ⟨T', h', X', e', ex, A', E', st⟩ := cloneA X hx hZ hown w1 w2 w3 w4 w5 w6 eT A E FC hg hsize hst hd hfr hW hl (by simpa using hcap) hc hsl
  exact ⟨T', h', X', e', ex, ⟨_, A', rfl⟩, E', st⟩
def own_Ov (C : String) (Z : State) (h : Heap) (a : Addr) : Prop := ∃ c : Cell, h[a]? = some c ∧ Ovr Z c.cls C
theorem own_Ov.lt {C : String} (F : own_Ov C Z h a) : a < h.size := by obtain ⟨c, q, -⟩ := F; exact (Array.getElem?_eq_some_iff.mp q).1
theorem own_Ov.ext {C : String} (F : own_Ov C Z h a) (E : Ext h h') : own_Ov C Z h' a := by obtain ⟨c, q, r⟩ := F; exact ⟨c, E.2 _ _ q, r⟩
theorem own_Ov.other {C : String} {sl : Nat} {v : Value} (F : own_Ov C Z h a) (W : Wr h h' b sl v) (ne : a ≠ b) : own_Ov C Z h' a := by
  obtain ⟨c, q, r⟩ := F
  obtain ⟨c', q', -, -, -, e, -⟩ := wr_at W q
  exact ⟨c', q', by rw [e ne]; exact r⟩
theorem own_Ov.keep {C : String} {ws : List Addr} (F : own_Ov C Z h a) (K : Keep h h' ws) (ne : a ∉ ws) : own_Ov C Z h' a := by obtain ⟨c, q, r⟩ := F; exact ⟨c, K.2.1 _ _ q ne, r⟩
theorem own_newR {a0 : Array Value} (X : Stand p l e R s m args below meth c T locs cells slots) (hx : p.tables.exec = Jvm.exec) (hZ : Z.Warmed39 s.vm) {own C : String} {index : Nat} (hown : s.vm.findClass own = some m.cls) (w1 : (Cond.classLink own index C).before a0 Z = true) (w2 : (Cond.arrayOver (.object C)).before a0 Z = true) (eT : T.heap = h) {g : JFrame} (hg : g.method = m) (hd : decode c.code g.pc = .ok (.anewarray index, 3)) {n : Int32} {rest : List Value} (hs : g.stack = .int n :: rest)
    {k cap : Nat} (hk : n.toInt = (k : Int)) (hcap : k ≤ cap) (hb : cap * 8 ≤ 536870912) (hc : cells + 1 ≤ R.cells) (hl : slots + cap ≤ R.slots) {ad : String} (had : "[" ++ (FieldType.object C).toString = ad) :
    ∃ T' h', Stand p l e R s m args below meth c T' locs (cells + 1) (slots + cap) ∧ T'.heap = h' ∧ Ext h h' ∧ own_A Z h' h.size (.object C) (List.replicate k .null) ∧ Exa Z h' h.size ad ∧ own_Ov C Z h' h.size ∧
      ∀ target, Steps p.tables e below (T'.setTop { g with pc := g.pc + 3, stack := .ref h.size :: rest }) target → Steps p.tables e below (T.setTop g) target := by
  obtain ⟨n0, n1⟩ := own_ix hk
  obtain ⟨T', h', cA, X', e', E', A', x', O', st⟩ := newRE X hx hZ hown w1 w2 eT hg hd hs n0 (cap := cap) (by rw [n1]; exact hcap) hb hc hl had
  exact ⟨T', h', X', e', E', ⟨_, A', by simp [newA, n1, defaultValue]⟩, x', ⟨_, A'.1, O'⟩, st⟩
theorem own_stR {C : String} (X : Stand p l e R s m args below meth c T locs cells slots) (hx : p.tables.exec = Jvm.exec) (hZ : Z.Warmed39 s.vm) (eT : T.heap = h) (A : own_A Z h a (.object C) vs) (O : own_Ov C Z h a) {y : Addr} (I : Ins Z h y C true) {j : Int32} {i : Nat} (hj : j.toInt = (i : Int)) (hi : i < vs.length) {g : JFrame} (hg : g.method = m) {rest : List Value} (hs : g.stack = .ref y :: .int j :: .ref a :: rest) (hd : decode c.code g.pc = .ok (.aastore, 1)) :
    ∃ T' h', Stand p l e R s m args below meth c T' (locs ++ [⟨a, i⟩]) cells slots ∧ T'.heap = h' ∧ Wr h h' a i (.ref y) ∧ own_A Z h' a (.object C) (vs.set i (.ref y)) ∧ ∀ target, Steps p.tables e below (T'.setTop { g with pc := g.pc + 1, stack := rest }) target → Steps p.tables e below (T.setTop g) target := by
  obtain ⟨cl, A, rfl⟩ := A
  obtain ⟨c2, q, r⟩ := O
  cases A.1.symm.trans q
  have hin := (own_in (cl := cl) (v := cl.slots.toList[i]) hj (List.getElem?_eq_getElem hi)).1
  obtain ⟨T', h', X', e', W', st⟩ := stR X hx hZ eT A (j := j) (v := .ref y) hin rfl (Sto.of A r I) hg hs hd
  rw [(own_ix hj).2] at X' W'
  exact ⟨T', h', X', e', W', own_A.set ⟨cl, A, rfl⟩ W', st⟩
theorem own_len (X : Stand p l e R s m args below meth c T locs cells slots) (hx : p.tables.exec = Jvm.exec) (hZ : Z.Warmed39 s.vm) (eT : T.heap = h) (A : own_A Z h a ty vs) {n : Int32} (hn : n.toInt = (vs.length : Int)) {g : JFrame} (hg : g.method = m) {rest : List Value} (hs : g.stack = .ref a :: rest) (hd : decode c.code g.pc = .ok (.arraylength, 1)) {t : State}
    (k : Steps p.tables e below (T.setTop { g with pc := g.pc + 1, stack := .int n :: rest }) t) : Steps p.tables e below (T.setTop g) t := by
  obtain ⟨cl, A, rfl⟩ := A
  have h1 := n.toInt_lt
  have h2 : cl.slots.size.toInt32 = n := by
    refine Int32.toInt_inj.mp ?_
    rw [hn]
    have h3 : cl.slots.toList.length = cl.slots.size := by simp
    rw [h3] at hn ⊢
    exact len_toInt (by omega)
  refine X.arraylength hx (by rw [eT]; exact A.1) (State.isArrayOf_alike hZ.alike A.2.1) hg hs hd _ ?_
  rw [h2]; exact k
theorem own_lrem (X : Stand p l e R s m args below meth c T locs cells slots) (hx : p.tables.exec = Jvm.exec) {g : JFrame} (hg : g.method = m) {x y : Int64} {rest : List Value} (hd : decode c.code g.pc = .ok (.lrem, 1)) (hs : g.stack = .long y :: .long x :: rest) (hy : y ≠ 0) {t : State}
    (k : Steps p.tables e below (T.setTop { g with pc := g.pc + 1, stack := .long (x % y) :: rest }) t) : Steps p.tables e below (T.setTop g) t := XS.lrem X.here hx hg hd hs hy (by rw [lrem_mod]; exact k)
end OwnA
theorem own_Sta.keep {Z : State} {h h' : Heap} {ws : List Addr} {C n d : String} {v : Value} (F : Sta Z h C n d v) (K : Keep h h' ws) (q : ∀ st ∈ ws, ∀ cell : Cell, h[st]? = some cell → cell.vm.isStatics = false) : Sta Z h' C n d v := by
  obtain ⟨cf, i, k, f, st, cell, h1, h2, h3, h4, h5, h6, h7⟩ := F
  refine ⟨cf, i, k, f, st, cell, h1, h2, h3, h4, K.2.1 st cell h5 fun hm => ?_, h6, h7⟩
  rw [q st hm cell h5] at h6
  cases h6
theorem own_z_eq_t {c : Prop} [Decidable c] (h : ¬ c) : ifCond.holds .eq (if c then (1 : Int32) else 0) = true := by rw [if_neg h]; rfl
theorem own_z_eq_f {c : Prop} [Decidable c] (h : c) : ifCond.holds .eq (if c then (1 : Int32) else 0) = false := by rw [if_pos h]; rfl
theorem own_z_ne_t {c : Prop} [Decidable c] (h : c) : ifCond.holds .ne (if c then (1 : Int32) else 0) = true := by rw [if_pos h]; rfl
theorem own_z_ne_f {c : Prop} [Decidable c] (h : ¬ c) : ifCond.holds .ne (if c then (1 : Int32) else 0) = false := by rw [if_neg h]; rfl
theorem own_z_nar {c : Prop} [Decidable c] : nar .boolean (if c then (1 : Int32) else 0) = if c then (1 : Int32) else 0 := by split <;> rfl
/-- two slots that hold nothing or a long, whose value nobody reads again -/
def own_Two (a b : Slot) : Prop := (a = .unset ∧ b = .unset) ∨ ∃ z, a = .val (.long z) ∧ b = .second
theorem own_plainE {Z : State} {h : Heap} {a : Addr} {C : String} (F : Exa Z h a C) : ∀ cell : Cell, h[a]? = some cell → cell.vm.isStatics = false := fun cell hc => by
  obtain ⟨c, k, h1, -, -, h4, -⟩ := F
  cases h1.symm.trans hc
  exact h4
theorem own_plainA {Z : State} {h : Heap} {a : Addr} {ty : FieldType} {vs : List Value} (F : own_A Z h a ty vs) : ∀ cell : Cell, h[a]? = some cell → cell.vm.isStatics = false := fun cell hc => by
  obtain ⟨c, A, -⟩ := F
  cases A.1.symm.trans hc
  exact A.plain
theorem own_pop2 {tb : Tables} [Ours tb] {e : Env} {below : List Frame} {T target : State} {m : MethodId} {c : Code} {g : JFrame} (h : At T m c below) (hx : tb.exec = Jvm.exec) (hg : g.method = m) {x : Int64} {rest : List Value} (hd : decode c.code g.pc = .ok (.pop2, 1)) (hs : g.stack = .long x :: rest)
    (hr : Steps tb e below (T.setTop { g with pc := g.pc + 1, stack := rest }) target) : Steps tb e below (T.setTop g) target := by
  subst hg
  jvm_step h [h.top, hx, hd, hs, Value.category]
  exact hr
theorem own_min1 {i : Int32} {n : Nat} (h0 : 0 ≤ i.toInt) (h1 : i.toInt < (n : Int)) (hn : n < 1000) : (i + 1).toInt.toNat = i.toInt.toNat + 1 ∧ (i + 1).toInt = i.toInt + 1 := by
  have h2 := c_iadd i 1
  have h3 := rng32 (i + 1)
  have h4 : (1 : Int32).toInt = 1 := rfl
  omega
theorem own_ltN {i : Int32} {n : Nat} (hn : n < 1000) : i < n.toInt32 ↔ i.toInt < (n : Int) := by
  rw [Int32.lt_iff_toInt_lt, len_toInt (by omega)]
theorem own_getI {bs : List Int32} {i : Nat} (h : i < bs.length) : (bs.map Value.int)[i]? = some (.int (bs.getD i 0)) := by
  simp [List.getElem?_map, h]
theorem own_nat {i : Int32} (h : 0 ≤ i.toInt) : i.toInt = ((i.toInt.toNat : Nat) : Int) := by omega
theorem w_0 {a0 : Array Value} {Z : State} (hw : ∀ d ∈ tables_1, d.before a0 Z = true) : (Jvm.Cond.constantLong "dev/pathfire/json/Utf8BufferReservePinLaw" (9 : Nat) (9223372036854775807 : Int64)).before a0 Z = true := hw _ (List.mem_of_getElem? (i := 0) rfl)
theorem w_1 {a0 : Array Value} {Z : State} (hw : ∀ d ∈ tables_1, d.before a0 Z = true) : (Jvm.Cond.methodLink "dev/pathfire/json/Utf8BufferReservePinLaw" (11 : Nat) ({ cls := "dev/pathfire/json/Utf8BufferReservePinLaw", name := "upTo", desc := "(JJ)J" } : Jvm.MethodName)).before a0 Z = true := hw _ (List.mem_of_getElem? (i := 1) rfl)
theorem w_2 {a0 : Array Value} {Z : State} (hw : ∀ d ∈ tables_1, d.before a0 Z = true) : (Jvm.Cond.static ({ cls := "dev/pathfire/json/Utf8BufferReservePinLaw", name := "upTo", desc := "(JJ)J" } : Jvm.MethodName)).before a0 Z = true := hw _ (List.mem_of_getElem? (i := 2) rfl)
theorem w_3 {a0 : Array Value} {Z : State} (hw : ∀ d ∈ tables_1, d.before a0 Z = true) : (Jvm.Cond.initialized "dev/pathfire/json/Utf8BufferReservePinLaw").before a0 Z = true := hw _ (List.mem_of_getElem? (i := 3) rfl)
theorem w_4 {a0 : Array Value} {Z : State} (hw : ∀ d ∈ tables_1, d.before a0 Z = true) : (Jvm.Cond.code ({ cls := "dev/pathfire/json/Utf8BufferReservePinLaw", name := "upTo", desc := "(JJ)J" } : Jvm.MethodName) method_2_code (6 : Nat) (Option.some Jvm.ClassFile.FieldType.long)).before a0 Z = true := hw _ (List.mem_of_getElem? (i := 4) rfl)
theorem w_5 {a0 : Array Value} {Z : State} (hw : ∀ d ∈ tables_1, d.before a0 Z = true) : (Jvm.Cond.classLink "dev/pathfire/json/Utf8BufferReservePinLaw" (17 : Nat) "dev/pathfire/json/Utf8Buffer").before a0 Z = true := hw _ (List.mem_of_getElem? (i := 5) rfl)
theorem w_6 {a0 : Array Value} {Z : State} (hw : ∀ d ∈ tables_1, d.before a0 Z = true) : (Jvm.Cond.instantiable "dev/pathfire/json/Utf8Buffer" (5 : Nat)).before a0 Z = true := hw _ (List.mem_of_getElem? (i := 6) rfl)
theorem w_7 {a0 : Array Value} {Z : State} (hw : ∀ d ∈ tables_1, d.before a0 Z = true) : (Jvm.Cond.initialized "dev/pathfire/json/Utf8Buffer").before a0 Z = true := hw _ (List.mem_of_getElem? (i := 7) rfl)
theorem w_8 {a0 : Array Value} {Z : State} (hw : ∀ d ∈ tables_1, d.before a0 Z = true) : (Jvm.Cond.methodLink "dev/pathfire/json/Utf8BufferReservePinLaw" (19 : Nat) ({ cls := "dev/pathfire/json/Utf8Buffer", name := "<init>", desc := "(J)V" } : Jvm.MethodName)).before a0 Z = true := hw _ (List.mem_of_getElem? (i := 8) rfl)
theorem w_9 {a0 : Array Value} {Z : State} (hw : ∀ d ∈ tables_1, d.before a0 Z = true) : (Jvm.Cond.instanceMethod ({ cls := "dev/pathfire/json/Utf8Buffer", name := "<init>", desc := "(J)V" } : Jvm.MethodName)).before a0 Z = true := hw _ (List.mem_of_getElem? (i := 9) rfl)
theorem w_10 {a0 : Array Value} {Z : State} (hw : ∀ d ∈ tables_1, d.before a0 Z = true) : (Jvm.Cond.code ({ cls := "dev/pathfire/json/Utf8Buffer", name := "<init>", desc := "(J)V" } : Jvm.MethodName) prog_19_method_1_code (3 : Nat) (Option.none : Option Jvm.ClassFile.FieldType)).before a0 Z = true := hw _ (List.mem_of_getElem? (i := 10) rfl)
theorem w_11 {a0 : Array Value} {Z : State} (hw : ∀ d ∈ tables_1, d.before a0 Z = true) : (Jvm.Cond.methodLink "dev/pathfire/json/Utf8Buffer" (1 : Nat) ({ cls := "java/lang/Object", name := "<init>", desc := "()V" } : Jvm.MethodName)).before a0 Z = true := hw _ (List.mem_of_getElem? (i := 11) rfl)
theorem w_12 {a0 : Array Value} {Z : State} (hw : ∀ d ∈ tables_1, d.before a0 Z = true) : (Jvm.Cond.instanceMethod ({ cls := "java/lang/Object", name := "<init>", desc := "()V" } : Jvm.MethodName)).before a0 Z = true := hw _ (List.mem_of_getElem? (i := 12) rfl)
theorem w_13 {a0 : Array Value} {Z : State} (hw : ∀ d ∈ tables_1, d.before a0 Z = true) : (Jvm.Cond.code ({ cls := "java/lang/Object", name := "<init>", desc := "()V" } : Jvm.MethodName) object_method_1_code (1 : Nat) (Option.none : Option Jvm.ClassFile.FieldType)).before a0 Z = true := hw _ (List.mem_of_getElem? (i := 13) rfl)
theorem w_14 {a0 : Array Value} {Z : State} (hw : ∀ d ∈ tables_1, d.before a0 Z = true) : (Jvm.Cond.classLink "dev/pathfire/json/Utf8Buffer" (7 : Nat) "java/util/ArrayList").before a0 Z = true := hw _ (List.mem_of_getElem? (i := 14) rfl)
theorem w_15 {a0 : Array Value} {Z : State} (hw : ∀ d ∈ tables_1, d.before a0 Z = true) : (Jvm.Cond.instantiable "java/util/ArrayList" (3 : Nat)).before a0 Z = true := hw _ (List.mem_of_getElem? (i := 15) rfl)
theorem w_16 {a0 : Array Value} {Z : State} (hw : ∀ d ∈ tables_1, d.before a0 Z = true) : (Jvm.Cond.initialized "java/util/ArrayList").before a0 Z = true := hw _ (List.mem_of_getElem? (i := 16) rfl)
theorem w_17 {a0 : Array Value} {Z : State} (hw : ∀ d ∈ tables_1, d.before a0 Z = true) : (Jvm.Cond.methodLink "dev/pathfire/json/Utf8Buffer" (9 : Nat) ({ cls := "java/util/ArrayList", name := "<init>", desc := "()V" } : Jvm.MethodName)).before a0 Z = true := hw _ (List.mem_of_getElem? (i := 17) rfl)
theorem w_18 {a0 : Array Value} {Z : State} (hw : ∀ d ∈ tables_1, d.before a0 Z = true) : (Jvm.Cond.instanceMethod ({ cls := "java/util/ArrayList", name := "<init>", desc := "()V" } : Jvm.MethodName)).before a0 Z = true := hw _ (List.mem_of_getElem? (i := 18) rfl)
theorem w_19 {a0 : Array Value} {Z : State} (hw : ∀ d ∈ tables_1, d.before a0 Z = true) : (Jvm.Cond.code ({ cls := "java/util/ArrayList", name := "<init>", desc := "()V" } : Jvm.MethodName) jdk_38_method_2_code (1 : Nat) (Option.none : Option Jvm.ClassFile.FieldType)).before a0 Z = true := hw _ (List.mem_of_getElem? (i := 19) rfl)
theorem w_20 {a0 : Array Value} {Z : State} (hw : ∀ d ∈ tables_1, d.before a0 Z = true) : (Jvm.Cond.methodLink "java/util/ArrayList" (1 : Nat) ({ cls := "java/util/AbstractList", name := "<init>", desc := "()V" } : Jvm.MethodName)).before a0 Z = true := hw _ (List.mem_of_getElem? (i := 20) rfl)
theorem w_21 {a0 : Array Value} {Z : State} (hw : ∀ d ∈ tables_1, d.before a0 Z = true) : (Jvm.Cond.instanceMethod ({ cls := "java/util/AbstractList", name := "<init>", desc := "()V" } : Jvm.MethodName)).before a0 Z = true := hw _ (List.mem_of_getElem? (i := 21) rfl)
theorem w_24 {a0 : Array Value} {Z : State} (hw : ∀ d ∈ tables_1, d.before a0 Z = true) : (Jvm.Cond.initialized "java/util/AbstractList").before a0 Z = true := hw _ (List.mem_of_getElem? (i := 24) rfl)
theorem w_25 {a0 : Array Value} {Z : State} (hw : ∀ d ∈ tables_1, d.before a0 Z = true) : (Jvm.Cond.code ({ cls := "java/util/AbstractList", name := "<init>", desc := "()V" } : Jvm.MethodName) jdk_39_method_1_code (1 : Nat) (Option.none : Option Jvm.ClassFile.FieldType)).before a0 Z = true := hw _ (List.mem_of_getElem? (i := 25) rfl)
theorem w_26 {a0 : Array Value} {Z : State} (hw : ∀ d ∈ tables_1, d.before a0 Z = true) : (Jvm.Cond.methodLink "java/util/AbstractList" (1 : Nat) ({ cls := "java/util/AbstractCollection", name := "<init>", desc := "()V" } : Jvm.MethodName)).before a0 Z = true := hw _ (List.mem_of_getElem? (i := 26) rfl)
theorem w_27 {a0 : Array Value} {Z : State} (hw : ∀ d ∈ tables_1, d.before a0 Z = true) : (Jvm.Cond.instanceMethod ({ cls := "java/util/AbstractCollection", name := "<init>", desc := "()V" } : Jvm.MethodName)).before a0 Z = true := hw _ (List.mem_of_getElem? (i := 27) rfl)
theorem w_30 {a0 : Array Value} {Z : State} (hw : ∀ d ∈ tables_1, d.before a0 Z = true) : (Jvm.Cond.initialized "java/util/AbstractCollection").before a0 Z = true := hw _ (List.mem_of_getElem? (i := 30) rfl)
theorem w_31 {a0 : Array Value} {Z : State} (hw : ∀ d ∈ tables_1, d.before a0 Z = true) : (Jvm.Cond.code ({ cls := "java/util/AbstractCollection", name := "<init>", desc := "()V" } : Jvm.MethodName) jdk_22_method_1_code (1 : Nat) (Option.none : Option Jvm.ClassFile.FieldType)).before a0 Z = true := hw _ (List.mem_of_getElem? (i := 31) rfl)
theorem w_32 {a0 : Array Value} {Z : State} (hw : ∀ d ∈ tables_1, d.before a0 Z = true) : (Jvm.Cond.methodLink "java/util/AbstractCollection" (1 : Nat) ({ cls := "java/lang/Object", name := "<init>", desc := "()V" } : Jvm.MethodName)).before a0 Z = true := hw _ (List.mem_of_getElem? (i := 32) rfl)
theorem w_33 {a0 : Array Value} {Z : State} (hw : ∀ d ∈ tables_1, d.before a0 Z = true) : (Jvm.Cond.fieldLink "java/util/AbstractList" (7 : Nat) "java/util/AbstractList" "modCount" "I").before a0 Z = true := hw _ (List.mem_of_getElem? (i := 33) rfl)
theorem w_34 {a0 : Array Value} {Z : State} (hw : ∀ d ∈ tables_1, d.before a0 Z = true) : (Jvm.Cond.lays "java/util/ArrayList" "java/util/AbstractList" "modCount" "I").before a0 Z = true := hw _ (List.mem_of_getElem? (i := 34) rfl)
theorem w_35 {a0 : Array Value} {Z : State} (hw : ∀ d ∈ tables_1, d.before a0 Z = true) : (Jvm.Cond.fieldLink "java/util/ArrayList" (39 : Nat) "java/util/ArrayList" "DEFAULTCAPACITY_EMPTY_ELEMENTDATA" "[Ljava/lang/Object;").before a0 Z = true := hw _ (List.mem_of_getElem? (i := 35) rfl)
theorem w_36 {a0 : Array Value} {Z : State} (hw : ∀ d ∈ tables_1, d.before a0 Z = true) : (Jvm.Cond.fieldLink "java/util/ArrayList" (9 : Nat) "java/util/ArrayList" "elementData" "[Ljava/lang/Object;").before a0 Z = true := hw _ (List.mem_of_getElem? (i := 36) rfl)
theorem w_37 {a0 : Array Value} {Z : State} (hw : ∀ d ∈ tables_1, d.before a0 Z = true) : (Jvm.Cond.lays "java/util/ArrayList" "java/util/ArrayList" "elementData" "[Ljava/lang/Object;").before a0 Z = true := hw _ (List.mem_of_getElem? (i := 37) rfl)
theorem w_38 {a0 : Array Value} {Z : State} (hw : ∀ d ∈ tables_1, d.before a0 Z = true) : (Jvm.Cond.fieldLink "dev/pathfire/json/Utf8Buffer" (10 : Nat) "dev/pathfire/json/Utf8Buffer" "chunks" "Ljava/util/List;").before a0 Z = true := hw _ (List.mem_of_getElem? (i := 38) rfl)
theorem w_39 {a0 : Array Value} {Z : State} (hw : ∀ d ∈ tables_1, d.before a0 Z = true) : (Jvm.Cond.laysFinal "dev/pathfire/json/Utf8Buffer" "dev/pathfire/json/Utf8Buffer" "chunks" "Ljava/util/List;").before a0 Z = true := hw _ (List.mem_of_getElem? (i := 39) rfl)
theorem w_40 {a0 : Array Value} {Z : State} (hw : ∀ d ∈ tables_1, d.before a0 Z = true) : (Jvm.Cond.arrayClass Jvm.ClassFile.FieldType.byte).before a0 Z = true := hw _ (List.mem_of_getElem? (i := 40) rfl)
theorem w_41 {a0 : Array Value} {Z : State} (hw : ∀ d ∈ tables_1, d.before a0 Z = true) : (Jvm.Cond.fieldLink "dev/pathfire/json/Utf8Buffer" (16 : Nat) "dev/pathfire/json/Utf8Buffer" "last" "[B").before a0 Z = true := hw _ (List.mem_of_getElem? (i := 41) rfl)
theorem w_42 {a0 : Array Value} {Z : State} (hw : ∀ d ∈ tables_1, d.before a0 Z = true) : (Jvm.Cond.lays "dev/pathfire/json/Utf8Buffer" "dev/pathfire/json/Utf8Buffer" "last" "[B").before a0 Z = true := hw _ (List.mem_of_getElem? (i := 42) rfl)
theorem w_43 {a0 : Array Value} {Z : State} (hw : ∀ d ∈ tables_1, d.before a0 Z = true) : (Jvm.Cond.fieldLink "dev/pathfire/json/Utf8Buffer" (20 : Nat) "dev/pathfire/json/Utf8Buffer" "room" "J").before a0 Z = true := hw _ (List.mem_of_getElem? (i := 43) rfl)
theorem w_44 {a0 : Array Value} {Z : State} (hw : ∀ d ∈ tables_1, d.before a0 Z = true) : (Jvm.Cond.lays "dev/pathfire/json/Utf8Buffer" "dev/pathfire/json/Utf8Buffer" "room" "J").before a0 Z = true := hw _ (List.mem_of_getElem? (i := 44) rfl)
theorem w_45 {a0 : Array Value} {Z : State} (hw : ∀ d ∈ tables_1, d.before a0 Z = true) : (Jvm.Cond.methodLink "dev/pathfire/json/Utf8BufferReservePinLaw" (22 : Nat) ({ cls := "dev/pathfire/json/Utf8Buffer", name := "reserve", desc := "(J)V" } : Jvm.MethodName)).before a0 Z = true := hw _ (List.mem_of_getElem? (i := 45) rfl)
theorem w_46 {a0 : Array Value} {Z : State} (hw : ∀ d ∈ tables_1, d.before a0 Z = true) : (Jvm.Cond.declares ({ cls := "dev/pathfire/json/Utf8Buffer", name := "reserve", desc := "(J)V" } : Jvm.MethodName)).before a0 Z = true := hw _ (List.mem_of_getElem? (i := 46) rfl)
theorem w_47 {a0 : Array Value} {Z : State} (hw : ∀ d ∈ tables_1, d.before a0 Z = true) : (Jvm.Cond.instanceMethod ({ cls := "dev/pathfire/json/Utf8Buffer", name := "reserve", desc := "(J)V" } : Jvm.MethodName)).before a0 Z = true := hw _ (List.mem_of_getElem? (i := 47) rfl)
theorem w_48 {a0 : Array Value} {Z : State} (hw : ∀ d ∈ tables_1, d.before a0 Z = true) : (Jvm.Cond.selects "dev/pathfire/json/Utf8Buffer" ({ cls := "dev/pathfire/json/Utf8Buffer", name := "reserve", desc := "(J)V" } : Jvm.MethodName) ({ cls := "dev/pathfire/json/Utf8Buffer", name := "reserve", desc := "(J)V" } : Jvm.MethodName)).before a0 Z = true := hw _ (List.mem_of_getElem? (i := 48) rfl)
theorem w_49 {a0 : Array Value} {Z : State} (hw : ∀ d ∈ tables_1, d.before a0 Z = true) : (Jvm.Cond.code ({ cls := "dev/pathfire/json/Utf8Buffer", name := "reserve", desc := "(J)V" } : Jvm.MethodName) prog_19_method_3_code (3 : Nat) (Option.none : Option Jvm.ClassFile.FieldType)).before a0 Z = true := hw _ (List.mem_of_getElem? (i := 49) rfl)
theorem w_50 {a0 : Array Value} {Z : State} (hw : ∀ d ∈ tables_1, d.before a0 Z = true) : (Jvm.Cond.methodLink "dev/pathfire/json/Utf8BufferReservePinLaw" (25 : Nat) ({ cls := "dev/pathfire/json/Utf8Buffer", name := "release", desc := "(J)V" } : Jvm.MethodName)).before a0 Z = true := hw _ (List.mem_of_getElem? (i := 50) rfl)
theorem w_51 {a0 : Array Value} {Z : State} (hw : ∀ d ∈ tables_1, d.before a0 Z = true) : (Jvm.Cond.declares ({ cls := "dev/pathfire/json/Utf8Buffer", name := "release", desc := "(J)V" } : Jvm.MethodName)).before a0 Z = true := hw _ (List.mem_of_getElem? (i := 51) rfl)
theorem w_52 {a0 : Array Value} {Z : State} (hw : ∀ d ∈ tables_1, d.before a0 Z = true) : (Jvm.Cond.instanceMethod ({ cls := "dev/pathfire/json/Utf8Buffer", name := "release", desc := "(J)V" } : Jvm.MethodName)).before a0 Z = true := hw _ (List.mem_of_getElem? (i := 52) rfl)
theorem w_53 {a0 : Array Value} {Z : State} (hw : ∀ d ∈ tables_1, d.before a0 Z = true) : (Jvm.Cond.selects "dev/pathfire/json/Utf8Buffer" ({ cls := "dev/pathfire/json/Utf8Buffer", name := "release", desc := "(J)V" } : Jvm.MethodName) ({ cls := "dev/pathfire/json/Utf8Buffer", name := "release", desc := "(J)V" } : Jvm.MethodName)).before a0 Z = true := hw _ (List.mem_of_getElem? (i := 53) rfl)
theorem w_54 {a0 : Array Value} {Z : State} (hw : ∀ d ∈ tables_1, d.before a0 Z = true) : (Jvm.Cond.code ({ cls := "dev/pathfire/json/Utf8Buffer", name := "release", desc := "(J)V" } : Jvm.MethodName) prog_19_method_4_code (3 : Nat) (Option.none : Option Jvm.ClassFile.FieldType)).before a0 Z = true := hw _ (List.mem_of_getElem? (i := 54) rfl)
theorem w_55 {a0 : Array Value} {Z : State} (hw : ∀ d ∈ tables_1, d.before a0 Z = true) : (Jvm.Cond.methodLink "dev/pathfire/json/Utf8BufferReservePinLaw" (28 : Nat) ({ cls := "dev/pathfire/json/Utf8Buffer", name := "size", desc := "()J" } : Jvm.MethodName)).before a0 Z = true := hw _ (List.mem_of_getElem? (i := 55) rfl)
theorem w_56 {a0 : Array Value} {Z : State} (hw : ∀ d ∈ tables_1, d.before a0 Z = true) : (Jvm.Cond.declares ({ cls := "dev/pathfire/json/Utf8Buffer", name := "size", desc := "()J" } : Jvm.MethodName)).before a0 Z = true := hw _ (List.mem_of_getElem? (i := 56) rfl)
theorem w_57 {a0 : Array Value} {Z : State} (hw : ∀ d ∈ tables_1, d.before a0 Z = true) : (Jvm.Cond.instanceMethod ({ cls := "dev/pathfire/json/Utf8Buffer", name := "size", desc := "()J" } : Jvm.MethodName)).before a0 Z = true := hw _ (List.mem_of_getElem? (i := 57) rfl)
theorem w_58 {a0 : Array Value} {Z : State} (hw : ∀ d ∈ tables_1, d.before a0 Z = true) : (Jvm.Cond.selects "dev/pathfire/json/Utf8Buffer" ({ cls := "dev/pathfire/json/Utf8Buffer", name := "size", desc := "()J" } : Jvm.MethodName) ({ cls := "dev/pathfire/json/Utf8Buffer", name := "size", desc := "()J" } : Jvm.MethodName)).before a0 Z = true := hw _ (List.mem_of_getElem? (i := 58) rfl)
theorem w_59 {a0 : Array Value} {Z : State} (hw : ∀ d ∈ tables_1, d.before a0 Z = true) : (Jvm.Cond.code ({ cls := "dev/pathfire/json/Utf8Buffer", name := "size", desc := "()J" } : Jvm.MethodName) prog_19_method_2_code (1 : Nat) (Option.some Jvm.ClassFile.FieldType.long)).before a0 Z = true := hw _ (List.mem_of_getElem? (i := 59) rfl)
theorem w_60 {a0 : Array Value} {Z : State} (hw : ∀ d ∈ tables_1, d.before a0 Z = true) : (Jvm.Cond.fieldLink "dev/pathfire/json/Utf8Buffer" (24 : Nat) "dev/pathfire/json/Utf8Buffer" "size" "J").before a0 Z = true := hw _ (List.mem_of_getElem? (i := 60) rfl)
theorem w_61 {a0 : Array Value} {Z : State} (hw : ∀ d ∈ tables_1, d.before a0 Z = true) : (Jvm.Cond.lays "dev/pathfire/json/Utf8Buffer" "dev/pathfire/json/Utf8Buffer" "size" "J").before a0 Z = true := hw _ (List.mem_of_getElem? (i := 61) rfl)
theorem own_nz {q2 : Int64} (h0 : 0 ≤ q2.toInt) (h1 : ¬ (q2 = 9223372036854775807)) : q2 + 1 ≠ 0 := by
  intro h
  have h2 := c_ladd q2 1
  rw [h] at h2
  have h3 : (1 : Int64).toInt = 1 := rfl
  have h4 : (0 : Int64).toInt = 0 := rfl
  have h5 : ¬ (q2.toInt = 9223372036854775807) := fun q => h1 (Int64.toInt_inj.mp q)
  have h6 := rng64 q2
  omega
theorem own_pn1 : plainName "dev/pathfire/json/Utf8BufferReservePinLaw" = true := by first | (simp [plainName, overriddenIn]; done) | decide +kernel
theorem d1_0 : decode method_2_code 0 = .ok (.lload_n 0, 1) := by decide +kernel
theorem d1_1 : decode method_2_code 1 = .ok (.ldc2_w 9, 3) := by decide +kernel
theorem d1_4 : decode method_2_code 4 = .ok (.land, 1) := by decide +kernel
theorem d1_5 : decode method_2_code 5 = .ok (.lstore 4, 2) := by decide +kernel
theorem d1_7 : decode method_2_code 7 = .ok (.lload_n 2, 1) := by decide +kernel
theorem d1_8 : decode method_2_code 8 = .ok (.ldc2_w 9, 3) := by decide +kernel
theorem d1_11 : decode method_2_code 11 = .ok (.lcmp, 1) := by decide +kernel
theorem d1_12 : decode method_2_code 12 = .ok (.ifCond .ne 6, 3) := by decide +kernel
theorem d1_15 : decode method_2_code 15 = .ok (.lload 4, 2) := by decide +kernel
theorem d1_17 : decode method_2_code 17 = .ok (.lreturn, 1) := by decide +kernel
theorem d1_18 : decode method_2_code 18 = .ok (.lload 4, 2) := by decide +kernel
theorem d1_20 : decode method_2_code 20 = .ok (.lload_n 2, 1) := by decide +kernel
theorem d1_21 : decode method_2_code 21 = .ok (.lconst 1, 1) := by decide +kernel
theorem d1_22 : decode method_2_code 22 = .ok (.ladd, 1) := by decide +kernel
theorem d1_23 : decode method_2_code 23 = .ok (.lrem, 1) := by decide +kernel
theorem d1_24 : decode method_2_code 24 = .ok (.lreturn, 1) := by decide +kernel
theorem ef_1 (m : MethodId) (x0 : Int64) (x1 : Int64) : entryFrame m #[(.long x0), (.long x1)] 6 = mkF m 0 #[.val (.long x0), .second, .val (.long x1), .second, .unset, .unset] [] := by first | (simp [entryFrame, mkF, argsToLocals, Value.category]; done) | rfl
def own_f1 (q1 : Int64) (q2 : Int64) : Int64 := (if q2 = (9223372036854775807 : Int64) then (q1 &&& (9223372036854775807 : Int64)) else ((q1 &&& (9223372036854775807 : Int64)) % (q2 + (1 : Int64))))
def Q1 (Z : State) (q1 : Int64) (q2 : Int64) (h0 : Heap) (n0 : Nat) (v : Option Value) (h : Heap) (L : List Loc) : Prop := v = some (.long (own_f1 q1 q2)) ∧ Fr n0 L ∧ h = h0
set_option maxHeartbeats 40000000 in
theorem rm1 (l : Launch) (Z : State) (a0 : Array Value) (hw : ∀ d ∈ tables_1, d.before a0 Z = true) (ws : List Jvm.Cond) (q1 : Int64) (q2 : Int64) (h0 : Heap) (n0 : Nat) (Z0 : n0 ≤ h0.size) (hm : 0 ≤ q2.toInt) :
    MetFree l (⟨"dev/pathfire/json/Utf8BufferReservePinLaw", "upTo", "(JJ)J"⟩ : MethodName) (head1 (Jvm.Cond.code (⟨"dev/pathfire/json/Utf8BufferReservePinLaw", "upTo", "(JJ)J"⟩ : MethodName) method_2_code 6 (some .long) :: ws) ({ frames := 0, cells := 0, slots := 0, locals := 0 } : Room)) (fun a U => a = #[(.long q1), (.long q2)] ∧ Z.Warmed39 U.vm ∧ U.heap = h0) (fun _ _ _ _ _ => True) (fun _ U o U' => ∃ v L, o = .returned v ∧ Q1 Z q1 q2 h0 n0 v U'.heap L ∧ FrameEnd U o U' L ({ frames := 0, cells := 0, slots := 0, locals := 0 } : Room).cells ({ frames := 0, cells := 0, slots := 0, locals := 0 } : Room).slots) := by
  refine MetFree.of_bodySF (plainFor_of_name own_pn1) hisR ?_
  intro p e s m args below meth c s₁ Bd hml0 hP hK
  obtain ⟨rfl, hZ, hh⟩ := hP
  have hx := Bd.exec
  have hby := Bd.bytes
  have hml : c.maxLocals = 6 := hml0
  have hlk : meth.locks = false := BodyLoose.notSynchronized Bd
  have hown : s.vm.findClass "dev/pathfire/json/Utf8BufferReservePinLaw" = some m.cls := findClass_of_methodNamed Bd.named
  have hnm := (name_of_methodNamed Bd.named Bd.method).1
  have X0 : Stand p l e ({ frames := 0, cells := 0, slots := 0, locals := 0 } : Room) s m #[(.long q1), (.long q2)] below meth c s₁ [] 0 0 := Stand.of_body Bd
  have e0 : s₁.heap = h0 := by rw [← hh, Bd.state]; rfl
  have N0 := Fr.nil n0
  show own_Go p e below s (Q1 Z q1 q2 h0 n0) ({ frames := 0, cells := 0, slots := 0, locals := 0 } : Room).cells ({ frames := 0, cells := 0, slots := 0, locals := 0 } : Room).slots _
  refine own_st (B := s₁.setTop (mkF m 0 #[.val (.long q1), .second, .val (.long q2), .second, .unset, .unset] [])) (fun t k => castTop (ef_1 m (q1) (q2)) k) ?_
  refine own_st (B := s₁.setTop (mkF m 1 #[.val (.long q1), .second, .val (.long q2), .second, .unset, .unset] [(.long q1)])) (fun t k => XS.lloadN X0.here hx rfl (hb hby d1_0) rfl k) ?_
  refine own_st (B := s₁.setTop (mkF m 4 #[.val (.long q1), .second, .val (.long q2), .second, .unset, .unset] [(.long (9223372036854775807 : Int64)), (.long q1)])) (fun t k => X0.ldc2Long hx hown (mvT hZ (w_0 hw)) (g := (mkF m 1 #[.val (.long q1), .second, .val (.long q2), .second, .unset, .unset] [(.long q1)])) rfl (hb hby d1_1) _ k) ?_
  refine own_st (B := s₁.setTop (mkF m 5 #[.val (.long q1), .second, .val (.long q2), .second, .unset, .unset] [(.long (q1 &&& (9223372036854775807 : Int64)))])) (fun t k => XS.land X0.here hx rfl (hb hby d1_4) rfl k) ?_
  obtain ⟨v1, ev1⟩ : ∃ z : Int64, z = (q1 &&& (9223372036854775807 : Int64)) := ⟨_, rfl⟩
  rw [← ev1]
  refine own_st (B := s₁.setTop (mkF m 7 #[.val (.long q1), .second, .val (.long q2), .second, .val (.long v1), .second] [])) (fun t k => XS.lstore X0.here hx rfl (hb hby d1_5) rfl (l' := #[.val (.long q1), .second, .val (.long q2), .second, .val (.long v1), .second]) rfl k) ?_
  refine own_st (B := s₁.setTop (mkF m 8 #[.val (.long q1), .second, .val (.long q2), .second, .val (.long v1), .second] [(.long q2)])) (fun t k => XS.lloadN X0.here hx rfl (hb hby d1_7) rfl k) ?_
  refine own_st (B := s₁.setTop (mkF m 11 #[.val (.long q1), .second, .val (.long q2), .second, .val (.long v1), .second] [(.long (9223372036854775807 : Int64)), (.long q2)])) (fun t k => X0.ldc2Long hx hown (mvT hZ (w_0 hw)) (g := (mkF m 8 #[.val (.long q1), .second, .val (.long q2), .second, .val (.long v1), .second] [(.long q2)])) rfl (hb hby d1_8) _ k) ?_
  refine own_st (B := s₁.setTop (mkF m 12 #[.val (.long q1), .second, .val (.long q2), .second, .val (.long v1), .second] [(.int (XT.cmpL q2 (9223372036854775807 : Int64)))])) (fun t k => XS.lcmp X0.here hx rfl (hb hby d1_11) rfl k) ?_
  by_cases hc2 : q2 = (9223372036854775807 : Int64)
  · refine own_st (B := s₁.setTop (mkF m 15 #[.val (.long q1), .second, .val (.long q2), .second, .val (.long v1), .second] [])) (fun t k => XS.ifNo X0.here hx rfl (hb hby d1_12) rfl (XT.ll_ne_f hc2) k) ?_
    refine own_st (B := s₁.setTop (mkF m 17 #[.val (.long q1), .second, .val (.long q2), .second, .val (.long v1), .second] [(.long v1)])) (fun t k => XS.lload X0.here hx rfl (hb hby d1_15) rfl k) ?_
    refine own_retJ X0 hx hlk Bd.returns (hb hby d1_17) (by decide) (by decide) ?_
    show Q1 Z q1 q2 h0 n0 _ s₁.heap _
    rw [e0]
    exact ⟨(by subst v1; unfold own_f1; rw [if_pos hc2]), N0, rfl⟩
  · refine own_st (B := s₁.setTop (mkF m 18 #[.val (.long q1), .second, .val (.long q2), .second, .val (.long v1), .second] [])) (fun t k => XS.ifYes X0.here hx rfl (pc0 := 12) (pc' := 18) rfl (hb hby d1_12) rfl (XT.ll_ne_t hc2) (by decide) (by decide) k) ?_
    refine own_st (B := s₁.setTop (mkF m 20 #[.val (.long q1), .second, .val (.long q2), .second, .val (.long v1), .second] [(.long v1)])) (fun t k => XS.lload X0.here hx rfl (hb hby d1_18) rfl k) ?_
    refine own_st (B := s₁.setTop (mkF m 21 #[.val (.long q1), .second, .val (.long q2), .second, .val (.long v1), .second] [(.long q2), (.long v1)])) (fun t k => XS.lloadN X0.here hx rfl (hb hby d1_20) rfl k) ?_
    refine own_st (B := s₁.setTop (mkF m 22 #[.val (.long q1), .second, .val (.long q2), .second, .val (.long v1), .second] [(.long (1 : Int64)), (.long q2), (.long v1)])) (fun t k => XS.lconst X0.here hx rfl (hb hby d1_21) k) ?_
    refine own_st (B := s₁.setTop (mkF m 23 #[.val (.long q1), .second, .val (.long q2), .second, .val (.long v1), .second] [(.long (q2 + (1 : Int64))), (.long v1)])) (fun t k => XS.ladd X0.here hx rfl (hb hby d1_22) rfl k) ?_
    refine own_st (B := s₁.setTop (mkF m 24 #[.val (.long q1), .second, .val (.long q2), .second, .val (.long v1), .second] [(.long (v1 % (q2 + (1 : Int64))))])) (fun t k => own_lrem X0 hx (g := (mkF m 23 #[.val (.long q1), .second, .val (.long q2), .second, .val (.long v1), .second] [(.long (q2 + (1 : Int64))), (.long v1)])) rfl (x := v1) (y := (q2 + (1 : Int64))) (rest := []) (hb hby d1_23) rfl (own_nz hm hc2) k) ?_
    refine own_retJ X0 hx hlk Bd.returns (hb hby d1_24) (by decide) (by decide) ?_
    show Q1 Z q1 q2 h0 n0 _ s₁.heap _
    rw [e0]
    exact ⟨(by subst v1; unfold own_f1; rw [if_neg hc2]), N0, rfl⟩
theorem own_pn2 : plainName "java/util/AbstractCollection" = true := by first | (simp [plainName, overriddenIn]; done) | decide +kernel
theorem d6_0 : decode jdk_22_method_1_code 0 = .ok (.aload_n 0, 1) := by decide +kernel
theorem d6_1 : decode jdk_22_method_1_code 1 = .ok (.invokespecial 1, 3) := by decide +kernel
theorem d6_4 : decode jdk_22_method_1_code 4 = .ok (.return_, 1) := by decide +kernel
theorem ef_6 (m : MethodId) (x0 : Addr) : entryFrame m #[(.ref x0)] 1 = mkF m 0 #[.val (.ref x0)] [] := by first | (simp [entryFrame, mkF, argsToLocals, Value.category]; done) | rfl
def Q6 (Z : State) (a1 : Addr) (h0 : Heap) (n0 : Nat) (v : Option Value) (h : Heap) (L : List Loc) : Prop := v = none ∧ Fr n0 L ∧ h = h0
set_option maxHeartbeats 40000000 in
theorem rm6 (l : Launch) (Z : State) (a0 : Array Value) (hw : ∀ d ∈ tables_1, d.before a0 Z = true) (ws : List Jvm.Cond) (a1 : Addr) (h0 : Heap) (n0 : Nat) (Z0 : n0 ≤ h0.size) :
    MetFree l (⟨"java/util/AbstractCollection", "<init>", "()V"⟩ : MethodName) (head1 (Jvm.Cond.code (⟨"java/util/AbstractCollection", "<init>", "()V"⟩ : MethodName) jdk_22_method_1_code 1 none :: ws) ({ frames := 1, cells := 0, slots := 0, locals := 12 } : Room)) (fun a U => a = #[(.ref a1)] ∧ Z.Warmed39 U.vm ∧ U.heap = h0) (fun _ _ _ _ _ => True) (fun _ U o U' => ∃ v L, o = .returned v ∧ Q6 Z a1 h0 n0 v U'.heap L ∧ FrameEnd U o U' L ({ frames := 1, cells := 0, slots := 0, locals := 12 } : Room).cells ({ frames := 1, cells := 0, slots := 0, locals := 12 } : Room).slots) := by
  refine MetFree.of_bodySF (plainFor_of_name own_pn2) hisR ?_
  intro p e s m args below meth c s₁ Bd hml0 hP hK
  obtain ⟨rfl, hZ, hh⟩ := hP
  have hx := Bd.exec
  have hby := Bd.bytes
  have hml : c.maxLocals = 1 := hml0
  have hlk : meth.locks = false := BodyLoose.notSynchronized Bd
  have hown : s.vm.findClass "java/util/AbstractCollection" = some m.cls := findClass_of_methodNamed Bd.named
  have hnm := (name_of_methodNamed Bd.named Bd.method).1
  have X0 : Stand p l e ({ frames := 1, cells := 0, slots := 0, locals := 12 } : Room) s m #[(.ref a1)] below meth c s₁ [] 0 0 := Stand.of_body Bd
  have e0 : s₁.heap = h0 := by rw [← hh, Bd.state]; rfl
  have N0 := Fr.nil n0
  show own_Go p e below s (Q6 Z a1 h0 n0) ({ frames := 1, cells := 0, slots := 0, locals := 12 } : Room).cells ({ frames := 1, cells := 0, slots := 0, locals := 12 } : Room).slots _
  refine own_st (B := s₁.setTop (mkF m 0 #[.val (.ref a1)] [])) (fun t k => castTop (ef_6 m (a1)) k) ?_
  refine own_st (B := s₁.setTop (mkF m 1 #[.val (.ref a1)] [(.ref a1)])) (fun t k => XS.aloadN X0.here hx rfl (hb hby d6_0) rfl rfl k) ?_
  obtain ⟨T1, X1, e1, st1⟩ := initO X0 hx hZ hown (w_32 hw) (w_12 hw) (w_13 hw) e0 (g := (mkF m 1 #[.val (.ref a1)] [(.ref a1)])) rfl (by rw [hml]; rfl) rfl (hb hby d6_1) (by decide) (W := 0) (by show 2 * 0 + _ ≤ _; exact Nat.le_of_eq rfl) (by decide)
  refine own_st (B := T1.setTop (mkF m 4 #[.val (.ref a1)] [])) (fun t k => st1 t k) ?_
  refine own_retV X1 hx hlk Bd.returns (hb hby d6_4) (by decide) (by decide) ?_
  show Q6 Z a1 h0 n0 _ T1.heap _
  rw [e1]
  exact ⟨rfl, N0, rfl⟩
theorem own_pd2 : parseMethodDescriptor "()V" = some ⟨[], none⟩ := by decide +kernel
theorem own_pn3 : plainName "java/util/AbstractList" = true := by first | (simp [plainName, overriddenIn]; done) | decide +kernel
theorem d5_0 : decode jdk_39_method_1_code 0 = .ok (.aload_n 0, 1) := by decide +kernel
theorem d5_1 : decode jdk_39_method_1_code 1 = .ok (.invokespecial 1, 3) := by decide +kernel
theorem d5_4 : decode jdk_39_method_1_code 4 = .ok (.aload_n 0, 1) := by decide +kernel
theorem d5_5 : decode jdk_39_method_1_code 5 = .ok (.iconst 0, 1) := by decide +kernel
theorem d5_6 : decode jdk_39_method_1_code 6 = .ok (.putfield 7, 3) := by decide +kernel
theorem d5_9 : decode jdk_39_method_1_code 9 = .ok (.return_, 1) := by decide +kernel
theorem ef_5 (m : MethodId) (x0 : Addr) : entryFrame m #[(.ref x0)] 1 = mkF m 0 #[.val (.ref x0)] [] := by first | (simp [entryFrame, mkF, argsToLocals, Value.category]; done) | rfl
def Q5 (Z : State) (a1 : Addr) (h0 : Heap) (n0 : Nat) (v : Option Value) (h : Heap) (L : List Loc) : Prop := v = none ∧ Fr n0 L ∧ Keep h0 h [a1] ∧ Exa Z h a1 "java/util/ArrayList" ∧ Fld Z h a1 "java/util/ArrayList" "elementData" "[Ljava/lang/Object;" .null
set_option maxHeartbeats 40000000 in
theorem rm5 (l : Launch) (Z : State) (a0 : Array Value) (hw : ∀ d ∈ tables_1, d.before a0 Z = true) (ws : List Jvm.Cond) (a1 : Addr) (h0 : Heap) (n0 : Nat) (Z0 : n0 ≤ h0.size) (F0 : Exa Z h0 a1 "java/util/ArrayList") (F1 : Fld Z h0 a1 "java/util/AbstractList" "modCount" "I" (.int (0 : Int32))) (F2 : Fld Z h0 a1 "java/util/ArrayList" "elementData" "[Ljava/lang/Object;" .null) (ga : n0 ≤ a1) :
    MetFree l (⟨"java/util/AbstractList", "<init>", "()V"⟩ : MethodName) (head1 (Jvm.Cond.code (⟨"java/util/AbstractList", "<init>", "()V"⟩ : MethodName) jdk_39_method_1_code 1 none :: ws) ({ frames := 2, cells := 0, slots := 0, locals := 24 } : Room)) (fun a U => a = #[(.ref a1)] ∧ Z.Warmed39 U.vm ∧ U.heap = h0) (fun _ _ _ _ _ => True) (fun _ U o U' => ∃ v L, o = .returned v ∧ Q5 Z a1 h0 n0 v U'.heap L ∧ FrameEnd U o U' L ({ frames := 2, cells := 0, slots := 0, locals := 24 } : Room).cells ({ frames := 2, cells := 0, slots := 0, locals := 24 } : Room).slots) := by
  refine MetFree.of_bodySF (plainFor_of_name own_pn3) hisR ?_
  intro p e s m args below meth c s₁ Bd hml0 hP hK
  obtain ⟨rfl, hZ, hh⟩ := hP
  have hx := Bd.exec
  have hby := Bd.bytes
  have hml : c.maxLocals = 1 := hml0
  have hlk : meth.locks = false := BodyLoose.notSynchronized Bd
  have hown : s.vm.findClass "java/util/AbstractList" = some m.cls := findClass_of_methodNamed Bd.named
  have hnm := (name_of_methodNamed Bd.named Bd.method).1
  have X0 : Stand p l e ({ frames := 2, cells := 0, slots := 0, locals := 24 } : Room) s m #[(.ref a1)] below meth c s₁ [] 0 0 := Stand.of_body Bd
  have e0 : s₁.heap = h0 := by rw [← hh, Bd.state]; rfl
  have N0 := Fr.nil n0
  show own_Go p e below s (Q5 Z a1 h0 n0) ({ frames := 2, cells := 0, slots := 0, locals := 24 } : Room).cells ({ frames := 2, cells := 0, slots := 0, locals := 24 } : Room).slots _
  refine own_st (B := s₁.setTop (mkF m 0 #[.val (.ref a1)] [])) (fun t k => castTop (ef_5 m (a1)) k) ?_
  refine own_st (B := s₁.setTop (mkF m 1 #[.val (.ref a1)] [(.ref a1)])) (fun t k => XS.aloadN X0.here hx rfl (hb hby d5_0) rfl rfl k) ?_
  obtain ⟨_, _, ⟨T1, L1, k1, j1⟩, -, X1, ⟨Lc1, hQ1, l1, y1_, z1_⟩, st1⟩ := X0.specialBack hx (y := (⟨"java/util/AbstractCollection", "<init>", "()V"⟩ : MethodName)) rfl hown (mvT hZ (w_26 hw)) (mvT hZ (w_27 hw)) (mvT hZ (w_31 hw)) (by decide) (backOf (W := 0) (rm6 l Z a0 hw [] a1 h0 n0 Z0 ) hZ (w_31 hw) (w_30 hw) (by decide) (by decide)) (g := (mkF m 1 #[.val (.ref a1)] [(.ref a1)])) rfl (by rw [hml]; rfl) (Steps.refl _) (a := a1) (argsL := []) (rest := []) (lenOf own_pd2 rfl) rfl (by show 2 * 0 + _ ≤ _; exact Nat.le_of_eq rfl) (hb hby d5_1) (fun _ _ => ⟨rfl, e0, (by decide : 0 + 0 ≤ _), (by decide : 0 + 0 ≤ _)⟩)
  dsimp only [Pt.U, Pt.locs, Pt.cells, Pt.slots] at X1 l1 y1_ z1_ st1 hQ1
  subst l1 y1_ z1_
  obtain ⟨rfl, N1q, e1q⟩ := hQ1
  have N1 := Fr.app N0 N1q
  refine own_ss (B := T1.setTop (mkF m 4 #[.val (.ref a1)] [])) st1 ?_
  refine own_st (B := T1.setTop (mkF m 5 #[.val (.ref a1)] [(.ref a1)])) (fun t k => XS.aloadN X1.here hx rfl (hb hby d5_4) rfl rfl k) ?_
  refine own_st (B := T1.setTop (mkF m 6 #[.val (.ref a1)] [(.int (0 : Int32)), (.ref a1)])) (fun t k => XS.iconst X1.here hx rfl (hb hby d5_5) k) ?_
  obtain ⟨T2, h2, X2, e2, W2, st2⟩ := putF X1 hx hZ hown (host := "") (Or.inl (w_33 hw)) Via.refl e1q F1 F0 (Or.inl (w_34 hw)) (w_15 hw) (ty := .int) (by decide) rfl rfl (g := (mkF m 6 #[.val (.ref a1)] [(.int (0 : Int32)), (.ref a1)])) rfl rfl (hb hby d5_6)
  have f2_ : Fld Z h2 a1 "java/util/AbstractList" "modCount" "I" (.int (0 : Int32)) := F1.same W2
  have z3 : n0 ≤ h2.size := Nat.le_trans Z0 (Keep.of_wr W2).1
  have kp3 : Keep h0 h2 [a1] := (Keep.refl h0 [a1]).wr W2 (Or.inl (List.mem_of_getElem? (i := 0) rfl))
  have n4 := Fr.snoc X2 N1 ga
  refine own_st (B := T2.setTop (mkF m 9 #[.val (.ref a1)] [])) (fun t k => st2 t k) ?_
  refine own_retV X2 hx hlk Bd.returns (hb hby d5_9) (by decide) (by decide) ?_
  show Q5 Z a1 h0 n0 _ T2.heap _
  rw [e2]
  have f5 : Exa Z h2 a1 "java/util/ArrayList" := (F0.wr W2)
  have f6 : Fld Z h2 a1 "java/util/ArrayList" "elementData" "[Ljava/lang/Object;" .null := (F2.other W2 (Or.inr (slot_ne (Or.inl (w_37 hw)) (Or.inl (w_34 hw)) (by decide) (t := (.array (.object "java/lang/Object"))) (t' := .int) (by decide) (by decide))))
  exact ⟨rfl, n4, kp3, f5, f6⟩
theorem own_pn4 : plainName "java/util/ArrayList" = true := by first | (simp [plainName, overriddenIn]; done) | decide +kernel
theorem d4_0 : decode jdk_38_method_2_code 0 = .ok (.aload_n 0, 1) := by decide +kernel
theorem d4_1 : decode jdk_38_method_2_code 1 = .ok (.invokespecial 1, 3) := by decide +kernel
theorem d4_4 : decode jdk_38_method_2_code 4 = .ok (.aload_n 0, 1) := by decide +kernel
theorem d4_5 : decode jdk_38_method_2_code 5 = .ok (.getstatic 39, 3) := by decide +kernel
theorem d4_8 : decode jdk_38_method_2_code 8 = .ok (.putfield 9, 3) := by decide +kernel
theorem d4_11 : decode jdk_38_method_2_code 11 = .ok (.return_, 1) := by decide +kernel
theorem ef_4 (m : MethodId) (x0 : Addr) : entryFrame m #[(.ref x0)] 1 = mkF m 0 #[.val (.ref x0)] [] := by first | (simp [entryFrame, mkF, argsToLocals, Value.category]; done) | rfl
def Q4 (Z : State) (a1 : Addr) (r1 : Addr) (h0 : Heap) (n0 : Nat) (v : Option Value) (h : Heap) (L : List Loc) : Prop := v = none ∧ Fr n0 L ∧ Keep h0 h [a1] ∧ Exa Z h a1 "java/util/ArrayList"
set_option maxHeartbeats 40000000 in
theorem rm4 (l : Launch) (Z : State) (a0 : Array Value) (hw : ∀ d ∈ tables_1, d.before a0 Z = true) (ws : List Jvm.Cond) (a1 : Addr) (r1 : Addr) (h0 : Heap) (n0 : Nat) (Z0 : n0 ≤ h0.size) (F0 : Exa Z h0 a1 "java/util/ArrayList") (F1 : Fld Z h0 a1 "java/util/AbstractList" "modCount" "I" (.int (0 : Int32))) (F2 : Fld Z h0 a1 "java/util/ArrayList" "elementData" "[Ljava/lang/Object;" .null) (F3 : Sta Z h0 "java/util/ArrayList" "DEFAULTCAPACITY_EMPTY_ELEMENTDATA" "[Ljava/lang/Object;" (.ref r1)) (ga : n0 ≤ a1) :
    MetFree l (⟨"java/util/ArrayList", "<init>", "()V"⟩ : MethodName) (head1 (Jvm.Cond.code (⟨"java/util/ArrayList", "<init>", "()V"⟩ : MethodName) jdk_38_method_2_code 1 none :: ws) ({ frames := 3, cells := 0, slots := 0, locals := 36 } : Room)) (fun a U => a = #[(.ref a1)] ∧ Z.Warmed39 U.vm ∧ U.heap = h0) (fun _ _ _ _ _ => True) (fun _ U o U' => ∃ v L, o = .returned v ∧ Q4 Z a1 r1 h0 n0 v U'.heap L ∧ FrameEnd U o U' L ({ frames := 3, cells := 0, slots := 0, locals := 36 } : Room).cells ({ frames := 3, cells := 0, slots := 0, locals := 36 } : Room).slots) := by
  refine MetFree.of_bodySF (plainFor_of_name own_pn4) hisR ?_
  intro p e s m args below meth c s₁ Bd hml0 hP hK
  obtain ⟨rfl, hZ, hh⟩ := hP
  have hx := Bd.exec
  have hby := Bd.bytes
  have hml : c.maxLocals = 1 := hml0
  have hlk : meth.locks = false := BodyLoose.notSynchronized Bd
  have hown : s.vm.findClass "java/util/ArrayList" = some m.cls := findClass_of_methodNamed Bd.named
  have hnm := (name_of_methodNamed Bd.named Bd.method).1
  have X0 : Stand p l e ({ frames := 3, cells := 0, slots := 0, locals := 36 } : Room) s m #[(.ref a1)] below meth c s₁ [] 0 0 := Stand.of_body Bd
  have e0 : s₁.heap = h0 := by rw [← hh, Bd.state]; rfl
  have N0 := Fr.nil n0
  show own_Go p e below s (Q4 Z a1 r1 h0 n0) ({ frames := 3, cells := 0, slots := 0, locals := 36 } : Room).cells ({ frames := 3, cells := 0, slots := 0, locals := 36 } : Room).slots _
  refine own_st (B := s₁.setTop (mkF m 0 #[.val (.ref a1)] [])) (fun t k => castTop (ef_4 m (a1)) k) ?_
  refine own_st (B := s₁.setTop (mkF m 1 #[.val (.ref a1)] [(.ref a1)])) (fun t k => XS.aloadN X0.here hx rfl (hb hby d4_0) rfl rfl k) ?_
  obtain ⟨_, _, ⟨T1, L1, k1, j1⟩, -, X1, ⟨Lc1, hQ1, l1, y1_, z1_⟩, st1⟩ := X0.specialBack hx (y := (⟨"java/util/AbstractList", "<init>", "()V"⟩ : MethodName)) rfl hown (mvT hZ (w_20 hw)) (mvT hZ (w_21 hw)) (mvT hZ (w_25 hw)) (by decide) (backOf (W := 0) (rm5 l Z a0 hw [] a1 h0 n0 Z0 F0 F1 F2 ga) hZ (w_25 hw) (w_24 hw) (by decide) (by decide)) (g := (mkF m 1 #[.val (.ref a1)] [(.ref a1)])) rfl (by rw [hml]; rfl) (Steps.refl _) (a := a1) (argsL := []) (rest := []) (lenOf own_pd2 rfl) rfl (by show 2 * 0 + _ ≤ _; exact Nat.le_of_eq rfl) (hb hby d4_1) (fun _ _ => ⟨rfl, e0, (by decide : 0 + 0 ≤ _), (by decide : 0 + 0 ≤ _)⟩)
  dsimp only [Pt.U, Pt.locs, Pt.cells, Pt.slots] at X1 l1 y1_ z1_ st1 hQ1
  subst l1 y1_ z1_
  obtain ⟨rfl, N1q, K1, p1_0, p1_1⟩ := hQ1
  have N1 := Fr.app N0 N1q
  have z2 : n0 ≤ T1.heap.size := Nat.le_trans Z0 K1.1
  have kp2 : Keep h0 T1.heap [a1] := (Keep.refl h0 [a1]).trans K1 (allS (Or.inl (List.mem_of_getElem? (i := 0) rfl)) all0)
  refine own_ss (B := T1.setTop (mkF m 4 #[.val (.ref a1)] [])) st1 ?_
  refine own_st (B := T1.setTop (mkF m 5 #[.val (.ref a1)] [(.ref a1)])) (fun t k => XS.aloadN X1.here hx rfl (hb hby d4_4) rfl rfl k) ?_
  have f3 : Sta Z T1.heap "java/util/ArrayList" "DEFAULTCAPACITY_EMPTY_ELEMENTDATA" "[Ljava/lang/Object;" (.ref r1) := (own_Sta.keep F3 K1 (show ∀ st ∈ [a1], ∀ cell : Cell, h0[st]? = some cell → cell.vm.isStatics = false from (allS (own_plainE F0) all0)))
  obtain ⟨T4, X4, e4, st4⟩ := getS2 X1 hx hZ hown (host := "") (Or.inl (w_35 hw)) Via.refl rfl f3 (g := (mkF m 5 #[.val (.ref a1)] [(.ref a1)])) rfl (hb hby d4_5)
  refine own_st (B := T4.setTop (mkF m 8 #[.val (.ref a1)] [(.ref r1), (.ref a1)])) (fun t k => st4 t k) ?_
  obtain ⟨T5, h5, X5, e5, W5, st5⟩ := putF X4 hx hZ hown (host := "") (Or.inl (w_36 hw)) Via.refl e4 p1_1 p1_0 (Or.inl (w_37 hw)) (w_15 hw) (ty := (.array (.object "java/lang/Object"))) (by decide) rfl rfl (g := (mkF m 8 #[.val (.ref a1)] [(.ref r1), (.ref a1)])) rfl rfl (hb hby d4_8)
  have f5_ : Fld Z h5 a1 "java/util/ArrayList" "elementData" "[Ljava/lang/Object;" (.ref r1) := p1_1.same W5
  have z6 : n0 ≤ h5.size := Nat.le_trans z2 (Keep.of_wr W5).1
  have kp6 : Keep h0 h5 [a1] := kp2.wr W5 (Or.inl (List.mem_of_getElem? (i := 0) rfl))
  have n7 := Fr.snoc X5 N1 ga
  refine own_st (B := T5.setTop (mkF m 11 #[.val (.ref a1)] [])) (fun t k => st5 t k) ?_
  refine own_retV X5 hx hlk Bd.returns (hb hby d4_11) (by decide) (by decide) ?_
  show Q4 Z a1 r1 h0 n0 _ T5.heap _
  rw [e5]
  have f8 : Exa Z h5 a1 "java/util/ArrayList" := (p1_0.wr W5)
  exact ⟨rfl, n7, kp6, f8⟩
theorem own_pn5 : plainName "dev/pathfire/json/Utf8Buffer" = true := by first | (simp [plainName, overriddenIn]; done) | decide +kernel
theorem d2_0 : decode prog_19_method_1_code 0 = .ok (.aload_n 0, 1) := by decide +kernel
theorem d2_1 : decode prog_19_method_1_code 1 = .ok (.invokespecial 1, 3) := by decide +kernel
theorem d2_4 : decode prog_19_method_1_code 4 = .ok (.aload_n 0, 1) := by decide +kernel
theorem d2_5 : decode prog_19_method_1_code 5 = .ok (.new 7, 3) := by decide +kernel
theorem d2_8 : decode prog_19_method_1_code 8 = .ok (.dup, 1) := by decide +kernel
theorem d2_9 : decode prog_19_method_1_code 9 = .ok (.invokespecial 9, 3) := by decide +kernel
theorem d2_12 : decode prog_19_method_1_code 12 = .ok (.putfield 10, 3) := by decide +kernel
theorem d2_15 : decode prog_19_method_1_code 15 = .ok (.aload_n 0, 1) := by decide +kernel
theorem d2_16 : decode prog_19_method_1_code 16 = .ok (.iconst 0, 1) := by decide +kernel
theorem d2_17 : decode prog_19_method_1_code 17 = .ok (.newarray .byte, 2) := by decide +kernel
theorem d2_19 : decode prog_19_method_1_code 19 = .ok (.putfield 16, 3) := by decide +kernel
theorem d2_22 : decode prog_19_method_1_code 22 = .ok (.aload_n 0, 1) := by decide +kernel
theorem d2_23 : decode prog_19_method_1_code 23 = .ok (.lload_n 1, 1) := by decide +kernel
theorem d2_24 : decode prog_19_method_1_code 24 = .ok (.putfield 20, 3) := by decide +kernel
theorem d2_27 : decode prog_19_method_1_code 27 = .ok (.return_, 1) := by decide +kernel
theorem ef_2 (m : MethodId) (x0 : Addr) (x1 : Int64) : entryFrame m #[(.ref x0), (.long x1)] 3 = mkF m 0 #[.val (.ref x0), .val (.long x1), .second] [] := by first | (simp [entryFrame, mkF, argsToLocals, Value.category]; done) | rfl
def Q2 (Z : State) (a1 : Addr) (q1 : Int64) (r1 : Addr) (h0 : Heap) (n0 : Nat) (v : Option Value) (h : Heap) (L : List Loc) : Prop := v = none ∧ Fr n0 L ∧ Keep h0 h [a1] ∧ Exa Z h a1 "dev/pathfire/json/Utf8Buffer" ∧ Fld Z h a1 "dev/pathfire/json/Utf8Buffer" "room" "J" (.long q1) ∧ Fld Z h a1 "dev/pathfire/json/Utf8Buffer" "size" "J" (.long (0 : Int64))
set_option maxHeartbeats 40000000 in
theorem rm2 (l : Launch) (Z : State) (a0 : Array Value) (hw : ∀ d ∈ tables_1, d.before a0 Z = true) (ws : List Jvm.Cond) (a1 : Addr) (q1 : Int64) (r1 : Addr) (h0 : Heap) (n0 : Nat) (Z0 : n0 ≤ h0.size) (F0 : Exa Z h0 a1 "dev/pathfire/json/Utf8Buffer") (F1 : Fld Z h0 a1 "dev/pathfire/json/Utf8Buffer" "chunks" "Ljava/util/List;" .null) (F2 : Fld Z h0 a1 "dev/pathfire/json/Utf8Buffer" "last" "[B" .null) (F3 : Fld Z h0 a1 "dev/pathfire/json/Utf8Buffer" "room" "J" (.long (0 : Int64))) (F4 : Fld Z h0 a1 "dev/pathfire/json/Utf8Buffer" "size" "J" (.long (0 : Int64))) (F5 : Sta Z h0 "java/util/ArrayList" "DEFAULTCAPACITY_EMPTY_ELEMENTDATA" "[Ljava/lang/Object;" (.ref r1)) (ga : n0 ≤ a1) :
    MetFree l (⟨"dev/pathfire/json/Utf8Buffer", "<init>", "(J)V"⟩ : MethodName) (head1 (Jvm.Cond.code (⟨"dev/pathfire/json/Utf8Buffer", "<init>", "(J)V"⟩ : MethodName) prog_19_method_1_code 3 none :: ws) ({ frames := 4, cells := 2, slots := 3, locals := 50 } : Room)) (fun a U => a = #[(.ref a1), (.long q1)] ∧ Z.Warmed39 U.vm ∧ U.heap = h0) (fun _ _ _ _ _ => True) (fun _ U o U' => ∃ v L, o = .returned v ∧ Q2 Z a1 q1 r1 h0 n0 v U'.heap L ∧ FrameEnd U o U' L ({ frames := 4, cells := 2, slots := 3, locals := 50 } : Room).cells ({ frames := 4, cells := 2, slots := 3, locals := 50 } : Room).slots) := by
  refine MetFree.of_bodySF (plainFor_of_name own_pn5) hisR ?_
  intro p e s m args below meth c s₁ Bd hml0 hP hK
  obtain ⟨rfl, hZ, hh⟩ := hP
  have hx := Bd.exec
  have hby := Bd.bytes
  have hml : c.maxLocals = 3 := hml0
  have hlk : meth.locks = false := BodyLoose.notSynchronized Bd
  have hown : s.vm.findClass "dev/pathfire/json/Utf8Buffer" = some m.cls := findClass_of_methodNamed Bd.named
  have hnm := (name_of_methodNamed Bd.named Bd.method).1
  have X0 : Stand p l e ({ frames := 4, cells := 2, slots := 3, locals := 50 } : Room) s m #[(.ref a1), (.long q1)] below meth c s₁ [] 0 0 := Stand.of_body Bd
  have e0 : s₁.heap = h0 := by rw [← hh, Bd.state]; rfl
  have N0 := Fr.nil n0
  show own_Go p e below s (Q2 Z a1 q1 r1 h0 n0) ({ frames := 4, cells := 2, slots := 3, locals := 50 } : Room).cells ({ frames := 4, cells := 2, slots := 3, locals := 50 } : Room).slots _
  refine own_st (B := s₁.setTop (mkF m 0 #[.val (.ref a1), .val (.long q1), .second] [])) (fun t k => castTop (ef_2 m (a1) (q1)) k) ?_
  refine own_st (B := s₁.setTop (mkF m 1 #[.val (.ref a1), .val (.long q1), .second] [(.ref a1)])) (fun t k => XS.aloadN X0.here hx rfl (hb hby d2_0) rfl rfl k) ?_
  obtain ⟨T1, X1, e1, st1⟩ := initO X0 hx hZ hown (w_11 hw) (w_12 hw) (w_13 hw) e0 (g := (mkF m 1 #[.val (.ref a1), .val (.long q1), .second] [(.ref a1)])) rfl (by rw [hml]; rfl) rfl (hb hby d2_1) (by decide) (W := 0) (by show 2 * 0 + _ ≤ _; exact Nat.le_of_eq rfl) (by decide)
  refine own_st (B := T1.setTop (mkF m 4 #[.val (.ref a1), .val (.long q1), .second] [])) (fun t k => st1 t k) ?_
  refine own_st (B := T1.setTop (mkF m 5 #[.val (.ref a1), .val (.long q1), .second] [(.ref a1)])) (fun t k => XS.aloadN X1.here hx rfl (hb hby d2_4) rfl rfl k) ?_
  obtain ⟨T2, h2, X2, e2, E2, A2, D2, -, st2⟩ := newO X1 hx hZ hown (w_14 hw) (w_15 hw) (w_16 hw) e1 (g := (mkF m 5 #[.val (.ref a1), .val (.long q1), .second] [(.ref a1)])) rfl (hb hby d2_5) (by decide) (by decide)
  obtain ⟨b2, g2⟩ : ∃ z, z = h0.size := ⟨_, rfl⟩
  rw [← g2] at A2 D2 st2
  have q2_a1 : a1 ≠ b2 := Nat.ne_of_lt (Nat.lt_of_lt_of_le F0.lt (Nat.le_of_eq g2.symm))
  have u2 : n0 ≤ b2 := Nat.le_trans Z0 (Nat.le_of_eq g2.symm)
  have y2 : h0.size ≤ b2 := Nat.le_trans (Keep.refl h0 [a1]).1 (Nat.le_of_eq g2.symm)
  have z3 : n0 ≤ h2.size := Nat.le_trans Z0 E2.1
  have kp3 : Keep h0 h2 [a1] := (Keep.refl h0 [a1]).ext E2
  have f4 : Fld Z h2 b2 "java/util/AbstractList" "modCount" "I" (.int (0 : Int32)) := D2 (Or.inl (w_34 hw)) (ty := .int) (by decide)
  have f5 : Fld Z h2 b2 "java/util/ArrayList" "elementData" "[Ljava/lang/Object;" .null := D2 (Or.inl (w_37 hw)) (ty := (.array (.object "java/lang/Object"))) (by decide)
  refine own_st (B := T2.setTop (mkF m 8 #[.val (.ref a1), .val (.long q1), .second] [(.ref b2), (.ref a1)])) (fun t k => st2 t k) ?_
  refine own_st (B := T2.setTop (mkF m 9 #[.val (.ref a1), .val (.long q1), .second] [(.ref b2), (.ref b2), (.ref a1)])) (fun t k => XS.dup X2.here hx rfl (hb hby d2_8) rfl rfl k) ?_
  have f6 : Sta Z h2 "java/util/ArrayList" "DEFAULTCAPACITY_EMPTY_ELEMENTDATA" "[Ljava/lang/Object;" (.ref r1) := (F5.ext E2)
  obtain ⟨_, _, ⟨T7, L7, k7, j7⟩, -, X7, ⟨Lc7, hQ7, l7, y7_, z7_⟩, st7⟩ := X2.specialBack hx (y := (⟨"java/util/ArrayList", "<init>", "()V"⟩ : MethodName)) rfl hown (mvT hZ (w_17 hw)) (mvT hZ (w_18 hw)) (mvT hZ (w_19 hw)) (by decide) (backOf (W := 2) (rm4 l Z a0 hw [] b2 r1 h2 n0 z3 A2 f4 f5 f6 u2) hZ (w_19 hw) (w_16 hw) (by decide) (by decide)) (g := (mkF m 9 #[.val (.ref a1), .val (.long q1), .second] [(.ref b2), (.ref b2), (.ref a1)])) rfl (by rw [hml]; rfl) (Steps.refl _) (a := b2) (argsL := []) (rest := [(.ref b2), (.ref a1)]) (lenOf own_pd2 rfl) rfl (by show 2 * 0 + _ ≤ _; exact Nat.le_of_eq rfl) (hb hby d2_9) (fun _ _ => ⟨rfl, e2, (by decide : 1 + 0 ≤ _), (by decide : 3 + 0 ≤ _)⟩)
  dsimp only [Pt.U, Pt.locs, Pt.cells, Pt.slots] at X7 l7 y7_ z7_ st7 hQ7
  subst l7 y7_ z7_
  obtain ⟨rfl, N7q, K7, p7_0⟩ := hQ7
  have N7 := Fr.app N0 N7q
  have z8 : n0 ≤ T7.heap.size := Nat.le_trans z3 K7.1
  have kp8 : Keep h0 T7.heap [a1] := kp3.trans K7 (allS (Or.inr y2) all0)
  refine own_ss (B := T7.setTop (mkF m 12 #[.val (.ref a1), .val (.long q1), .second] [(.ref b2), (.ref a1)])) st7 ?_
  have f9 : Exa Z T7.heap a1 "dev/pathfire/json/Utf8Buffer" := ((F0.ext E2).keep K7)
  have f10 : Fld Z T7.heap a1 "dev/pathfire/json/Utf8Buffer" "chunks" "Ljava/util/List;" .null := ((F1.ext E2).keep K7 (ninS q2_a1 nin0))
  obtain ⟨T11, h11, X11, e11, W11, st11⟩ := putF X7 hx hZ hown (host := "") (Or.inl (w_38 hw)) Via.refl rfl f10 f9 (Or.inr ⟨(w_39 hw), rfl, hnm⟩) (w_6 hw) (ty := (.object "java/util/List")) (by decide) rfl rfl (g := (mkF m 12 #[.val (.ref a1), .val (.long q1), .second] [(.ref b2), (.ref a1)])) rfl rfl (hb hby d2_12)
  have f11_ : Fld Z h11 a1 "dev/pathfire/json/Utf8Buffer" "chunks" "Ljava/util/List;" (.ref b2) := f10.same W11
  have z12 : n0 ≤ h11.size := Nat.le_trans z8 (Keep.of_wr W11).1
  have kp12 : Keep h0 h11 [a1] := kp8.wr W11 (Or.inl (List.mem_of_getElem? (i := 0) rfl))
  have n13 := Fr.snoc X11 N7 ga
  refine own_st (B := T11.setTop (mkF m 15 #[.val (.ref a1), .val (.long q1), .second] [])) (fun t k => st11 t k) ?_
  refine own_st (B := T11.setTop (mkF m 16 #[.val (.ref a1), .val (.long q1), .second] [(.ref a1)])) (fun t k => XS.aloadN X11.here hx rfl (hb hby d2_15) rfl rfl k) ?_
  refine own_st (B := T11.setTop (mkF m 17 #[.val (.ref a1), .val (.long q1), .second] [(.int (0 : Int32)), (.ref a1)])) (fun t k => XS.iconst X11.here hx rfl (hb hby d2_16) k) ?_
  obtain ⟨T14, h14, X14, e14, E14, A14, x14, st14⟩ := own_newP X11 hx hZ (aty := .byte) (w_40 hw) e11 (g := (mkF m 17 #[.val (.ref a1), .val (.long q1), .second] [(.int (0 : Int32)), (.ref a1)])) rfl (hb hby d2_17) (n := (0 : Int32)) (rest := [(.ref a1)]) rfl (k := 0) (cap := 0) (by decide) (Nat.le_refl _) (by decide) (by decide) (by decide) (ad := "[B") rfl
  obtain ⟨b14, g14⟩ : ∃ z, z = h11.size := ⟨_, rfl⟩
  rw [← g14] at A14 x14 st14
  have f15 : Exa Z h11 a1 "dev/pathfire/json/Utf8Buffer" := (f9.wr W11)
  have q14_a1 : a1 ≠ b14 := Nat.ne_of_lt (Nat.lt_of_lt_of_le f15.lt (Nat.le_of_eq g14.symm))
  have f16 : Exa Z h11 b2 "java/util/ArrayList" := (p7_0.wr W11)
  have q14_b2 : b2 ≠ b14 := Nat.ne_of_lt (Nat.lt_of_lt_of_le f16.lt (Nat.le_of_eq g14.symm))
  have u14 : n0 ≤ b14 := Nat.le_trans z12 (Nat.le_of_eq g14.symm)
  have y14 : h0.size ≤ b14 := Nat.le_trans kp12.1 (Nat.le_of_eq g14.symm)
  have z17 : n0 ≤ h14.size := Nat.le_trans z12 E14.1
  have kp17 : Keep h0 h14 [a1] := kp12.ext E14
  have f14_ : own_A Z h14 b14 .byte [] := A14
  refine own_st (B := T14.setTop (mkF m 19 #[.val (.ref a1), .val (.long q1), .second] [(.ref b14), (.ref a1)])) (fun t k => st14 t k) ?_
  have f18 : Exa Z h14 a1 "dev/pathfire/json/Utf8Buffer" := (f15.ext E14)
  have f19 : Fld Z h14 a1 "dev/pathfire/json/Utf8Buffer" "last" "[B" .null := ((((F2.ext E2).keep K7 (ninS q2_a1 nin0)).other W11 (Or.inr (slot_ne (Or.inl (w_42 hw)) (Or.inr (w_39 hw)) (by decide) (t := (.array .byte)) (t' := (.object "java/util/List")) (by decide) (by decide)))).ext E14)
  obtain ⟨T20, h20, X20, e20, W20, st20⟩ := putF X14 hx hZ hown (host := "") (Or.inl (w_41 hw)) Via.refl e14 f19 f18 (Or.inl (w_42 hw)) (w_6 hw) (ty := (.array .byte)) (by decide) rfl rfl (g := (mkF m 19 #[.val (.ref a1), .val (.long q1), .second] [(.ref b14), (.ref a1)])) rfl rfl (hb hby d2_19)
  have f20_ : Fld Z h20 a1 "dev/pathfire/json/Utf8Buffer" "last" "[B" (.ref b14) := f19.same W20
  have z21 : n0 ≤ h20.size := Nat.le_trans z17 (Keep.of_wr W20).1
  have kp21 : Keep h0 h20 [a1] := kp17.wr W20 (Or.inl (List.mem_of_getElem? (i := 0) rfl))
  have n22 := Fr.snoc X20 n13 ga
  refine own_st (B := T20.setTop (mkF m 22 #[.val (.ref a1), .val (.long q1), .second] [])) (fun t k => st20 t k) ?_
  refine own_st (B := T20.setTop (mkF m 23 #[.val (.ref a1), .val (.long q1), .second] [(.ref a1)])) (fun t k => XS.aloadN X20.here hx rfl (hb hby d2_22) rfl rfl k) ?_
  refine own_st (B := T20.setTop (mkF m 24 #[.val (.ref a1), .val (.long q1), .second] [(.long q1), (.ref a1)])) (fun t k => XS.lloadN X20.here hx rfl (hb hby d2_23) rfl k) ?_
  have f23 : Exa Z h20 a1 "dev/pathfire/json/Utf8Buffer" := (f18.wr W20)
  have f24 : Fld Z h20 a1 "dev/pathfire/json/Utf8Buffer" "room" "J" (.long (0 : Int64)) := (((((F3.ext E2).keep K7 (ninS q2_a1 nin0)).other W11 (Or.inr (slot_ne (Or.inl (w_44 hw)) (Or.inr (w_39 hw)) (by decide) (t := .long) (t' := (.object "java/util/List")) (by decide) (by decide)))).ext E14).other W20 (Or.inr (slot_ne (Or.inl (w_44 hw)) (Or.inl (w_42 hw)) (by decide) (t := .long) (t' := (.array .byte)) (by decide) (by decide))))
  obtain ⟨T25, h25, X25, e25, W25, st25⟩ := putF X20 hx hZ hown (host := "") (Or.inl (w_43 hw)) Via.refl e20 f24 f23 (Or.inl (w_44 hw)) (w_6 hw) (ty := .long) (by decide) rfl rfl (g := (mkF m 24 #[.val (.ref a1), .val (.long q1), .second] [(.long q1), (.ref a1)])) rfl rfl (hb hby d2_24)
  have f25_ : Fld Z h25 a1 "dev/pathfire/json/Utf8Buffer" "room" "J" (.long q1) := f24.same W25
  have z26 : n0 ≤ h25.size := Nat.le_trans z21 (Keep.of_wr W25).1
  have kp26 : Keep h0 h25 [a1] := kp21.wr W25 (Or.inl (List.mem_of_getElem? (i := 0) rfl))
  have n27 := Fr.snoc X25 n22 ga
  refine own_st (B := T25.setTop (mkF m 27 #[.val (.ref a1), .val (.long q1), .second] [])) (fun t k => st25 t k) ?_
  refine own_retV X25 hx hlk Bd.returns (hb hby d2_27) (by decide) (by decide) ?_
  show Q2 Z a1 q1 r1 h0 n0 _ T25.heap _
  rw [e25]
  have f28 : Exa Z h25 a1 "dev/pathfire/json/Utf8Buffer" := (f23.wr W25)
  have f29 : Fld Z h25 a1 "dev/pathfire/json/Utf8Buffer" "size" "J" (.long (0 : Int64)) := ((((((F4.ext E2).keep K7 (ninS q2_a1 nin0)).other W11 (Or.inr (slot_ne (Or.inl (w_61 hw)) (Or.inr (w_39 hw)) (by decide) (t := .long) (t' := (.object "java/util/List")) (by decide) (by decide)))).ext E14).other W20 (Or.inr (slot_ne (Or.inl (w_61 hw)) (Or.inl (w_42 hw)) (by decide) (t := .long) (t' := (.array .byte)) (by decide) (by decide)))).other W25 (Or.inr (slot_ne (Or.inl (w_61 hw)) (Or.inl (w_44 hw)) (by decide) (t := .long) (t' := .long) (by decide) (by decide))))
  exact ⟨rfl, n27, kp26, f28, f25_, f29⟩
theorem d7_0 : decode prog_19_method_3_code 0 = .ok (.lload_n 1, 1) := by decide +kernel
theorem d7_1 : decode prog_19_method_3_code 1 = .ok (.aload_n 0, 1) := by decide +kernel
theorem d7_2 : decode prog_19_method_3_code 2 = .ok (.getfield 20, 3) := by decide +kernel
theorem d7_5 : decode prog_19_method_3_code 5 = .ok (.lcmp, 1) := by decide +kernel
theorem d7_6 : decode prog_19_method_3_code 6 = .ok (.ifCond .le 11, 3) := by decide +kernel
theorem d7_17 : decode prog_19_method_3_code 17 = .ok (.aload_n 0, 1) := by decide +kernel
theorem d7_18 : decode prog_19_method_3_code 18 = .ok (.dup, 1) := by decide +kernel
theorem d7_19 : decode prog_19_method_3_code 19 = .ok (.getfield 20, 3) := by decide +kernel
theorem d7_22 : decode prog_19_method_3_code 22 = .ok (.lload_n 1, 1) := by decide +kernel
theorem d7_23 : decode prog_19_method_3_code 23 = .ok (.lsub, 1) := by decide +kernel
theorem d7_24 : decode prog_19_method_3_code 24 = .ok (.putfield 20, 3) := by decide +kernel
theorem d7_27 : decode prog_19_method_3_code 27 = .ok (.return_, 1) := by decide +kernel
theorem ef_7 (m : MethodId) (x0 : Addr) (x1 : Int64) : entryFrame m #[(.ref x0), (.long x1)] 3 = mkF m 0 #[.val (.ref x0), .val (.long x1), .second] [] := by first | (simp [entryFrame, mkF, argsToLocals, Value.category]; done) | rfl
def Q7 (Z : State) (a1 : Addr) (q1 : Int64) (r0 : Int64) (z0 : Int64) (h0 : Heap) (n0 : Nat) (v : Option Value) (h : Heap) (L : List Loc) : Prop := v = none ∧ Fr n0 L ∧ Keep h0 h [a1] ∧ Exa Z h a1 "dev/pathfire/json/Utf8Buffer" ∧ Fld Z h a1 "dev/pathfire/json/Utf8Buffer" "room" "J" (.long (r0 - q1)) ∧ Fld Z h a1 "dev/pathfire/json/Utf8Buffer" "size" "J" (.long z0)
set_option maxHeartbeats 40000000 in
theorem rm7 (l : Launch) (Z : State) (a0 : Array Value) (hw : ∀ d ∈ tables_1, d.before a0 Z = true) (ws : List Jvm.Cond) (a1 : Addr) (q1 : Int64) (r0 : Int64) (z0 : Int64) (h0 : Heap) (n0 : Nat) (Z0 : n0 ≤ h0.size) (F0 : Exa Z h0 a1 "dev/pathfire/json/Utf8Buffer") (F1 : Fld Z h0 a1 "dev/pathfire/json/Utf8Buffer" "room" "J" (.long r0)) (F2 : Fld Z h0 a1 "dev/pathfire/json/Utf8Buffer" "size" "J" (.long z0)) (ga : n0 ≤ a1) (hr : ¬ (r0 < q1)) :
    MetFree l (⟨"dev/pathfire/json/Utf8Buffer", "reserve", "(J)V"⟩ : MethodName) (head1 (Jvm.Cond.code (⟨"dev/pathfire/json/Utf8Buffer", "reserve", "(J)V"⟩ : MethodName) prog_19_method_3_code 3 none :: ws) ({ frames := 0, cells := 0, slots := 0, locals := 0 } : Room)) (fun a U => a = #[(.ref a1), (.long q1)] ∧ Z.Warmed39 U.vm ∧ U.heap = h0) (fun _ _ _ _ _ => True) (fun _ U o U' => ∃ v L, o = .returned v ∧ Q7 Z a1 q1 r0 z0 h0 n0 v U'.heap L ∧ FrameEnd U o U' L ({ frames := 0, cells := 0, slots := 0, locals := 0 } : Room).cells ({ frames := 0, cells := 0, slots := 0, locals := 0 } : Room).slots) := by
  refine MetFree.of_bodySF (plainFor_of_name own_pn5) hisR ?_
  intro p e s m args below meth c s₁ Bd hml0 hP hK
  obtain ⟨rfl, hZ, hh⟩ := hP
  have hx := Bd.exec
  have hby := Bd.bytes
  have hml : c.maxLocals = 3 := hml0
  have hlk : meth.locks = false := BodyLoose.notSynchronized Bd
  have hown : s.vm.findClass "dev/pathfire/json/Utf8Buffer" = some m.cls := findClass_of_methodNamed Bd.named
  have hnm := (name_of_methodNamed Bd.named Bd.method).1
  have X0 : Stand p l e ({ frames := 0, cells := 0, slots := 0, locals := 0 } : Room) s m #[(.ref a1), (.long q1)] below meth c s₁ [] 0 0 := Stand.of_body Bd
  have e0 : s₁.heap = h0 := by rw [← hh, Bd.state]; rfl
  have N0 := Fr.nil n0
  show own_Go p e below s (Q7 Z a1 q1 r0 z0 h0 n0) ({ frames := 0, cells := 0, slots := 0, locals := 0 } : Room).cells ({ frames := 0, cells := 0, slots := 0, locals := 0 } : Room).slots _
  refine own_st (B := s₁.setTop (mkF m 0 #[.val (.ref a1), .val (.long q1), .second] [])) (fun t k => castTop (ef_7 m (a1) (q1)) k) ?_
  refine own_st (B := s₁.setTop (mkF m 1 #[.val (.ref a1), .val (.long q1), .second] [(.long q1)])) (fun t k => XS.lloadN X0.here hx rfl (hb hby d7_0) rfl k) ?_
  refine own_st (B := s₁.setTop (mkF m 2 #[.val (.ref a1), .val (.long q1), .second] [(.ref a1), (.long q1)])) (fun t k => XS.aloadN X0.here hx rfl (hb hby d7_1) rfl rfl k) ?_
  obtain ⟨T1, X1, e1, st1⟩ := getF X0 hx hZ hown (host := "") (Or.inl (w_43 hw)) Via.refl e0 F1 (g := (mkF m 2 #[.val (.ref a1), .val (.long q1), .second] [(.ref a1), (.long q1)])) rfl rfl (hb hby d7_2)
  refine own_st (B := T1.setTop (mkF m 5 #[.val (.ref a1), .val (.long q1), .second] [(.long r0), (.long q1)])) (fun t k => st1 t k) ?_
  refine own_st (B := T1.setTop (mkF m 6 #[.val (.ref a1), .val (.long q1), .second] [(.int (XT.cmpL q1 r0))])) (fun t k => XS.lcmp X1.here hx rfl (hb hby d7_5) rfl k) ?_
  refine own_st (B := T1.setTop (mkF m 17 #[.val (.ref a1), .val (.long q1), .second] [])) (fun t k => XS.ifYes X1.here hx rfl (pc0 := 6) (pc' := 17) rfl (hb hby d7_6) rfl (XT.ll_le_t hr) (by decide) (by decide) k) ?_
  refine own_st (B := T1.setTop (mkF m 18 #[.val (.ref a1), .val (.long q1), .second] [(.ref a1)])) (fun t k => XS.aloadN X1.here hx rfl (hb hby d7_17) rfl rfl k) ?_
  refine own_st (B := T1.setTop (mkF m 19 #[.val (.ref a1), .val (.long q1), .second] [(.ref a1), (.ref a1)])) (fun t k => XS.dup X1.here hx rfl (hb hby d7_18) rfl rfl k) ?_
  obtain ⟨T2, X2, e2, st2⟩ := getF X1 hx hZ hown (host := "") (Or.inl (w_43 hw)) Via.refl e1 F1 (g := (mkF m 19 #[.val (.ref a1), .val (.long q1), .second] [(.ref a1), (.ref a1)])) rfl rfl (hb hby d7_19)
  refine own_st (B := T2.setTop (mkF m 22 #[.val (.ref a1), .val (.long q1), .second] [(.long r0), (.ref a1)])) (fun t k => st2 t k) ?_
  refine own_st (B := T2.setTop (mkF m 23 #[.val (.ref a1), .val (.long q1), .second] [(.long q1), (.long r0), (.ref a1)])) (fun t k => XS.lloadN X2.here hx rfl (hb hby d7_22) rfl k) ?_
  refine own_st (B := T2.setTop (mkF m 24 #[.val (.ref a1), .val (.long q1), .second] [(.long (r0 - q1)), (.ref a1)])) (fun t k => XS.lsub X2.here hx rfl (hb hby d7_23) rfl k) ?_
  obtain ⟨T3, h3, X3, e3, W3, st3⟩ := putF X2 hx hZ hown (host := "") (Or.inl (w_43 hw)) Via.refl e2 F1 F0 (Or.inl (w_44 hw)) (w_6 hw) (ty := .long) (by decide) rfl rfl (g := (mkF m 24 #[.val (.ref a1), .val (.long q1), .second] [(.long (r0 - q1)), (.ref a1)])) rfl rfl (hb hby d7_24)
  have f3_ : Fld Z h3 a1 "dev/pathfire/json/Utf8Buffer" "room" "J" (.long (r0 - q1)) := F1.same W3
  have z4 : n0 ≤ h3.size := Nat.le_trans Z0 (Keep.of_wr W3).1
  have kp4 : Keep h0 h3 [a1] := (Keep.refl h0 [a1]).wr W3 (Or.inl (List.mem_of_getElem? (i := 0) rfl))
  have n5 := Fr.snoc X3 N0 ga
  refine own_st (B := T3.setTop (mkF m 27 #[.val (.ref a1), .val (.long q1), .second] [])) (fun t k => st3 t k) ?_
  refine own_retV X3 hx hlk Bd.returns (hb hby d7_27) (by decide) (by decide) ?_
  show Q7 Z a1 q1 r0 z0 h0 n0 _ T3.heap _
  rw [e3]
  have f6 : Exa Z h3 a1 "dev/pathfire/json/Utf8Buffer" := (F0.wr W3)
  have f7 : Fld Z h3 a1 "dev/pathfire/json/Utf8Buffer" "size" "J" (.long z0) := (F2.other W3 (Or.inr (slot_ne (Or.inl (w_61 hw)) (Or.inl (w_44 hw)) (by decide) (t := .long) (t' := .long) (by decide) (by decide))))
  exact ⟨rfl, n5, kp4, f6, f3_, f7⟩
theorem d8_0 : decode prog_19_method_4_code 0 = .ok (.aload_n 0, 1) := by decide +kernel
theorem d8_1 : decode prog_19_method_4_code 1 = .ok (.dup, 1) := by decide +kernel
theorem d8_2 : decode prog_19_method_4_code 2 = .ok (.getfield 20, 3) := by decide +kernel
theorem d8_5 : decode prog_19_method_4_code 5 = .ok (.lload_n 1, 1) := by decide +kernel
theorem d8_6 : decode prog_19_method_4_code 6 = .ok (.ladd, 1) := by decide +kernel
theorem d8_7 : decode prog_19_method_4_code 7 = .ok (.putfield 20, 3) := by decide +kernel
theorem d8_10 : decode prog_19_method_4_code 10 = .ok (.return_, 1) := by decide +kernel
theorem ef_8 (m : MethodId) (x0 : Addr) (x1 : Int64) : entryFrame m #[(.ref x0), (.long x1)] 3 = mkF m 0 #[.val (.ref x0), .val (.long x1), .second] [] := by first | (simp [entryFrame, mkF, argsToLocals, Value.category]; done) | rfl
def Q8 (Z : State) (a1 : Addr) (q1 : Int64) (r0 : Int64) (z0 : Int64) (h0 : Heap) (n0 : Nat) (v : Option Value) (h : Heap) (L : List Loc) : Prop := v = none ∧ Fr n0 L ∧ Keep h0 h [a1] ∧ Exa Z h a1 "dev/pathfire/json/Utf8Buffer" ∧ Fld Z h a1 "dev/pathfire/json/Utf8Buffer" "room" "J" (.long (r0 + q1)) ∧ Fld Z h a1 "dev/pathfire/json/Utf8Buffer" "size" "J" (.long z0)
set_option maxHeartbeats 40000000 in
theorem rm8 (l : Launch) (Z : State) (a0 : Array Value) (hw : ∀ d ∈ tables_1, d.before a0 Z = true) (ws : List Jvm.Cond) (a1 : Addr) (q1 : Int64) (r0 : Int64) (z0 : Int64) (h0 : Heap) (n0 : Nat) (Z0 : n0 ≤ h0.size) (F0 : Exa Z h0 a1 "dev/pathfire/json/Utf8Buffer") (F1 : Fld Z h0 a1 "dev/pathfire/json/Utf8Buffer" "room" "J" (.long r0)) (F2 : Fld Z h0 a1 "dev/pathfire/json/Utf8Buffer" "size" "J" (.long z0)) (ga : n0 ≤ a1) :
    MetFree l (⟨"dev/pathfire/json/Utf8Buffer", "release", "(J)V"⟩ : MethodName) (head1 (Jvm.Cond.code (⟨"dev/pathfire/json/Utf8Buffer", "release", "(J)V"⟩ : MethodName) prog_19_method_4_code 3 none :: ws) ({ frames := 0, cells := 0, slots := 0, locals := 0 } : Room)) (fun a U => a = #[(.ref a1), (.long q1)] ∧ Z.Warmed39 U.vm ∧ U.heap = h0) (fun _ _ _ _ _ => True) (fun _ U o U' => ∃ v L, o = .returned v ∧ Q8 Z a1 q1 r0 z0 h0 n0 v U'.heap L ∧ FrameEnd U o U' L ({ frames := 0, cells := 0, slots := 0, locals := 0 } : Room).cells ({ frames := 0, cells := 0, slots := 0, locals := 0 } : Room).slots) := by
  refine MetFree.of_bodySF (plainFor_of_name own_pn5) hisR ?_
  intro p e s m args below meth c s₁ Bd hml0 hP hK
  obtain ⟨rfl, hZ, hh⟩ := hP
  have hx := Bd.exec
  have hby := Bd.bytes
  have hml : c.maxLocals = 3 := hml0
  have hlk : meth.locks = false := BodyLoose.notSynchronized Bd
  have hown : s.vm.findClass "dev/pathfire/json/Utf8Buffer" = some m.cls := findClass_of_methodNamed Bd.named
  have hnm := (name_of_methodNamed Bd.named Bd.method).1
  have X0 : Stand p l e ({ frames := 0, cells := 0, slots := 0, locals := 0 } : Room) s m #[(.ref a1), (.long q1)] below meth c s₁ [] 0 0 := Stand.of_body Bd
  have e0 : s₁.heap = h0 := by rw [← hh, Bd.state]; rfl
  have N0 := Fr.nil n0
  show own_Go p e below s (Q8 Z a1 q1 r0 z0 h0 n0) ({ frames := 0, cells := 0, slots := 0, locals := 0 } : Room).cells ({ frames := 0, cells := 0, slots := 0, locals := 0 } : Room).slots _
  refine own_st (B := s₁.setTop (mkF m 0 #[.val (.ref a1), .val (.long q1), .second] [])) (fun t k => castTop (ef_8 m (a1) (q1)) k) ?_
  refine own_st (B := s₁.setTop (mkF m 1 #[.val (.ref a1), .val (.long q1), .second] [(.ref a1)])) (fun t k => XS.aloadN X0.here hx rfl (hb hby d8_0) rfl rfl k) ?_
  refine own_st (B := s₁.setTop (mkF m 2 #[.val (.ref a1), .val (.long q1), .second] [(.ref a1), (.ref a1)])) (fun t k => XS.dup X0.here hx rfl (hb hby d8_1) rfl rfl k) ?_
  obtain ⟨T1, X1, e1, st1⟩ := getF X0 hx hZ hown (host := "") (Or.inl (w_43 hw)) Via.refl e0 F1 (g := (mkF m 2 #[.val (.ref a1), .val (.long q1), .second] [(.ref a1), (.ref a1)])) rfl rfl (hb hby d8_2)
  refine own_st (B := T1.setTop (mkF m 5 #[.val (.ref a1), .val (.long q1), .second] [(.long r0), (.ref a1)])) (fun t k => st1 t k) ?_
  refine own_st (B := T1.setTop (mkF m 6 #[.val (.ref a1), .val (.long q1), .second] [(.long q1), (.long r0), (.ref a1)])) (fun t k => XS.lloadN X1.here hx rfl (hb hby d8_5) rfl k) ?_
  refine own_st (B := T1.setTop (mkF m 7 #[.val (.ref a1), .val (.long q1), .second] [(.long (r0 + q1)), (.ref a1)])) (fun t k => XS.ladd X1.here hx rfl (hb hby d8_6) rfl k) ?_
  obtain ⟨T2, h2, X2, e2, W2, st2⟩ := putF X1 hx hZ hown (host := "") (Or.inl (w_43 hw)) Via.refl e1 F1 F0 (Or.inl (w_44 hw)) (w_6 hw) (ty := .long) (by decide) rfl rfl (g := (mkF m 7 #[.val (.ref a1), .val (.long q1), .second] [(.long (r0 + q1)), (.ref a1)])) rfl rfl (hb hby d8_7)
  have f2_ : Fld Z h2 a1 "dev/pathfire/json/Utf8Buffer" "room" "J" (.long (r0 + q1)) := F1.same W2
  have z3 : n0 ≤ h2.size := Nat.le_trans Z0 (Keep.of_wr W2).1
  have kp3 : Keep h0 h2 [a1] := (Keep.refl h0 [a1]).wr W2 (Or.inl (List.mem_of_getElem? (i := 0) rfl))
  have n4 := Fr.snoc X2 N0 ga
  refine own_st (B := T2.setTop (mkF m 10 #[.val (.ref a1), .val (.long q1), .second] [])) (fun t k => st2 t k) ?_
  refine own_retV X2 hx hlk Bd.returns (hb hby d8_10) (by decide) (by decide) ?_
  show Q8 Z a1 q1 r0 z0 h0 n0 _ T2.heap _
  rw [e2]
  have f5 : Exa Z h2 a1 "dev/pathfire/json/Utf8Buffer" := (F0.wr W2)
  have f6 : Fld Z h2 a1 "dev/pathfire/json/Utf8Buffer" "size" "J" (.long z0) := (F2.other W2 (Or.inr (slot_ne (Or.inl (w_61 hw)) (Or.inl (w_44 hw)) (by decide) (t := .long) (t' := .long) (by decide) (by decide))))
  exact ⟨rfl, n4, kp3, f5, f2_, f6⟩
theorem d9_0 : decode prog_19_method_2_code 0 = .ok (.aload_n 0, 1) := by decide +kernel
theorem d9_1 : decode prog_19_method_2_code 1 = .ok (.getfield 24, 3) := by decide +kernel
theorem d9_4 : decode prog_19_method_2_code 4 = .ok (.lreturn, 1) := by decide +kernel
theorem ef_9 (m : MethodId) (x0 : Addr) : entryFrame m #[(.ref x0)] 1 = mkF m 0 #[.val (.ref x0)] [] := by first | (simp [entryFrame, mkF, argsToLocals, Value.category]; done) | rfl
def Q9 (Z : State) (a1 : Addr) (z0 : Int64) (h0 : Heap) (n0 : Nat) (v : Option Value) (h : Heap) (L : List Loc) : Prop := v = some (.long z0) ∧ Fr n0 L ∧ h = h0
set_option maxHeartbeats 40000000 in
theorem rm9 (l : Launch) (Z : State) (a0 : Array Value) (hw : ∀ d ∈ tables_1, d.before a0 Z = true) (ws : List Jvm.Cond) (a1 : Addr) (z0 : Int64) (h0 : Heap) (n0 : Nat) (Z0 : n0 ≤ h0.size) (F0 : Fld Z h0 a1 "dev/pathfire/json/Utf8Buffer" "size" "J" (.long z0)) :
    MetFree l (⟨"dev/pathfire/json/Utf8Buffer", "size", "()J"⟩ : MethodName) (head1 (Jvm.Cond.code (⟨"dev/pathfire/json/Utf8Buffer", "size", "()J"⟩ : MethodName) prog_19_method_2_code 1 (some .long) :: ws) ({ frames := 0, cells := 0, slots := 0, locals := 0 } : Room)) (fun a U => a = #[(.ref a1)] ∧ Z.Warmed39 U.vm ∧ U.heap = h0) (fun _ _ _ _ _ => True) (fun _ U o U' => ∃ v L, o = .returned v ∧ Q9 Z a1 z0 h0 n0 v U'.heap L ∧ FrameEnd U o U' L ({ frames := 0, cells := 0, slots := 0, locals := 0 } : Room).cells ({ frames := 0, cells := 0, slots := 0, locals := 0 } : Room).slots) := by
  refine MetFree.of_bodySF (plainFor_of_name own_pn5) hisR ?_
  intro p e s m args below meth c s₁ Bd hml0 hP hK
  obtain ⟨rfl, hZ, hh⟩ := hP
  have hx := Bd.exec
  have hby := Bd.bytes
  have hml : c.maxLocals = 1 := hml0
  have hlk : meth.locks = false := BodyLoose.notSynchronized Bd
  have hown : s.vm.findClass "dev/pathfire/json/Utf8Buffer" = some m.cls := findClass_of_methodNamed Bd.named
  have hnm := (name_of_methodNamed Bd.named Bd.method).1
  have X0 : Stand p l e ({ frames := 0, cells := 0, slots := 0, locals := 0 } : Room) s m #[(.ref a1)] below meth c s₁ [] 0 0 := Stand.of_body Bd
  have e0 : s₁.heap = h0 := by rw [← hh, Bd.state]; rfl
  have N0 := Fr.nil n0
  show own_Go p e below s (Q9 Z a1 z0 h0 n0) ({ frames := 0, cells := 0, slots := 0, locals := 0 } : Room).cells ({ frames := 0, cells := 0, slots := 0, locals := 0 } : Room).slots _
  refine own_st (B := s₁.setTop (mkF m 0 #[.val (.ref a1)] [])) (fun t k => castTop (ef_9 m (a1)) k) ?_
  refine own_st (B := s₁.setTop (mkF m 1 #[.val (.ref a1)] [(.ref a1)])) (fun t k => XS.aloadN X0.here hx rfl (hb hby d9_0) rfl rfl k) ?_
  obtain ⟨T1, X1, e1, st1⟩ := getF X0 hx hZ hown (host := "") (Or.inl (w_60 hw)) Via.refl e0 F0 (g := (mkF m 1 #[.val (.ref a1)] [(.ref a1)])) rfl rfl (hb hby d9_1)
  refine own_st (B := T1.setTop (mkF m 4 #[.val (.ref a1)] [(.long z0)])) (fun t k => st1 t k) ?_
  refine own_retJ X1 hx hlk Bd.returns (hb hby d9_4) (by decide) (by decide) ?_
  show Q9 Z a1 z0 h0 n0 _ T1.heap _
  rw [e1]
  exact ⟨rfl, N0, rfl⟩
theorem own_bud (x : Int64) : 0 ≤ (x &&& 9223372036854775807).toInt := by
  rw [c_maskL x 9223372036854775807 63 (by decide) (by decide)]
  exact Int.emod_nonneg _ (by decide)
theorem own_up (x : Int64) {m : Int64} (h : 0 ≤ m.toInt) : 0 ≤ (own_f1 x m).toInt ∧ (own_f1 x m).toInt ≤ m.toInt := by
  have h1 := own_bud x
  have h2 := rng64 (x &&& 9223372036854775807)
  unfold own_f1
  by_cases hm : m = 9223372036854775807
  · have h3 : (9223372036854775807 : Int64).toInt = 9223372036854775807 := rfl
    rw [if_pos hm, hm, h3]
    omega
  · rw [if_neg hm]
    have h4 := c_ladd m 1
    have h5 : (1 : Int64).toInt = 1 := rfl
    have h6 := rng64 m
    have h7 : ¬ (m.toInt = 9223372036854775807) := fun q => hm (Int64.toInt_inj.mp q)
    have h8 := rng64 (m + 1)
    have h9 : (m + 1).toInt = m.toInt + 1 := by omega
    rw [Int64.toInt_mod, h9, Int.tmod_eq_emod_of_nonneg h1]
    have h10 := Int.emod_nonneg (x &&& 9223372036854775807).toInt (show m.toInt + 1 ≠ 0 by omega)
    have h11 := Int.emod_lt_of_pos (x &&& 9223372036854775807).toInt (show 0 < m.toInt + 1 by omega)
    omega
theorem own_all {B r1 r2 : Int64} (hB : 0 ≤ B.toInt) (h1 : 0 ≤ r1.toInt ∧ r1.toInt ≤ B.toInt) (h2 : 0 ≤ r2.toInt ∧ r2.toInt ≤ (B - r1).toInt) :
    ¬ (B < r1) ∧ 0 ≤ (B - r1).toInt ∧ ¬ (B - r1 < r2) ∧ ¬ (((B - r1) - r2) + r1 < B - r2) ∧ ¬ ((((B - r1) - r2) + r1) - (B - r2) < 0) := by
  have c1 := c_lsub B r1
  have c2 := c_lsub (B - r1) r2
  have c3 := c_ladd ((B - r1) - r2) r1
  have c4 := c_lsub B r2
  have c5 := c_lsub (((B - r1) - r2) + r1) (B - r2)
  have k0 := rng64 B
  have k1 := rng64 (B - r1)
  have k2 := rng64 ((B - r1) - r2)
  have k3 := rng64 (((B - r1) - r2) + r1)
  have k4 := rng64 (B - r2)
  have k5 := rng64 ((((B - r1) - r2) + r1) - (B - r2))
  have z0 : (0 : Int64).toInt = 0 := rfl
  simp only [Int64.lt_iff_toInt_lt]
  omega
theorem own_sub {B r1 : Int64} (hB : 0 ≤ B.toInt) (h1 : 0 ≤ r1.toInt ∧ r1.toInt ≤ B.toInt) : 0 ≤ (B - r1).toInt := by
  have c1 := c_lsub B r1
  have k0 := rng64 B
  have k1 := rng64 (B - r1)
  omega
theorem own_pd6 : parseMethodDescriptor "(JJ)J" = some ⟨[.long, .long], some .long⟩ := by decide +kernel
theorem own_pd7 : parseMethodDescriptor "(J)V" = some ⟨[.long], none⟩ := by decide +kernel
theorem own_pd8 : parseMethodDescriptor "()J" = some ⟨[], some .long⟩ := by decide +kernel
theorem ef_0 (m : MethodId) (x0 : Int64) (x1 : Int64) (x2 : Int64) : entryFrame m #[(.long x0), (.long x1), (.long x2)] maxLocals = mkF m 0 #[.val (.long x0), .second, .val (.long x1), .second, .val (.long x2), .second, .unset, .unset, .unset, .unset, .unset, .unset, .unset] [] := by first | (simp [entryFrame, mkF, argsToLocals, Value.category, maxLocals]; done) | rfl
def Q0 (Z : State) (arg0 : Int64) (arg1 : Int64) (arg2 : Int64) (r1 : Addr) (h0 : Heap) (n0 : Nat) (v : Option Value) (h : Heap) (L : List Loc) : Prop := v = some (.int 1) ∧ Fr n0 L
set_option maxHeartbeats 40000000 in
theorem rm0 (l : Launch) (Z : State) (a0 : Array Value) (hw : ∀ d ∈ tables_1, d.before a0 Z = true) (ws : List Jvm.Cond) (arg0 : Int64) (arg1 : Int64) (arg2 : Int64) (r1 : Addr) (h0 : Heap) (n0 : Nat) (Z0 : n0 ≤ h0.size) (F0 : Sta Z h0 "java/util/ArrayList" "DEFAULTCAPACITY_EMPTY_ELEMENTDATA" "[Ljava/lang/Object;" (.ref r1)) :
    MetFree l x (head1 (Jvm.Cond.code x code maxLocals ret :: ws) room_1) (fun a U => a = #[(.long arg0), (.long arg1), (.long arg2)] ∧ Z.Warmed39 U.vm ∧ U.heap = h0) (fun _ _ _ _ _ => True) (fun _ U o U' => ∃ v L, o = .returned v ∧ Q0 Z arg0 arg1 arg2 r1 h0 n0 v U'.heap L ∧ FrameEnd U o U' L 16 128) := by
  refine MetFree.of_bodySF (plainFor_of_name own_pn1) hisR ?_
  intro p e s m args below meth c s₁ Bd hml0 hP hK
  obtain ⟨rfl, hZ, hh⟩ := hP
  have hx := Bd.exec
  have hby := Bd.bytes
  have hml : c.maxLocals = 13 := hml0
  have hlk : meth.locks = false := BodyLoose.notSynchronized Bd
  have hown : s.vm.findClass "dev/pathfire/json/Utf8BufferReservePinLaw" = some m.cls := findClass_of_methodNamed Bd.named
  have hnm := (name_of_methodNamed Bd.named Bd.method).1
  have X0 : Stand p l e room_1 s m #[(.long arg0), (.long arg1), (.long arg2)] below meth c s₁ [] 0 0 := Stand.of_body Bd
  have e0 : s₁.heap = h0 := by rw [← hh, Bd.state]; rfl
  have N0 := Fr.nil n0
  show own_Go p e below s (Q0 Z arg0 arg1 arg2 r1 h0 n0) 16 128 _
  refine own_st (B := s₁.setTop (mkF m 0 #[.val (.long arg0), .second, .val (.long arg1), .second, .val (.long arg2), .second, .unset, .unset, .unset, .unset, .unset, .unset, .unset] [])) (fun t k => castTop (ef_0 m (arg0) (arg1) (arg2)) k) ?_
  refine own_st (B := s₁.setTop (mkF m 1 #[.val (.long arg0), .second, .val (.long arg1), .second, .val (.long arg2), .second, .unset, .unset, .unset, .unset, .unset, .unset, .unset] [(.long arg0)])) (fun t k => XS.lloadN X0.here hx rfl (hb hby at_0) rfl k) ?_
  refine own_st (B := s₁.setTop (mkF m 4 #[.val (.long arg0), .second, .val (.long arg1), .second, .val (.long arg2), .second, .unset, .unset, .unset, .unset, .unset, .unset, .unset] [(.long (9223372036854775807 : Int64)), (.long arg0)])) (fun t k => X0.ldc2Long hx hown (mvT hZ (w_0 hw)) (g := (mkF m 1 #[.val (.long arg0), .second, .val (.long arg1), .second, .val (.long arg2), .second, .unset, .unset, .unset, .unset, .unset, .unset, .unset] [(.long arg0)])) rfl (hb hby at_1) _ k) ?_
  refine own_st (B := s₁.setTop (mkF m 5 #[.val (.long arg0), .second, .val (.long arg1), .second, .val (.long arg2), .second, .unset, .unset, .unset, .unset, .unset, .unset, .unset] [(.long (arg0 &&& (9223372036854775807 : Int64)))])) (fun t k => XS.land X0.here hx rfl (hb hby at_4) rfl k) ?_
  obtain ⟨v1, ev1⟩ : ∃ z : Int64, z = (arg0 &&& (9223372036854775807 : Int64)) := ⟨_, rfl⟩
  rw [← ev1]
  refine own_st (B := s₁.setTop (mkF m 7 #[.val (.long arg0), .second, .val (.long arg1), .second, .val (.long arg2), .second, .val (.long v1), .second, .unset, .unset, .unset, .unset, .unset] [])) (fun t k => XS.lstore X0.here hx rfl (hb hby at_5) rfl (l' := #[.val (.long arg0), .second, .val (.long arg1), .second, .val (.long arg2), .second, .val (.long v1), .second, .unset, .unset, .unset, .unset, .unset]) rfl k) ?_
  refine own_st (B := s₁.setTop (mkF m 8 #[.val (.long arg0), .second, .val (.long arg1), .second, .val (.long arg2), .second, .val (.long v1), .second, .unset, .unset, .unset, .unset, .unset] [(.long arg1)])) (fun t k => XS.lloadN X0.here hx rfl (hb hby at_7) rfl k) ?_
  refine own_st (B := s₁.setTop (mkF m 10 #[.val (.long arg0), .second, .val (.long arg1), .second, .val (.long arg2), .second, .val (.long v1), .second, .unset, .unset, .unset, .unset, .unset] [(.long v1), (.long arg1)])) (fun t k => XS.lload X0.here hx rfl (hb hby at_8) rfl k) ?_
  obtain ⟨_, _, ⟨T2, L2, k2, j2⟩, -, X2, ⟨Lc2, hQ2, l2, y2_, z2_⟩, st2⟩ := Jvm.LawKit.callS X0 hx (y := (⟨"dev/pathfire/json/Utf8BufferReservePinLaw", "upTo", "(JJ)J"⟩ : MethodName)) hown (mvT hZ (w_1 hw)) (mvT hZ (w_2 hw)) (mvT hZ (w_3 hw)) (mvT hZ (w_4 hw)) (by decide) (backOf (W := 0) (rm1 l Z a0 hw [] arg1 v1 h0 n0 Z0 (by rw [ev1]; exact own_bud arg0)) hZ (w_4 hw) (w_3 hw) (by decide) (by decide)) (g := (mkF m 10 #[.val (.long arg0), .second, .val (.long arg1), .second, .val (.long arg2), .second, .val (.long v1), .second, .unset, .unset, .unset, .unset, .unset] [(.long v1), (.long arg1)])) rfl (by rw [hml]; rfl) (argsL := [(.long arg1), (.long v1)]) (rest := []) (lenOf own_pd6 rfl) rfl (by show 2 * 0 + _ ≤ _; exact Nat.le_of_eq rfl) (hb hby at_10) (fun _ _ => ⟨rfl, e0, (by decide : 0 + 0 ≤ _), (by decide : 0 + 0 ≤ _)⟩)
  dsimp only [Pt.U, Pt.locs, Pt.cells, Pt.slots] at X2 l2 y2_ z2_ st2 hQ2
  subst l2 y2_ z2_
  obtain ⟨rfl, N2q, e2q⟩ := hQ2
  have N2 := Fr.app N0 N2q
  refine own_st (B := T2.setTop (mkF m 13 #[.val (.long arg0), .second, .val (.long arg1), .second, .val (.long arg2), .second, .val (.long v1), .second, .unset, .unset, .unset, .unset, .unset] [(.long (own_f1 arg1 v1))])) (fun t k => st2 t k) ?_
  obtain ⟨v3, ev3⟩ : ∃ z : Int64, z = (own_f1 arg1 v1) := ⟨_, rfl⟩
  rw [← ev3]
  refine own_st (B := T2.setTop (mkF m 15 #[.val (.long arg0), .second, .val (.long arg1), .second, .val (.long arg2), .second, .val (.long v1), .second, .val (.long v3), .second, .unset, .unset, .unset] [])) (fun t k => XS.lstore X2.here hx rfl (hb hby at_13) rfl (l' := #[.val (.long arg0), .second, .val (.long arg1), .second, .val (.long arg2), .second, .val (.long v1), .second, .val (.long v3), .second, .unset, .unset, .unset]) rfl k) ?_
  refine own_st (B := T2.setTop (mkF m 17 #[.val (.long arg0), .second, .val (.long arg1), .second, .val (.long arg2), .second, .val (.long v1), .second, .val (.long v3), .second, .unset, .unset, .unset] [(.long arg2)])) (fun t k => XS.lload X2.here hx rfl (hb hby at_15) rfl k) ?_
  refine own_st (B := T2.setTop (mkF m 19 #[.val (.long arg0), .second, .val (.long arg1), .second, .val (.long arg2), .second, .val (.long v1), .second, .val (.long v3), .second, .unset, .unset, .unset] [(.long v1), (.long arg2)])) (fun t k => XS.lload X2.here hx rfl (hb hby at_17) rfl k) ?_
  refine own_st (B := T2.setTop (mkF m 21 #[.val (.long arg0), .second, .val (.long arg1), .second, .val (.long arg2), .second, .val (.long v1), .second, .val (.long v3), .second, .unset, .unset, .unset] [(.long v3), (.long v1), (.long arg2)])) (fun t k => XS.lload X2.here hx rfl (hb hby at_19) rfl k) ?_
  refine own_st (B := T2.setTop (mkF m 22 #[.val (.long arg0), .second, .val (.long arg1), .second, .val (.long arg2), .second, .val (.long v1), .second, .val (.long v3), .second, .unset, .unset, .unset] [(.long (v1 - v3)), (.long arg2)])) (fun t k => XS.lsub X2.here hx rfl (hb hby at_21) rfl k) ?_
  obtain ⟨_, _, ⟨T4, L4, k4, j4⟩, -, X4, ⟨Lc4, hQ4, l4, y4_, z4_⟩, st4⟩ := Jvm.LawKit.callS X2 hx (y := (⟨"dev/pathfire/json/Utf8BufferReservePinLaw", "upTo", "(JJ)J"⟩ : MethodName)) hown (mvT hZ (w_1 hw)) (mvT hZ (w_2 hw)) (mvT hZ (w_3 hw)) (mvT hZ (w_4 hw)) (by decide) (backOf (W := 0) (rm1 l Z a0 hw [] arg2 (v1 - v3) h0 n0 Z0 (own_sub (by rw [ev1]; exact own_bud arg0) (by rw [ev3]; exact own_up arg1 (by rw [ev1]; exact own_bud arg0)))) hZ (w_4 hw) (w_3 hw) (by decide) (by decide)) (g := (mkF m 22 #[.val (.long arg0), .second, .val (.long arg1), .second, .val (.long arg2), .second, .val (.long v1), .second, .val (.long v3), .second, .unset, .unset, .unset] [(.long (v1 - v3)), (.long arg2)])) rfl (by rw [hml]; rfl) (argsL := [(.long arg2), (.long (v1 - v3))]) (rest := []) (lenOf own_pd6 rfl) rfl (by show 2 * 0 + _ ≤ _; exact Nat.le_of_eq rfl) (hb hby at_22) (fun _ _ => ⟨rfl, e2q, (by decide : 0 + 0 ≤ _), (by decide : 0 + 0 ≤ _)⟩)
  dsimp only [Pt.U, Pt.locs, Pt.cells, Pt.slots] at X4 l4 y4_ z4_ st4 hQ4
  subst l4 y4_ z4_
  obtain ⟨rfl, N4q, e4q⟩ := hQ4
  have N4 := Fr.app N2 N4q
  refine own_st (B := T4.setTop (mkF m 25 #[.val (.long arg0), .second, .val (.long arg1), .second, .val (.long arg2), .second, .val (.long v1), .second, .val (.long v3), .second, .unset, .unset, .unset] [(.long (own_f1 arg2 (v1 - v3)))])) (fun t k => st4 t k) ?_
  obtain ⟨v5, ev5⟩ : ∃ z : Int64, z = (own_f1 arg2 (v1 - v3)) := ⟨_, rfl⟩
  rw [← ev5]
  refine own_st (B := T4.setTop (mkF m 27 #[.val (.long arg0), .second, .val (.long arg1), .second, .val (.long arg2), .second, .val (.long v1), .second, .val (.long v3), .second, .val (.long v5), .second, .unset] [])) (fun t k => XS.lstore X4.here hx rfl (hb hby at_25) rfl (l' := #[.val (.long arg0), .second, .val (.long arg1), .second, .val (.long arg2), .second, .val (.long v1), .second, .val (.long v3), .second, .val (.long v5), .second, .unset]) rfl k) ?_
  obtain ⟨T6, h6, X6, e6, E6, A6, D6, -, st6⟩ := newO X4 hx hZ hown (w_5 hw) (w_6 hw) (w_7 hw) e4q (g := (mkF m 27 #[.val (.long arg0), .second, .val (.long arg1), .second, .val (.long arg2), .second, .val (.long v1), .second, .val (.long v3), .second, .val (.long v5), .second, .unset] [])) rfl (hb hby at_27) (by decide) (by decide)
  obtain ⟨b6, g6⟩ : ∃ z, z = h0.size := ⟨_, rfl⟩
  rw [← g6] at A6 D6 st6
  have u6 : n0 ≤ b6 := Nat.le_trans Z0 (Nat.le_of_eq g6.symm)
  have z7 : n0 ≤ h6.size := Nat.le_trans Z0 E6.1
  have f8 : Fld Z h6 b6 "dev/pathfire/json/Utf8Buffer" "chunks" "Ljava/util/List;" .null := D6 (Or.inr (w_39 hw)) (ty := (.object "java/util/List")) (by decide)
  have f9 : Fld Z h6 b6 "dev/pathfire/json/Utf8Buffer" "last" "[B" .null := D6 (Or.inl (w_42 hw)) (ty := (.array .byte)) (by decide)
  have f10 : Fld Z h6 b6 "dev/pathfire/json/Utf8Buffer" "room" "J" (.long (0 : Int64)) := D6 (Or.inl (w_44 hw)) (ty := .long) (by decide)
  have f11 : Fld Z h6 b6 "dev/pathfire/json/Utf8Buffer" "size" "J" (.long (0 : Int64)) := D6 (Or.inl (w_61 hw)) (ty := .long) (by decide)
  refine own_st (B := T6.setTop (mkF m 30 #[.val (.long arg0), .second, .val (.long arg1), .second, .val (.long arg2), .second, .val (.long v1), .second, .val (.long v3), .second, .val (.long v5), .second, .unset] [(.ref b6)])) (fun t k => st6 t k) ?_
  refine own_st (B := T6.setTop (mkF m 31 #[.val (.long arg0), .second, .val (.long arg1), .second, .val (.long arg2), .second, .val (.long v1), .second, .val (.long v3), .second, .val (.long v5), .second, .unset] [(.ref b6), (.ref b6)])) (fun t k => XS.dup X6.here hx rfl (hb hby at_30) rfl rfl k) ?_
  refine own_st (B := T6.setTop (mkF m 33 #[.val (.long arg0), .second, .val (.long arg1), .second, .val (.long arg2), .second, .val (.long v1), .second, .val (.long v3), .second, .val (.long v5), .second, .unset] [(.long v1), (.ref b6), (.ref b6)])) (fun t k => XS.lload X6.here hx rfl (hb hby at_31) rfl k) ?_
  have f12 : Sta Z h6 "java/util/ArrayList" "DEFAULTCAPACITY_EMPTY_ELEMENTDATA" "[Ljava/lang/Object;" (.ref r1) := (F0.ext E6)
  obtain ⟨_, _, ⟨T13, L13, k13, j13⟩, -, X13, ⟨Lc13, hQ13, l13, y13_, z13_⟩, st13⟩ := X6.specialBack hx (y := (⟨"dev/pathfire/json/Utf8Buffer", "<init>", "(J)V"⟩ : MethodName)) rfl hown (mvT hZ (w_8 hw)) (mvT hZ (w_9 hw)) (mvT hZ (w_10 hw)) (by decide) (backOf (W := 1) (rm2 l Z a0 hw [] b6 v1 r1 h6 n0 z7 A6 f8 f9 f10 f11 f12 u6) hZ (w_10 hw) (w_7 hw) (by decide) (by decide)) (g := (mkF m 33 #[.val (.long arg0), .second, .val (.long arg1), .second, .val (.long arg2), .second, .val (.long v1), .second, .val (.long v3), .second, .val (.long v5), .second, .unset] [(.long v1), (.ref b6), (.ref b6)])) rfl (by rw [hml]; rfl) (Steps.refl _) (a := b6) (argsL := [(.long v1)]) (rest := [(.ref b6)]) (lenOf own_pd7 rfl) rfl (by show 2 * 0 + _ ≤ _; exact Nat.le_of_eq rfl) (hb hby at_33) (fun _ _ => ⟨rfl, e6, (by decide : 1 + 2 ≤ _), (by decide : 5 + 3 ≤ _)⟩)
  dsimp only [Pt.U, Pt.locs, Pt.cells, Pt.slots] at X13 l13 y13_ z13_ st13 hQ13
  subst l13 y13_ z13_
  obtain ⟨rfl, N13q, K13, p13_0, p13_1, p13_2⟩ := hQ13
  have N13 := Fr.app N4 N13q
  have z14 : n0 ≤ T13.heap.size := Nat.le_trans z7 K13.1
  refine own_ss (B := T13.setTop (mkF m 36 #[.val (.long arg0), .second, .val (.long arg1), .second, .val (.long arg2), .second, .val (.long v1), .second, .val (.long v3), .second, .val (.long v5), .second, .unset] [(.ref b6)])) st13 ?_
  refine own_st (B := T13.setTop (mkF m 38 #[.val (.long arg0), .second, .val (.long arg1), .second, .val (.long arg2), .second, .val (.long v1), .second, .val (.long v3), .second, .val (.long v5), .second, .val (.ref b6)] [])) (fun t k => XS.astore X13.here hx rfl (hb hby at_36) rfl rfl (l' := #[.val (.long arg0), .second, .val (.long arg1), .second, .val (.long arg2), .second, .val (.long v1), .second, .val (.long v3), .second, .val (.long v5), .second, .val (.ref b6)]) rfl k) ?_
  refine own_st (B := T13.setTop (mkF m 40 #[.val (.long arg0), .second, .val (.long arg1), .second, .val (.long arg2), .second, .val (.long v1), .second, .val (.long v3), .second, .val (.long v5), .second, .val (.ref b6)] [(.ref b6)])) (fun t k => XS.aload X13.here hx rfl (hb hby at_38) rfl rfl k) ?_
  refine own_st (B := T13.setTop (mkF m 42 #[.val (.long arg0), .second, .val (.long arg1), .second, .val (.long arg2), .second, .val (.long v1), .second, .val (.long v3), .second, .val (.long v5), .second, .val (.ref b6)] [(.long v3), (.ref b6)])) (fun t k => XS.lload X13.here hx rfl (hb hby at_40) rfl k) ?_
  obtain ⟨cq15, kq15, q15a, q15b, q15c⟩ := isOf hZ rfl p13_0
  obtain ⟨_, _, ⟨T15, L15, k15, j15⟩, -, X15, ⟨Lc15, hQ15, l15, y15_, z15_⟩, st15⟩ := X13.virtualBack hx (y := (⟨"dev/pathfire/json/Utf8Buffer", "reserve", "(J)V"⟩ : MethodName)) (z := (⟨"dev/pathfire/json/Utf8Buffer", "reserve", "(J)V"⟩ : MethodName)) hown (mvT hZ (w_45 hw)) (mvT hZ (w_46 hw)) (notFace_of_selects (args := #[]) (mvT hZ (w_48 hw))) (mvT hZ (w_48 hw)) (mvT hZ (w_47 hw)) (by decide) (backOf (W := 0) (rm7 l Z a0 hw [] b6 v3 v1 (0 : Int64) T13.heap n0 z14 p13_0 p13_1 p13_2 u6 ((own_all (B := v1) (r1 := v3) (r2 := v5) (by rw [ev1]; exact own_bud arg0) (by rw [ev3]; exact own_up arg1 (by rw [ev1]; exact own_bud arg0)) (by rw [ev5]; exact own_up arg2 (own_sub (by rw [ev1]; exact own_bud arg0) (by rw [ev3]; exact own_up arg1 (by rw [ev1]; exact own_bud arg0))))).1)) hZ (w_49 hw) (w_7 hw) (by decide) (by decide)) q15a q15c (g := (mkF m 42 #[.val (.long arg0), .second, .val (.long arg1), .second, .val (.long arg2), .second, .val (.long v1), .second, .val (.long v3), .second, .val (.long v5), .second, .val (.ref b6)] [(.long v3), (.ref b6)])) rfl (by rw [hml]; rfl) (Steps.refl _) (argsL := [(.long v3)]) (rest := []) (lenOf own_pd7 rfl) rfl (by show 2 * 0 + _ ≤ _; exact Nat.le_of_eq rfl) (hb hby at_42) (fun _ _ => ⟨rfl, rfl, (by decide : 3 + 0 ≤ _), (by decide : 8 + 0 ≤ _)⟩)
  dsimp only [Pt.U, Pt.locs, Pt.cells, Pt.slots] at X15 l15 y15_ z15_ st15 hQ15
  subst l15 y15_ z15_
  obtain ⟨rfl, N15q, K15, p15_0, p15_1, p15_2⟩ := hQ15
  have N15 := Fr.app N13 N15q
  have z16 : n0 ≤ T15.heap.size := Nat.le_trans z14 K15.1
  refine own_ss (B := T15.setTop (mkF m 45 #[.val (.long arg0), .second, .val (.long arg1), .second, .val (.long arg2), .second, .val (.long v1), .second, .val (.long v3), .second, .val (.long v5), .second, .val (.ref b6)] [])) st15 ?_
  refine own_st (B := T15.setTop (mkF m 47 #[.val (.long arg0), .second, .val (.long arg1), .second, .val (.long arg2), .second, .val (.long v1), .second, .val (.long v3), .second, .val (.long v5), .second, .val (.ref b6)] [(.ref b6)])) (fun t k => XS.aload X15.here hx rfl (hb hby at_45) rfl rfl k) ?_
  refine own_st (B := T15.setTop (mkF m 49 #[.val (.long arg0), .second, .val (.long arg1), .second, .val (.long arg2), .second, .val (.long v1), .second, .val (.long v3), .second, .val (.long v5), .second, .val (.ref b6)] [(.long v5), (.ref b6)])) (fun t k => XS.lload X15.here hx rfl (hb hby at_47) rfl k) ?_
  obtain ⟨cq17, kq17, q17a, q17b, q17c⟩ := isOf hZ rfl p15_0
  obtain ⟨_, _, ⟨T17, L17, k17, j17⟩, -, X17, ⟨Lc17, hQ17, l17, y17_, z17_⟩, st17⟩ := X15.virtualBack hx (y := (⟨"dev/pathfire/json/Utf8Buffer", "reserve", "(J)V"⟩ : MethodName)) (z := (⟨"dev/pathfire/json/Utf8Buffer", "reserve", "(J)V"⟩ : MethodName)) hown (mvT hZ (w_45 hw)) (mvT hZ (w_46 hw)) (notFace_of_selects (args := #[]) (mvT hZ (w_48 hw))) (mvT hZ (w_48 hw)) (mvT hZ (w_47 hw)) (by decide) (backOf (W := 0) (rm7 l Z a0 hw [] b6 v5 (v1 - v3) (0 : Int64) T15.heap n0 z16 p15_0 p15_1 p15_2 u6 ((own_all (B := v1) (r1 := v3) (r2 := v5) (by rw [ev1]; exact own_bud arg0) (by rw [ev3]; exact own_up arg1 (by rw [ev1]; exact own_bud arg0)) (by rw [ev5]; exact own_up arg2 (own_sub (by rw [ev1]; exact own_bud arg0) (by rw [ev3]; exact own_up arg1 (by rw [ev1]; exact own_bud arg0))))).2.2.1)) hZ (w_49 hw) (w_7 hw) (by decide) (by decide)) q17a q17c (g := (mkF m 49 #[.val (.long arg0), .second, .val (.long arg1), .second, .val (.long arg2), .second, .val (.long v1), .second, .val (.long v3), .second, .val (.long v5), .second, .val (.ref b6)] [(.long v5), (.ref b6)])) rfl (by rw [hml]; rfl) (Steps.refl _) (argsL := [(.long v5)]) (rest := []) (lenOf own_pd7 rfl) rfl (by show 2 * 0 + _ ≤ _; exact Nat.le_of_eq rfl) (hb hby at_49) (fun _ _ => ⟨rfl, rfl, (by decide : 3 + 0 ≤ _), (by decide : 8 + 0 ≤ _)⟩)
  dsimp only [Pt.U, Pt.locs, Pt.cells, Pt.slots] at X17 l17 y17_ z17_ st17 hQ17
  subst l17 y17_ z17_
  obtain ⟨rfl, N17q, K17, p17_0, p17_1, p17_2⟩ := hQ17
  have N17 := Fr.app N15 N17q
  have z18 : n0 ≤ T17.heap.size := Nat.le_trans z16 K17.1
  refine own_ss (B := T17.setTop (mkF m 52 #[.val (.long arg0), .second, .val (.long arg1), .second, .val (.long arg2), .second, .val (.long v1), .second, .val (.long v3), .second, .val (.long v5), .second, .val (.ref b6)] [])) st17 ?_
  refine own_st (B := T17.setTop (mkF m 54 #[.val (.long arg0), .second, .val (.long arg1), .second, .val (.long arg2), .second, .val (.long v1), .second, .val (.long v3), .second, .val (.long v5), .second, .val (.ref b6)] [(.ref b6)])) (fun t k => XS.aload X17.here hx rfl (hb hby at_52) rfl rfl k) ?_
  refine own_st (B := T17.setTop (mkF m 56 #[.val (.long arg0), .second, .val (.long arg1), .second, .val (.long arg2), .second, .val (.long v1), .second, .val (.long v3), .second, .val (.long v5), .second, .val (.ref b6)] [(.long v3), (.ref b6)])) (fun t k => XS.lload X17.here hx rfl (hb hby at_54) rfl k) ?_
  obtain ⟨cq19, kq19, q19a, q19b, q19c⟩ := isOf hZ rfl p17_0
  obtain ⟨_, _, ⟨T19, L19, k19, j19⟩, -, X19, ⟨Lc19, hQ19, l19, y19_, z19_⟩, st19⟩ := X17.virtualBack hx (y := (⟨"dev/pathfire/json/Utf8Buffer", "release", "(J)V"⟩ : MethodName)) (z := (⟨"dev/pathfire/json/Utf8Buffer", "release", "(J)V"⟩ : MethodName)) hown (mvT hZ (w_50 hw)) (mvT hZ (w_51 hw)) (notFace_of_selects (args := #[]) (mvT hZ (w_53 hw))) (mvT hZ (w_53 hw)) (mvT hZ (w_52 hw)) (by decide) (backOf (W := 0) (rm8 l Z a0 hw [] b6 v3 ((v1 - v3) - v5) (0 : Int64) T17.heap n0 z18 p17_0 p17_1 p17_2 u6) hZ (w_54 hw) (w_7 hw) (by decide) (by decide)) q19a q19c (g := (mkF m 56 #[.val (.long arg0), .second, .val (.long arg1), .second, .val (.long arg2), .second, .val (.long v1), .second, .val (.long v3), .second, .val (.long v5), .second, .val (.ref b6)] [(.long v3), (.ref b6)])) rfl (by rw [hml]; rfl) (Steps.refl _) (argsL := [(.long v3)]) (rest := []) (lenOf own_pd7 rfl) rfl (by show 2 * 0 + _ ≤ _; exact Nat.le_of_eq rfl) (hb hby at_56) (fun _ _ => ⟨rfl, rfl, (by decide : 3 + 0 ≤ _), (by decide : 8 + 0 ≤ _)⟩)
  dsimp only [Pt.U, Pt.locs, Pt.cells, Pt.slots] at X19 l19 y19_ z19_ st19 hQ19
  subst l19 y19_ z19_
  obtain ⟨rfl, N19q, K19, p19_0, p19_1, p19_2⟩ := hQ19
  have N19 := Fr.app N17 N19q
  have z20 : n0 ≤ T19.heap.size := Nat.le_trans z18 K19.1
  refine own_ss (B := T19.setTop (mkF m 59 #[.val (.long arg0), .second, .val (.long arg1), .second, .val (.long arg2), .second, .val (.long v1), .second, .val (.long v3), .second, .val (.long v5), .second, .val (.ref b6)] [])) st19 ?_
  refine own_st (B := T19.setTop (mkF m 61 #[.val (.long arg0), .second, .val (.long arg1), .second, .val (.long arg2), .second, .val (.long v1), .second, .val (.long v3), .second, .val (.long v5), .second, .val (.ref b6)] [(.ref b6)])) (fun t k => XS.aload X19.here hx rfl (hb hby at_59) rfl rfl k) ?_
  refine own_st (B := T19.setTop (mkF m 63 #[.val (.long arg0), .second, .val (.long arg1), .second, .val (.long arg2), .second, .val (.long v1), .second, .val (.long v3), .second, .val (.long v5), .second, .val (.ref b6)] [(.long v1), (.ref b6)])) (fun t k => XS.lload X19.here hx rfl (hb hby at_61) rfl k) ?_
  refine own_st (B := T19.setTop (mkF m 65 #[.val (.long arg0), .second, .val (.long arg1), .second, .val (.long arg2), .second, .val (.long v1), .second, .val (.long v3), .second, .val (.long v5), .second, .val (.ref b6)] [(.long v5), (.long v1), (.ref b6)])) (fun t k => XS.lload X19.here hx rfl (hb hby at_63) rfl k) ?_
  refine own_st (B := T19.setTop (mkF m 66 #[.val (.long arg0), .second, .val (.long arg1), .second, .val (.long arg2), .second, .val (.long v1), .second, .val (.long v3), .second, .val (.long v5), .second, .val (.ref b6)] [(.long (v1 - v5)), (.ref b6)])) (fun t k => XS.lsub X19.here hx rfl (hb hby at_65) rfl k) ?_
  obtain ⟨cq21, kq21, q21a, q21b, q21c⟩ := isOf hZ rfl p19_0
  obtain ⟨_, _, ⟨T21, L21, k21, j21⟩, -, X21, ⟨Lc21, hQ21, l21, y21_, z21_⟩, st21⟩ := X19.virtualBack hx (y := (⟨"dev/pathfire/json/Utf8Buffer", "reserve", "(J)V"⟩ : MethodName)) (z := (⟨"dev/pathfire/json/Utf8Buffer", "reserve", "(J)V"⟩ : MethodName)) hown (mvT hZ (w_45 hw)) (mvT hZ (w_46 hw)) (notFace_of_selects (args := #[]) (mvT hZ (w_48 hw))) (mvT hZ (w_48 hw)) (mvT hZ (w_47 hw)) (by decide) (backOf (W := 0) (rm7 l Z a0 hw [] b6 (v1 - v5) (((v1 - v3) - v5) + v3) (0 : Int64) T19.heap n0 z20 p19_0 p19_1 p19_2 u6 ((own_all (B := v1) (r1 := v3) (r2 := v5) (by rw [ev1]; exact own_bud arg0) (by rw [ev3]; exact own_up arg1 (by rw [ev1]; exact own_bud arg0)) (by rw [ev5]; exact own_up arg2 (own_sub (by rw [ev1]; exact own_bud arg0) (by rw [ev3]; exact own_up arg1 (by rw [ev1]; exact own_bud arg0))))).2.2.2.1)) hZ (w_49 hw) (w_7 hw) (by decide) (by decide)) q21a q21c (g := (mkF m 66 #[.val (.long arg0), .second, .val (.long arg1), .second, .val (.long arg2), .second, .val (.long v1), .second, .val (.long v3), .second, .val (.long v5), .second, .val (.ref b6)] [(.long (v1 - v5)), (.ref b6)])) rfl (by rw [hml]; rfl) (Steps.refl _) (argsL := [(.long (v1 - v5))]) (rest := []) (lenOf own_pd7 rfl) rfl (by show 2 * 0 + _ ≤ _; exact Nat.le_of_eq rfl) (hb hby at_66) (fun _ _ => ⟨rfl, rfl, (by decide : 3 + 0 ≤ _), (by decide : 8 + 0 ≤ _)⟩)
  dsimp only [Pt.U, Pt.locs, Pt.cells, Pt.slots] at X21 l21 y21_ z21_ st21 hQ21
  subst l21 y21_ z21_
  obtain ⟨rfl, N21q, K21, p21_0, p21_1, p21_2⟩ := hQ21
  have N21 := Fr.app N19 N21q
  have z22 : n0 ≤ T21.heap.size := Nat.le_trans z20 K21.1
  refine own_ss (B := T21.setTop (mkF m 69 #[.val (.long arg0), .second, .val (.long arg1), .second, .val (.long arg2), .second, .val (.long v1), .second, .val (.long v3), .second, .val (.long v5), .second, .val (.ref b6)] [])) st21 ?_
  refine own_st (B := T21.setTop (mkF m 71 #[.val (.long arg0), .second, .val (.long arg1), .second, .val (.long arg2), .second, .val (.long v1), .second, .val (.long v3), .second, .val (.long v5), .second, .val (.ref b6)] [(.ref b6)])) (fun t k => XS.aload X21.here hx rfl (hb hby at_69) rfl rfl k) ?_
  refine own_st (B := T21.setTop (mkF m 72 #[.val (.long arg0), .second, .val (.long arg1), .second, .val (.long arg2), .second, .val (.long v1), .second, .val (.long v3), .second, .val (.long v5), .second, .val (.ref b6)] [(.long (0 : Int64)), (.ref b6)])) (fun t k => XS.lconst X21.here hx rfl (hb hby at_71) k) ?_
  obtain ⟨cq23, kq23, q23a, q23b, q23c⟩ := isOf hZ rfl p21_0
  obtain ⟨_, _, ⟨T23, L23, k23, j23⟩, -, X23, ⟨Lc23, hQ23, l23, y23_, z23_⟩, st23⟩ := X21.virtualBack hx (y := (⟨"dev/pathfire/json/Utf8Buffer", "reserve", "(J)V"⟩ : MethodName)) (z := (⟨"dev/pathfire/json/Utf8Buffer", "reserve", "(J)V"⟩ : MethodName)) hown (mvT hZ (w_45 hw)) (mvT hZ (w_46 hw)) (notFace_of_selects (args := #[]) (mvT hZ (w_48 hw))) (mvT hZ (w_48 hw)) (mvT hZ (w_47 hw)) (by decide) (backOf (W := 0) (rm7 l Z a0 hw [] b6 (0 : Int64) ((((v1 - v3) - v5) + v3) - (v1 - v5)) (0 : Int64) T21.heap n0 z22 p21_0 p21_1 p21_2 u6 ((own_all (B := v1) (r1 := v3) (r2 := v5) (by rw [ev1]; exact own_bud arg0) (by rw [ev3]; exact own_up arg1 (by rw [ev1]; exact own_bud arg0)) (by rw [ev5]; exact own_up arg2 (own_sub (by rw [ev1]; exact own_bud arg0) (by rw [ev3]; exact own_up arg1 (by rw [ev1]; exact own_bud arg0))))).2.2.2.2)) hZ (w_49 hw) (w_7 hw) (by decide) (by decide)) q23a q23c (g := (mkF m 72 #[.val (.long arg0), .second, .val (.long arg1), .second, .val (.long arg2), .second, .val (.long v1), .second, .val (.long v3), .second, .val (.long v5), .second, .val (.ref b6)] [(.long (0 : Int64)), (.ref b6)])) rfl (by rw [hml]; rfl) (Steps.refl _) (argsL := [(.long (0 : Int64))]) (rest := []) (lenOf own_pd7 rfl) rfl (by show 2 * 0 + _ ≤ _; exact Nat.le_of_eq rfl) (hb hby at_72) (fun _ _ => ⟨rfl, rfl, (by decide : 3 + 0 ≤ _), (by decide : 8 + 0 ≤ _)⟩)
  dsimp only [Pt.U, Pt.locs, Pt.cells, Pt.slots] at X23 l23 y23_ z23_ st23 hQ23
  subst l23 y23_ z23_
  obtain ⟨rfl, N23q, K23, p23_0, p23_1, p23_2⟩ := hQ23
  have N23 := Fr.app N21 N23q
  have z24 : n0 ≤ T23.heap.size := Nat.le_trans z22 K23.1
  refine own_ss (B := T23.setTop (mkF m 75 #[.val (.long arg0), .second, .val (.long arg1), .second, .val (.long arg2), .second, .val (.long v1), .second, .val (.long v3), .second, .val (.long v5), .second, .val (.ref b6)] [])) st23 ?_
  refine own_st (B := T23.setTop (mkF m 77 #[.val (.long arg0), .second, .val (.long arg1), .second, .val (.long arg2), .second, .val (.long v1), .second, .val (.long v3), .second, .val (.long v5), .second, .val (.ref b6)] [(.ref b6)])) (fun t k => XS.aload X23.here hx rfl (hb hby at_75) rfl rfl k) ?_
  obtain ⟨cq25, kq25, q25a, q25b, q25c⟩ := isOf hZ rfl p23_0
  obtain ⟨_, _, ⟨T25, L25, k25, j25⟩, -, X25, ⟨Lc25, hQ25, l25, y25_, z25_⟩, st25⟩ := X23.virtualBack hx (y := (⟨"dev/pathfire/json/Utf8Buffer", "size", "()J"⟩ : MethodName)) (z := (⟨"dev/pathfire/json/Utf8Buffer", "size", "()J"⟩ : MethodName)) hown (mvT hZ (w_55 hw)) (mvT hZ (w_56 hw)) (notFace_of_selects (args := #[]) (mvT hZ (w_58 hw))) (mvT hZ (w_58 hw)) (mvT hZ (w_57 hw)) (by decide) (backOf (W := 0) (rm9 l Z a0 hw [] b6 (0 : Int64) T23.heap n0 z24 p23_2) hZ (w_59 hw) (w_7 hw) (by decide) (by decide)) q25a q25c (g := (mkF m 77 #[.val (.long arg0), .second, .val (.long arg1), .second, .val (.long arg2), .second, .val (.long v1), .second, .val (.long v3), .second, .val (.long v5), .second, .val (.ref b6)] [(.ref b6)])) rfl (by rw [hml]; rfl) (Steps.refl _) (argsL := []) (rest := []) (lenOf own_pd8 rfl) rfl (by show 2 * 0 + _ ≤ _; exact Nat.le_of_eq rfl) (hb hby at_77) (fun _ _ => ⟨rfl, rfl, (by decide : 3 + 0 ≤ _), (by decide : 8 + 0 ≤ _)⟩)
  dsimp only [Pt.U, Pt.locs, Pt.cells, Pt.slots] at X25 l25 y25_ z25_ st25 hQ25
  subst l25 y25_ z25_
  obtain ⟨rfl, N25q, e25q⟩ := hQ25
  have N25 := Fr.app N23 N25q
  refine own_ss (B := T25.setTop (mkF m 80 #[.val (.long arg0), .second, .val (.long arg1), .second, .val (.long arg2), .second, .val (.long v1), .second, .val (.long v3), .second, .val (.long v5), .second, .val (.ref b6)] [(.long (0 : Int64))])) st25 ?_
  refine own_st (B := T25.setTop (mkF m 81 #[.val (.long arg0), .second, .val (.long arg1), .second, .val (.long arg2), .second, .val (.long v1), .second, .val (.long v3), .second, .val (.long v5), .second, .val (.ref b6)] [(.long (0 : Int64)), (.long (0 : Int64))])) (fun t k => XS.lconst X25.here hx rfl (hb hby at_80) k) ?_
  refine own_st (B := T25.setTop (mkF m 82 #[.val (.long arg0), .second, .val (.long arg1), .second, .val (.long arg2), .second, .val (.long v1), .second, .val (.long v3), .second, .val (.long v5), .second, .val (.ref b6)] [(.int (XT.cmpL (0 : Int64) (0 : Int64)))])) (fun t k => XS.lcmp X25.here hx rfl (hb hby at_81) rfl k) ?_
  refine own_st (B := T25.setTop (mkF m 85 #[.val (.long arg0), .second, .val (.long arg1), .second, .val (.long arg2), .second, .val (.long v1), .second, .val (.long v3), .second, .val (.long v5), .second, .val (.ref b6)] [])) (fun t k => XS.ifNo X25.here hx rfl (hb hby at_82) rfl (XT.ll_ne_f rfl) k) ?_
  refine own_st (B := T25.setTop (mkF m 86 #[.val (.long arg0), .second, .val (.long arg1), .second, .val (.long arg2), .second, .val (.long v1), .second, .val (.long v3), .second, .val (.long v5), .second, .val (.ref b6)] [(.int (1 : Int32))])) (fun t k => XS.iconst X25.here hx rfl (hb hby at_85) k) ?_
  refine own_st (B := T25.setTop (mkF m 90 #[.val (.long arg0), .second, .val (.long arg1), .second, .val (.long arg2), .second, .val (.long v1), .second, .val (.long v3), .second, .val (.long v5), .second, .val (.ref b6)] [(.int (1 : Int32))])) (fun t k => XS.goto X25.here hx rfl (pc0 := 86) (pc' := 90) rfl (hb hby at_86) (by decide) (by decide) k) ?_
  refine own_retN X25 hx hlk (t := .boolean) Bd.returns (by simp) (z' := (1 : Int32)) rfl (hb hby at_90) (by decide) (by decide) ?_
  show Q0 Z arg0 arg1 arg2 r1 h0 n0 _ T25.heap _
  rw [e25q]
  exact ⟨rfl, N25⟩
set_option maxHeartbeats 40000000 in
theorem comes_1 {Post : Tables → Env → Array Value → State → Outcome → State → Prop} (hpost : ∀ tb e args s v u, (limb_1_1.after args s (.returned v) u = true ∧ limb_1_2.after args s (.returned v) u = true ∧ True) → FrameEnd s (.returned v) u (Jvm.fieldLocs frame_1_writes args s ++ Jvm.arrayLocs frame_1_arrays args s ++ Jvm.staticLocs frame_1_statics s) 16 128 → Post tb e args s (.returned v) u) :
    ArmFor flags0 classFile x code maxLocals ret World_1 tables_1 room_1 Calls_1 rest_1 Pre_1 Post := by
  intro l hfl _ _ p e ha hc hk s m args below hf hA hF happ hP
  obtain ⟨hcalls, hrest, hpre⟩ := hP
  obtain ⟨-, -, -, hnamed, -, -, -, hat⟩ := (Spec.applies_iff hf).mp happ
  obtain ⟨hg, hn⟩ := and_e (Cond.before_iff.mp (show (Jvm.Cond.and given_1 narrow_1).before args s = true from hpre))
  obtain ⟨g1a, g1b⟩ := and_e hg
  obtain ⟨g2a, g2b⟩ := and_e g1b
  obtain ⟨g3a, g3b⟩ := and_e g2b
  obtain ⟨w0, w1, w2, rfl⟩ : ∃ w0 w1 w2 : Value, args = #[w0, w1, w2] := by
    have hs : args.size = 3 := by simpa [Cond.value, given_1] using g1a
    obtain ⟨L⟩ := args
    match L, hs with
    | [w0, w1, w2], _ => exact ⟨w0, w1, w2, rfl⟩
  have hw := fun d (hd : d ∈ tables_1) => atoms_spec (ws := Jvm.Cond.code x code maxLocals ret :: tables_1) hat d (List.mem_cons_of_mem _ hd)
  have hfit : Fit s := fun {y c} hc i hi => by
    obtain ⟨ha, rfl⟩ := Array.getElem?_eq_some_iff.mp hc
    have q := List.all_eq_true.mp ((Array.all_eq_true_iff_forall_mem.mp hF) _ (Array.getElem_mem ha)) i (List.mem_range.mpr hi)
    simpa [Array.getElem?_eq_getElem hi] using q
  obtain ⟨hsets, hown0⟩ := atoms_of _ (rest_1_c_eq ▸ (show rest_1_c.before _ s = true from hrest))
  have hr0 := Cond.before_iff.mp hown0
  obtain ⟨i0, ei0⟩ := isL_v g2a
  obtain rfl : w0 = (.long i0) := Option.some.inj ei0
  obtain ⟨i1, ei1⟩ := isL_v g3a
  obtain rfl : w1 = (.long i1) := Option.some.inj ei1
  obtain ⟨i2, ei2⟩ := isL_v g3b
  obtain rfl : w2 = (.long i2) := Option.some.inj ei2
  obtain ⟨r1, er1⟩ := exa_v (Cond.before_iff.mp (hsets _ (List.mem_of_getElem? (i := 7) rfl)))
  have S1 : Sta s s.heap "java/util/ArrayList" "DEFAULTCAPACITY_EMPTY_ELEMENTDATA" "[Ljava/lang/Object;" (.ref r1) := Sta.start er1 (Or.inr ⟨(w_16 hw), (hsets _ (List.mem_of_getElem? (i := 2) rfl))⟩)
  obtain ⟨n, o, h1, h2, h3, _, L, rfl, ⟨rfl, N⟩, hq⟩ := rm0 l s _ hw tables_1 i0 i1 i2 r1 s.heap s.heap.size (Nat.le_refl _) S1 p e ha hc hk s m _ below hf ((Spec.applies_iff_loose hf).mp happ).1 ⟨rfl, State.Warmed39.refl s, rfl⟩ trivial
  refine ⟨n, _, h1, h2, h3, hpost _ _ _ _ _ _ ⟨Cond.after_iff.mpr rfl, Cond.after_iff.mpr (eq_i res_at (Term.int_eval (1)) rfl), trivial⟩ ⟨hq.1, hq.2.1, (hq.2.2.sift fun y hy => Or.inr (N y hy)).mono (by decide) (by decide)⟩⟩
theorem main_1_1 : Claimed_1_1 := comes_1 fun _ _ _ _ _ _ h hF => ⟨h.1, hF⟩
theorem main_1_2 : Claimed_1_2 := comes_1 fun _ _ _ _ _ _ h hF => ⟨h.2.1, hF⟩
end Jvm.Pilot.@@N@@
namespace Jvm.Pilot.@@N@@
open Jvm Jvm.ClassFile Sem Op Lib Jvm.Free Jvm.Stand Jvm.Pilot.@@N@@.Jvm.D
/-! MADE BY PROGRAM (witnessworld.py) out of the Statement's table words and the real class files: 18 classes; the members and pool entries that the words name. The judged class is class 1, her method 2. -/
namespace start1
open Jvm.ClassFile
def u (s : String) : CpInfo := .utf8 (stringToUtf16 s)
/-- a pool by its gaps: so many unusable entries, then the entry; so many at the end -/
def gap : Nat → List CpInfo → List CpInfo
  | 0, r => r
  | n + 1, r => .unusable :: gap n r
def poolList (es : List (Nat × CpInfo)) (last : Nat) : List CpInfo := es.foldr (fun e r => gap e.1 (e.2 :: r)) (gap last [])
def pool (es : List (Nat × CpInfo)) (last : Nat) : Array CpInfo := ⟨poolList es last⟩
def fileOf (pool : Array CpInfo) (this : Nat) (attrs : Array Attribute := #[]) (ms : Array MethodInfo := #[]) (fl : Nat := 33) (sup : Nat := 0) (ifs : Array Nat := #[]) (fds : Array FieldInfo := #[]) : ClassFile where
  minorVersion := 0
  majorVersion := 65
  constantPool := pool
  accessFlags := fl
  thisClass := this
  superClass := sup
  interfaces := ifs
  fields := fds
  methods := ms
  attributes := attrs
def plain (name : String) (sup : Option ClassId) : Class where
  name := name
  kind := .ordinary
  loader := none
  accessFlags := 33
  super := sup
  interfaces := #[]
  cf := none
  fields := #[]
  methods := #[]
  instanceTypes := #[]
  staticTypes := #[]
  resolved := #[]
  callSites := []
  init := .initialized
  statics := none
  mirror := none

def pool0 : Array CpInfo := pool [(5, u "<init>"), (0, u "()V"), (1, .class_ 10), (1, u "java/lang/Object")] 113

def k0c0 : Code := { maxStack := 0, maxLocals := 1, code := object_method_1_code, exceptionTable := #[], attributes := #[] }
def k0m0 : Method := { name := "<init>", desc := "()V", sig := { parameters := [], returnType := none }, accessFlags := 1, code := some k0c0 }
/-- java/lang/Object -/
def k0 : Class := { plain "java/lang/Object" none with
  accessFlags := 33
  interfaces := #[]
  cf := some (fileOf pool0 8 #[] #[{ accessFlags := 1, nameIndex := 5, descriptorIndex := 6, attributes := #[] }] 33 0 #[] #[])
  fields := #[]
  methods := #[k0m0]
  instanceTypes := #[]
  staticTypes := #[]
  resolved := Array.replicate 124 none
  statics := none }

def pool1 : Array CpInfo := pool [(2, .class_ 4), (1, u "java/lang/Object"), (0, u "<init>"), (0, u "()V"), (2, .long 9223372036854775807), (1, .methodref 12 13), (0, .class_ 14), (0, .nameAndType 15 16), (0, u "dev/pathfire/json/Utf8BufferReservePinLaw"), (0, u "upTo"), (0, u "(JJ)J"), (0, .class_ 18), (0, u "dev/pathfire/json/Utf8Buffer"), (0, .methodref 17 20), (0, .nameAndType 5 21), (0, u "(J)V"), (0, .methodref 17 23), (0, .nameAndType 24 21), (0, u "reserve"), (0, .methodref 17 26), (0, .nameAndType 27 21), (0, u "release"), (0, .methodref 17 29), (0, .nameAndType 30 31), (0, u "size"), (0, u "()J"), (3, u "law"), (0, u "(JJJ)Z")] 2

def k1m0 : Method := { name := "<init>", desc := "()V", sig := { parameters := [], returnType := none }, accessFlags := 1, code := none }
def k1c1 : Code := { maxStack := 6, maxLocals := 6, code := method_2_code, exceptionTable := #[], attributes := #[] }
def k1m1 : Method := { name := "upTo", desc := "(JJ)J", sig := { parameters := [.long, .long], returnType := some .long }, accessFlags := 10, code := some k1c1 }
def k1c2 : Code := { maxStack := 6, maxLocals := 13, code := code, exceptionTable := #[], attributes := #[] }
def k1m2 : Method := { name := "law", desc := "(JJJ)Z", sig := { parameters := [.long, .long, .long], returnType := some .boolean }, accessFlags := 9, code := some k1c2 }
/-- dev/pathfire/json/Utf8BufferReservePinLaw -/
def k1 : Class := { plain "dev/pathfire/json/Utf8BufferReservePinLaw" (some 0) with
  accessFlags := 49
  interfaces := #[]
  cf := some (fileOf pool1 12 #[] #[{ accessFlags := 1, nameIndex := 5, descriptorIndex := 6, attributes := #[] }, { accessFlags := 10, nameIndex := 15, descriptorIndex := 16, attributes := #[] }, { accessFlags := 9, nameIndex := 35, descriptorIndex := 36, attributes := #[] }] 49 2 #[] #[])
  fields := #[]
  methods := #[k1m0, k1m1, k1m2]
  instanceTypes := #[]
  staticTypes := #[]
  resolved := Array.replicate 39 none
  statics := none }

def pool2 : Array CpInfo := pool [(1, .methodref 2 3), (0, .class_ 4), (0, .nameAndType 5 6), (0, u "java/lang/Object"), (0, u "<init>"), (0, u "()V"), (0, .class_ 8), (0, u "java/util/ArrayList"), (0, .methodref 7 3), (0, .fieldref 11 12), (0, .class_ 13), (0, .nameAndType 14 15), (0, u "dev/pathfire/json/Utf8Buffer"), (0, u "chunks"), (0, u "Ljava/util/List;"), (0, .fieldref 11 17), (0, .nameAndType 18 19), (0, u "last"), (0, u "[B"), (0, .fieldref 11 21), (0, .nameAndType 22 23), (0, u "room"), (0, u "J"), (0, .fieldref 11 25), (0, .nameAndType 26 23), (0, u "size"), (0, .class_ 28), (0, u "dev/pathfire/json/Utf8Buffer$Overrun"), (44, u "used"), (0, u "I"), (52, u "CHUNK"), (3, u "(J)V"), (2, u "()J"), (0, u "reserve"), (1, u "release")] 13

def k2c0 : Code := { maxStack := 3, maxLocals := 3, code := prog_19_method_1_code, exceptionTable := #[], attributes := #[] }
def k2m0 : Method := { name := "<init>", desc := "(J)V", sig := { parameters := [.long], returnType := none }, accessFlags := 0, code := some k2c0 }
def k2c1 : Code := { maxStack := 2, maxLocals := 1, code := prog_19_method_2_code, exceptionTable := #[], attributes := #[] }
def k2m1 : Method := { name := "size", desc := "()J", sig := { parameters := [], returnType := some .long }, accessFlags := 0, code := some k2c1 }
def k2c2 : Code := { maxStack := 5, maxLocals := 3, code := prog_19_method_3_code, exceptionTable := #[], attributes := #[] }
def k2m2 : Method := { name := "reserve", desc := "(J)V", sig := { parameters := [.long], returnType := none }, accessFlags := 0, code := some k2c2 }
def k2c3 : Code := { maxStack := 5, maxLocals := 3, code := prog_19_method_4_code, exceptionTable := #[], attributes := #[] }
def k2m3 : Method := { name := "release", desc := "(J)V", sig := { parameters := [.long], returnType := none }, accessFlags := 0, code := some k2c3 }
/-- dev/pathfire/json/Utf8Buffer -/
def k2 : Class := { plain "dev/pathfire/json/Utf8Buffer" (some 0) with
  accessFlags := 48
  interfaces := #[]
  cf := some (fileOf pool2 11 #[.nestMembers #[27]] #[{ accessFlags := 0, nameIndex := 5, descriptorIndex := 131, attributes := #[] }, { accessFlags := 0, nameIndex := 26, descriptorIndex := 134, attributes := #[] }, { accessFlags := 0, nameIndex := 135, descriptorIndex := 131, attributes := #[] }, { accessFlags := 0, nameIndex := 137, descriptorIndex := 131, attributes := #[] }] 48 2 #[] #[{ accessFlags := 26, nameIndex := 127, descriptorIndex := 74, attributes := #[] }, { accessFlags := 18, nameIndex := 14, descriptorIndex := 15, attributes := #[] }, { accessFlags := 2, nameIndex := 18, descriptorIndex := 19, attributes := #[] }, { accessFlags := 2, nameIndex := 73, descriptorIndex := 74, attributes := #[] }, { accessFlags := 2, nameIndex := 26, descriptorIndex := 23, attributes := #[] }, { accessFlags := 2, nameIndex := 22, descriptorIndex := 23, attributes := #[] }])
  fields := #[{ name := "CHUNK", type := .int, accessFlags := 26, slot := 0, constantValue := 0 }, { name := "chunks", type := (.object "java/util/List"), accessFlags := 18, slot := 0, constantValue := 0 }, { name := "last", type := (.array .byte), accessFlags := 2, slot := 1, constantValue := 0 }, { name := "used", type := .int, accessFlags := 2, slot := 2, constantValue := 0 }, { name := "size", type := .long, accessFlags := 2, slot := 3, constantValue := 0 }, { name := "room", type := .long, accessFlags := 2, slot := 4, constantValue := 0 }]
  methods := #[k2m0, k2m1, k2m2, k2m3]
  instanceTypes := #[(.object "java/util/List"), (.array .byte), .int, .long, .long]
  staticTypes := #[.int]
  resolved := Array.replicate 151 none
  statics := none }

def pool3 : Array CpInfo := pool [(8, .class_ 10), (1, u "java/lang/Iterable"), (24, .class_ 36), (0, u "java/lang/Object")] 25

/-- java/lang/Iterable -/
def k3 : Class := { plain "java/lang/Iterable" (some 0) with
  accessFlags := 1537
  interfaces := #[]
  cf := some (fileOf pool3 8 #[] #[] 1537 35 #[] #[])
  fields := #[]
  methods := #[]
  instanceTypes := #[]
  staticTypes := #[]
  resolved := Array.replicate 62 none
  statics := none }

def pool4 : Array CpInfo := pool [(10, .class_ 12), (1, u "java/util/Collection"), (47, .class_ 61), (0, u "java/lang/Object"), (0, .class_ 63), (0, u "java/lang/Iterable")] 51

/-- java/util/Collection -/
def k4 : Class := { plain "java/util/Collection" (some 0) with
  accessFlags := 1537
  interfaces := #[3]
  cf := some (fileOf pool4 10 #[] #[] 1537 60 #[62] #[])
  fields := #[]
  methods := #[]
  instanceTypes := #[]
  staticTypes := #[]
  resolved := Array.replicate 115 none
  statics := none }

def pool5 : Array CpInfo := pool [(1, .methodref 2 3), (0, .class_ 4), (0, .nameAndType 5 6), (0, u "java/lang/Object"), (0, u "<init>"), (0, u "()V"), (1, .class_ 10), (1, u "java/util/AbstractCollection"), (66, .class_ 78), (0, u "java/util/Collection")] 81

def k5c0 : Code := { maxStack := 1, maxLocals := 1, code := jdk_22_method_1_code, exceptionTable := #[], attributes := #[] }
def k5m0 : Method := { name := "<init>", desc := "()V", sig := { parameters := [], returnType := none }, accessFlags := 4, code := some k5c0 }
/-- java/util/AbstractCollection -/
def k5 : Class := { plain "java/util/AbstractCollection" (some 0) with
  accessFlags := 1057
  interfaces := #[4]
  cf := some (fileOf pool5 8 #[] #[{ accessFlags := 4, nameIndex := 5, descriptorIndex := 6, attributes := #[] }] 1057 2 #[77] #[])
  fields := #[]
  methods := #[k5m0]
  instanceTypes := #[]
  staticTypes := #[]
  resolved := Array.replicate 160 none
  statics := none }

def pool6 : Array CpInfo := pool [(8, .class_ 10), (1, u "java/util/SequencedCollection"), (15, .class_ 27), (0, u "java/lang/Object"), (0, .class_ 29), (0, u "java/util/Collection")] 27

/-- java/util/SequencedCollection -/
def k6 : Class := { plain "java/util/SequencedCollection" (some 0) with
  accessFlags := 1537
  interfaces := #[4]
  cf := some (fileOf pool6 8 #[] #[] 1537 26 #[28] #[])
  fields := #[]
  methods := #[]
  instanceTypes := #[]
  staticTypes := #[]
  resolved := Array.replicate 57 none
  statics := none }

def pool7 : Array CpInfo := pool [(8, .class_ 10), (1, u "java/util/List"), (92, .class_ 104), (0, u "java/lang/Object"), (15, .class_ 121), (0, u "java/util/SequencedCollection")] 129

/-- java/util/List -/
def k7 : Class := { plain "java/util/List" (some 0) with
  accessFlags := 1537
  interfaces := #[6]
  cf := some (fileOf pool7 8 #[] #[] 1537 103 #[120] #[])
  fields := #[]
  methods := #[]
  instanceTypes := #[]
  staticTypes := #[]
  resolved := Array.replicate 251 none
  statics := none }

def pool8 : Array CpInfo := pool [(1, .methodref 2 3), (0, .class_ 4), (0, .nameAndType 5 6), (0, u "java/util/AbstractCollection"), (0, u "<init>"), (0, u "()V"), (0, .fieldref 8 9), (0, .class_ 10), (0, .nameAndType 11 12), (0, u "java/util/AbstractList"), (0, u "modCount"), (0, u "I"), (64, .class_ 78), (0, u "java/util/AbstractList$Itr"), (3, .class_ 83), (0, u "java/util/AbstractList$ListItr"), (9, .class_ 94), (0, u "java/util/AbstractList$RandomAccessSubList"), (3, .class_ 99), (0, u "java/util/AbstractList$SubList"), (33, .class_ 134), (0, u "java/util/List"), (73, .class_ 209), (0, u "java/util/AbstractList$SubList$1"), (0, .class_ 211), (0, u "java/util/AbstractList$RandomAccessSpliterator")] 6

def k8c0 : Code := { maxStack := 2, maxLocals := 1, code := jdk_39_method_1_code, exceptionTable := #[], attributes := #[] }
def k8m0 : Method := { name := "<init>", desc := "()V", sig := { parameters := [], returnType := none }, accessFlags := 4, code := some k8c0 }
/-- java/util/AbstractList -/
def k8 : Class := { plain "java/util/AbstractList" (some 5) with
  accessFlags := 1057
  interfaces := #[7]
  cf := some (fileOf pool8 8 #[.nestMembers #[93, 98, 208, 210, 82, 77]] #[{ accessFlags := 4, nameIndex := 5, descriptorIndex := 6, attributes := #[] }] 1057 2 #[133] #[{ accessFlags := 132, nameIndex := 11, descriptorIndex := 12, attributes := #[] }])
  fields := #[{ name := "modCount", type := .int, accessFlags := 132, slot := 0, constantValue := 0 }]
  methods := #[k8m0]
  instanceTypes := #[.int]
  staticTypes := #[]
  resolved := Array.replicate 218 none
  statics := none }

def pool9 : Array CpInfo := pool [(1, .class_ 2), (0, u "java/util/RandomAccess"), (0, .class_ 4), (0, u "java/lang/Object")] 2

/-- java/util/RandomAccess -/
def k9 : Class := { plain "java/util/RandomAccess" (some 0) with
  accessFlags := 1537
  interfaces := #[]
  cf := some (fileOf pool9 1 #[] #[] 1537 3 #[] #[])
  fields := #[]
  methods := #[]
  instanceTypes := #[]
  staticTypes := #[]
  resolved := Array.replicate 7 none
  statics := none }

def pool10 : Array CpInfo := pool [(1, .class_ 2), (0, u "java/lang/Cloneable"), (0, .class_ 4), (0, u "java/lang/Object")] 2

/-- java/lang/Cloneable -/
def k10 : Class := { plain "java/lang/Cloneable" (some 0) with
  accessFlags := 1537
  interfaces := #[]
  cf := some (fileOf pool10 1 #[] #[] 1537 3 #[] #[])
  fields := #[]
  methods := #[]
  instanceTypes := #[]
  staticTypes := #[]
  resolved := Array.replicate 7 none
  statics := none }

def pool11 : Array CpInfo := pool [(1, .class_ 2), (0, u "java/io/Serializable"), (0, .class_ 4), (0, u "java/lang/Object")] 2

/-- java/io/Serializable -/
def k11 : Class := { plain "java/io/Serializable" (some 0) with
  accessFlags := 1537
  interfaces := #[]
  cf := some (fileOf pool11 1 #[] #[] 1537 3 #[] #[])
  fields := #[]
  methods := #[]
  instanceTypes := #[]
  staticTypes := #[]
  resolved := Array.replicate 7 none
  statics := none }

def pool12 : Array CpInfo := pool [(1, .methodref 2 3), (0, .class_ 4), (0, .nameAndType 5 6), (0, u "java/util/AbstractList"), (0, u "<init>"), (0, u "()V"), (2, .fieldref 10 11), (0, .class_ 12), (0, .nameAndType 13 14), (0, u "java/util/ArrayList"), (0, u "elementData"), (0, u "[Ljava/lang/Object;"), (2, u "EMPTY_ELEMENTDATA"), (21, .fieldref 10 40), (0, .nameAndType 41 14), (0, u "DEFAULTCAPACITY_EMPTY_ELEMENTDATA"), (8, u "size"), (0, u "I"), (96, .class_ 149), (0, u "java/util/List"), (112, .class_ 263), (0, u "java/util/ArrayList$ListItr"), (3, .class_ 268), (0, u "java/util/ArrayList$Itr"), (7, .class_ 277), (0, u "java/util/ArrayList$SubList"), (12, .class_ 291), (0, u "java/util/ArrayList$ArrayListSpliterator"), (37, .class_ 330), (0, u "java/util/RandomAccess"), (0, .class_ 332), (0, u "java/lang/Cloneable"), (0, .class_ 334), (0, u "java/io/Serializable"), (0, u "serialVersionUID"), (0, u "J"), (3, u "DEFAULT_CAPACITY"), (159, .class_ 501), (0, u "java/util/ArrayList$SubList$2"), (0, .class_ 503), (0, u "java/util/ArrayList$SubList$1")] 5

def k12c0 : Code := { maxStack := 2, maxLocals := 1, code := jdk_38_method_2_code, exceptionTable := #[], attributes := #[] }
def k12m0 : Method := { name := "<init>", desc := "()V", sig := { parameters := [], returnType := none }, accessFlags := 1, code := some k12c0 }
/-- java/util/ArrayList -/
def k12 : Class := { plain "java/util/ArrayList" (some 8) with
  accessFlags := 33
  interfaces := #[7, 9, 10, 11]
  cf := some (fileOf pool12 10 #[.nestMembers #[290, 276, 500, 502, 262, 267]] #[{ accessFlags := 1, nameIndex := 5, descriptorIndex := 6, attributes := #[] }] 33 2 #[148, 329, 331, 333] #[{ accessFlags := 26, nameIndex := 335, descriptorIndex := 336, attributes := #[] }, { accessFlags := 26, nameIndex := 340, descriptorIndex := 51, attributes := #[] }, { accessFlags := 26, nameIndex := 17, descriptorIndex := 14, attributes := #[] }, { accessFlags := 26, nameIndex := 41, descriptorIndex := 14, attributes := #[] }, { accessFlags := 128, nameIndex := 13, descriptorIndex := 14, attributes := #[] }, { accessFlags := 2, nameIndex := 50, descriptorIndex := 51, attributes := #[] }])
  fields := #[{ name := "serialVersionUID", type := .long, accessFlags := 26, slot := 0, constantValue := 0 }, { name := "DEFAULT_CAPACITY", type := .int, accessFlags := 26, slot := 1, constantValue := 0 }, { name := "EMPTY_ELEMENTDATA", type := (.array (.object "java/lang/Object")), accessFlags := 26, slot := 2, constantValue := 0 }, { name := "DEFAULTCAPACITY_EMPTY_ELEMENTDATA", type := (.array (.object "java/lang/Object")), accessFlags := 26, slot := 3, constantValue := 0 }, { name := "elementData", type := (.array (.object "java/lang/Object")), accessFlags := 128, slot := 1, constantValue := 0 }, { name := "size", type := .int, accessFlags := 2, slot := 2, constantValue := 0 }]
  methods := #[k12m0]
  instanceTypes := #[.int, (.array (.object "java/lang/Object")), .int]
  staticTypes := #[.long, .int, (.array (.object "java/lang/Object")), (.array (.object "java/lang/Object"))]
  resolved := Array.replicate 509 none
  statics := some 0 }

/-- the primitive byte -/
def k13 : Class := { plain "byte" none with kind := .primitive 'B', accessFlags := 0x411 }
/-- [B -/
def k14 : Class := { plain "[B" (some 0) with kind := .array 13 .byte, interfaces := #[10, 11], accessFlags := 1041 }

/-- the primitive int -/
def k15 : Class := { plain "int" none with kind := .primitive 'I', accessFlags := 0x411 }
/-- [I -/
def k16 : Class := { plain "[I" (some 0) with kind := .array 15 .int, interfaces := #[10, 11], accessFlags := 1041 }

/-- [Ljava/lang/Object; -/
def k17 : Class := { plain "[Ljava/lang/Object;" (some 0) with kind := .array 0 (.object "java/lang/Object"), interfaces := #[10, 11], accessFlags := 1041 }

def heap : Heap := #[{ cls := 12, slots := #[.long 0, .int 0, .ref 1, .ref 2], vm := .statics 12 },
  { cls := 17, slots := #[], vm := .none },
  { cls := 17, slots := #[], vm := .none }]
def classes : Array Class := #[k0, k1, k2, k3, k4, k5, k6, k7, k8, k9, k10, k11, k12, k13, k14, k15, k16, k17]
def interned : List (Array UInt16 × Addr) := []
def slotsUsed : Nat := 4
def theMethod : MethodId := ⟨1, 2⟩
def args0 : Array Value := #[.long 5, .long 5, .long 5]
def aboutOver (below : List Frame) : State where
  vm := { classes := classes, interned := interned.toArray }
  heap := heap
  slotsUsed := slotsUsed
  threads := #[{ frames := .invoking theMethod args0 :: below }]
def below0 : List Frame := [.native { method := ⟨0, 0⟩, args := #[] }]
def about1 : State := aboutOver below0
def p0 : Program := .bare "" "" ""
def e0 : Env := launch0.env 0 0 0
theorem w_frames : about1.frames = Frame.invoking theMethod args0 :: below0 := rfl
set_option maxRecDepth 65536 in
theorem w_args : argsFit about1.vm theMethod args0 = true := by decide +kernel
set_option maxRecDepth 65536 in
theorem w_heap : heapFits about1 = true := by decide +kernel
set_option maxRecDepth 65536 in
theorem w_runnable : about1.curStatus? = some .runnable := by decide +kernel
set_option maxRecDepth 65536 in
theorem w_alone : about1.alone = true := by decide +kernel
set_option maxRecDepth 65536 in
theorem w_named : about1.methodNamed? x = some theMethod := by decide +kernel
set_option maxRecDepth 65536 in
theorem w_hears : about1.hears theMethod below0 = true := by decide +kernel
set_option maxRecDepth 65536 in
theorem w_ripe : about1.ripe theMethod args0 below0 = true := by decide +kernel
theorem w_running : about1.status = .running := rfl
set_option maxRecDepth 65536 in
theorem w_room : about1.hasRoom e0.platform room_1 = true :=
  launch0.hasRoom_least _ room_1 (by decide +kernel) (by decide +kernel) (by decide +kernel) (by decide +kernel) (by decide +kernel) (by decide +kernel)
theorem allAtoms_all (ts : List Jvm.Cond) (a : Array Jvm.Value) (st : Jvm.State) : (allAtoms ts).before a st = ts.all (fun c => c.before a st) := by
  induction ts with
  | nil => rfl
  | cons c t ih =>
    show (Jvm.Cond.and c (allAtoms t)).before a st = _
    rw [Jvm.Cond.before_and, ih, List.all_cons]
def words1 : List Jvm.Cond := Jvm.Cond.code x code maxLocals ret :: tables_1
/-- a 'code' word, met by the world's own term for the bytes: nothing is compared byte by byte -/
theorem code_word {y : MethodName} {bytes : ByteArray} {mx : Nat} {rt : Option FieldType} {a : Array Value} {s : State} {m : MethodId} {meth : Method} {c : Code} (h1 : s.methodNamed? y = some m) (h2 : s.vm.method? m = some meth) (h3 : meth.code = some c) (h4 : c.code = bytes)
    (h5 : (c.maxLocals == mx && c.exceptionTable.isEmpty && decide (c.maxStack ≤ mostOperands) && decide (meth.sig.returnType = rt) && !meth.locks && decide (parseMethodDescriptor y.desc = some meth.sig)) = true) : (Jvm.Cond.code y bytes mx rt).before a s = true := by
  simp only [Bool.and_eq_true, beq_iff_eq, Bool.not_eq_true', decide_eq_true_eq] at h5
  obtain ⟨⟨⟨⟨⟨g1, g2⟩, g3⟩, g4⟩, g5⟩, g6⟩ := h5
  simp [Cond.before, Cond.holds, Cond.value, h1, h2, h3, h4, g1, g2, g3, g4, g5, g6]
def isCode : Jvm.Cond → Bool
  | .code _ _ _ _ => true
  | _ => false
theorem all_split {L : List Jvm.Cond} {P : Jvm.Cond → Bool} (h1 : L.all (fun c => isCode c || P c) = true) (h2 : ∀ c ∈ L.filter isCode, P c = true) : L.all P = true := by
  refine List.all_eq_true.mpr fun c hc => ?_
  have h := List.all_eq_true.mp h1 c hc
  rcases Bool.eq_false_or_eq_true (isCode c) with hi | hi
  · exact h2 c (List.mem_filter.mpr ⟨hc, hi⟩)
  · simpa [hi] using h
set_option maxRecDepth 65536 in
theorem w_c0 : (Jvm.Cond.code x code maxLocals ret).before args0 about1 = true := code_word (m := ⟨1, 2⟩) (meth := k1m2) (c := k1c2) (by decide +kernel) rfl rfl rfl (by decide +kernel)
set_option maxRecDepth 65536 in
theorem w_c1 : (Jvm.Cond.code ({ cls := "dev/pathfire/json/Utf8BufferReservePinLaw", name := "upTo", desc := "(JJ)J" } : Jvm.MethodName) method_2_code (6 : Nat) (Option.some Jvm.ClassFile.FieldType.long)).before args0 about1 = true := code_word (m := ⟨1, 1⟩) (meth := k1m1) (c := k1c1) (by decide +kernel) rfl rfl rfl (by decide +kernel)
set_option maxRecDepth 65536 in
theorem w_c2 : (Jvm.Cond.code ({ cls := "dev/pathfire/json/Utf8Buffer", name := "<init>", desc := "(J)V" } : Jvm.MethodName) prog_19_method_1_code (3 : Nat) (Option.none : Option Jvm.ClassFile.FieldType)).before args0 about1 = true := code_word (m := ⟨2, 0⟩) (meth := k2m0) (c := k2c0) (by decide +kernel) rfl rfl rfl (by decide +kernel)
set_option maxRecDepth 65536 in
theorem w_c3 : (Jvm.Cond.code ({ cls := "java/lang/Object", name := "<init>", desc := "()V" } : Jvm.MethodName) object_method_1_code (1 : Nat) (Option.none : Option Jvm.ClassFile.FieldType)).before args0 about1 = true := code_word (m := ⟨0, 0⟩) (meth := k0m0) (c := k0c0) (by decide +kernel) rfl rfl rfl (by decide +kernel)
set_option maxRecDepth 65536 in
theorem w_c4 : (Jvm.Cond.code ({ cls := "java/util/ArrayList", name := "<init>", desc := "()V" } : Jvm.MethodName) jdk_38_method_2_code (1 : Nat) (Option.none : Option Jvm.ClassFile.FieldType)).before args0 about1 = true := code_word (m := ⟨12, 0⟩) (meth := k12m0) (c := k12c0) (by decide +kernel) rfl rfl rfl (by decide +kernel)
set_option maxRecDepth 65536 in
theorem w_c5 : (Jvm.Cond.code ({ cls := "java/util/AbstractList", name := "<init>", desc := "()V" } : Jvm.MethodName) jdk_39_method_1_code (1 : Nat) (Option.none : Option Jvm.ClassFile.FieldType)).before args0 about1 = true := code_word (m := ⟨8, 0⟩) (meth := k8m0) (c := k8c0) (by decide +kernel) rfl rfl rfl (by decide +kernel)
set_option maxRecDepth 65536 in
theorem w_c6 : (Jvm.Cond.code ({ cls := "java/util/AbstractCollection", name := "<init>", desc := "()V" } : Jvm.MethodName) jdk_22_method_1_code (1 : Nat) (Option.none : Option Jvm.ClassFile.FieldType)).before args0 about1 = true := code_word (m := ⟨5, 0⟩) (meth := k5m0) (c := k5c0) (by decide +kernel) rfl rfl rfl (by decide +kernel)
set_option maxRecDepth 65536 in
theorem w_c7 : (Jvm.Cond.code ({ cls := "dev/pathfire/json/Utf8Buffer", name := "reserve", desc := "(J)V" } : Jvm.MethodName) prog_19_method_3_code (3 : Nat) (Option.none : Option Jvm.ClassFile.FieldType)).before args0 about1 = true := code_word (m := ⟨2, 2⟩) (meth := k2m2) (c := k2c2) (by decide +kernel) rfl rfl rfl (by decide +kernel)
set_option maxRecDepth 65536 in
theorem w_c8 : (Jvm.Cond.code ({ cls := "dev/pathfire/json/Utf8Buffer", name := "release", desc := "(J)V" } : Jvm.MethodName) prog_19_method_4_code (3 : Nat) (Option.none : Option Jvm.ClassFile.FieldType)).before args0 about1 = true := code_word (m := ⟨2, 3⟩) (meth := k2m3) (c := k2c3) (by decide +kernel) rfl rfl rfl (by decide +kernel)
set_option maxRecDepth 65536 in
theorem w_c9 : (Jvm.Cond.code ({ cls := "dev/pathfire/json/Utf8Buffer", name := "size", desc := "()J" } : Jvm.MethodName) prog_19_method_2_code (1 : Nat) (Option.some Jvm.ClassFile.FieldType.long)).before args0 about1 = true := code_word (m := ⟨2, 1⟩) (meth := k2m1) (c := k2c1) (by decide +kernel) rfl rfl rfl (by decide +kernel)
def codes1 : List Jvm.Cond := [Jvm.Cond.code x code maxLocals ret, Jvm.Cond.code ({ cls := "dev/pathfire/json/Utf8BufferReservePinLaw", name := "upTo", desc := "(JJ)J" } : Jvm.MethodName) method_2_code (6 : Nat) (Option.some Jvm.ClassFile.FieldType.long), Jvm.Cond.code ({ cls := "dev/pathfire/json/Utf8Buffer", name := "<init>", desc := "(J)V" } : Jvm.MethodName) prog_19_method_1_code (3 : Nat) (Option.none : Option Jvm.ClassFile.FieldType), Jvm.Cond.code ({ cls := "java/lang/Object", name := "<init>", desc := "()V" } : Jvm.MethodName) object_method_1_code (1 : Nat) (Option.none : Option Jvm.ClassFile.FieldType), Jvm.Cond.code ({ cls := "java/util/ArrayList", name := "<init>", desc := "()V" } : Jvm.MethodName) jdk_38_method_2_code (1 : Nat) (Option.none : Option Jvm.ClassFile.FieldType), Jvm.Cond.code ({ cls := "java/util/AbstractList", name := "<init>", desc := "()V" } : Jvm.MethodName) jdk_39_method_1_code (1 : Nat) (Option.none : Option Jvm.ClassFile.FieldType), Jvm.Cond.code ({ cls := "java/util/AbstractCollection", name := "<init>", desc := "()V" } : Jvm.MethodName) jdk_22_method_1_code (1 : Nat) (Option.none : Option Jvm.ClassFile.FieldType), Jvm.Cond.code ({ cls := "dev/pathfire/json/Utf8Buffer", name := "reserve", desc := "(J)V" } : Jvm.MethodName) prog_19_method_3_code (3 : Nat) (Option.none : Option Jvm.ClassFile.FieldType), Jvm.Cond.code ({ cls := "dev/pathfire/json/Utf8Buffer", name := "release", desc := "(J)V" } : Jvm.MethodName) prog_19_method_4_code (3 : Nat) (Option.none : Option Jvm.ClassFile.FieldType), Jvm.Cond.code ({ cls := "dev/pathfire/json/Utf8Buffer", name := "size", desc := "()J" } : Jvm.MethodName) prog_19_method_2_code (1 : Nat) (Option.some Jvm.ClassFile.FieldType.long)]
set_option maxRecDepth 65536 in
theorem codes_eq : words1.filter isCode = codes1 := rfl
theorem w_codes : ∀ c ∈ words1.filter isCode, c.before args0 about1 = true := by
  rw [codes_eq]
  intro c hc
  simp only [codes1, List.mem_cons, List.not_mem_nil, or_false] at hc
  rcases hc with rfl | rfl | rfl | rfl | rfl | rfl | rfl | rfl | rfl | rfl
  · exact w_c0
  · exact w_c1
  · exact w_c2
  · exact w_c3
  · exact w_c4
  · exact w_c5
  · exact w_c6
  · exact w_c7
  · exact w_c8
  · exact w_c9
set_option maxRecDepth 65536 in
theorem w_t1 : (words1.take 24).all (fun c => isCode c || c.before args0 about1) = true := by decide +kernel
set_option maxRecDepth 65536 in
theorem w_t2 : ((words1.drop 24).take 24).all (fun c => isCode c || c.before args0 about1) = true := by decide +kernel
set_option maxRecDepth 65536 in
theorem w_t3 : ((words1.drop 24).drop 24).all (fun c => isCode c || c.before args0 about1) = true := by decide +kernel
theorem w_tables : (allAtoms (Jvm.Cond.code x code maxLocals ret :: tables_1)).before args0 about1 = true := by
  rw [allAtoms_all]
  show words1.all (fun c => c.before args0 about1) = true
  refine all_split ?_ w_codes
  rw [← List.take_append_drop 24 words1, List.all_append, w_t1, ← List.take_append_drop 24 (words1.drop 24), List.all_append, w_t2, w_t3]
  rfl
set_option maxRecDepth 65536 in
theorem w_rest : rest_1_c.before args0 about1 = true := by decide +kernel
set_option maxRecDepth 65536 in
theorem w_case : (Jvm.Cond.and given_1 narrow_1).before args0 about1 = true := by decide +kernel
theorem w_applies : (headSpec (Jvm.Cond.code x code maxLocals ret :: tables_1) room_1).applies x e0.platform about1 = true :=
  (Spec.applies_iff w_frames).mpr ⟨w_running, w_runnable, w_alone, w_named, w_hears, w_ripe, w_room, w_tables⟩
theorem atStart : AtStart classFile x code maxLocals ret World_1 tables_1 room_1 Calls_1 rest_1 Pre_1 launch0 p0 e0 about1 theMethod args0 below0 :=
  ⟨lists_1, trivial, launch0.admits_env _ _ _, launch0.least_env, fairChoices_fair.cas, fairChoices_fair.clock, w_frames, w_args, w_heap, w_applies, trivial, w_rest, w_case⟩
end start1
theorem witness_1 : WitnessClaimed_1 := ⟨start1.p0, start1.e0, start1.about1, start1.theMethod, start1.args0, start1.below0, start1.atStart⟩
end Jvm.Pilot.@@N@@
